/-
  WALKS of seat b6614357aD: contextNumber.read, signed, integer (of a float64 and of an int64).
-/
import Derived.Test.Qxb6614357aDoorMath
import Derived.BigQuiet
namespace Go.Proofs.Qxb6614357aDoor
open Go.RowKit Ieee
set_option maxRecDepth 100000
theorem asf30 (b : Nat) (w : World) : (Instr.typeAssert (.iface 30 (.float .f64 b)) 20 30 true).run Tryd.prog w = .ok (.tuple #[.float .f64 b, .bool true]) w := by kernel_rfl
theorem asf36 (b : Nat) (w : World) : (Instr.typeAssert (.iface 30 (.float .f64 b)) 20 36 true).run Tryd.prog w = .ok (.tuple #[.string ⟨#[]⟩, .bool false]) w := by kernel_rfl
theorem asf9 (b : Nat) (w : World) : (Instr.typeAssert (.iface 30 (.float .f64 b)) 20 9 true).run Tryd.prog w = .ok (.tuple #[.string ⟨#[]⟩, .bool false]) w := by kernel_rfl

/-- The cells that the number's walks read. -/
structure CN (w : World) (B : Nat) (k : Int) (neg : Bool) (mag : Int) (fl : Nat) : Prop where
  c0 : w.cell? ⟨B, 0, none⟩ = some (.int .i64 k)
  c7 : w.cell? ⟨B, 7, none⟩ = some (.bool neg)
  c8 : w.cell? ⟨B, 8, none⟩ = some (.int .u64 mag)
  c9 : w.cell? ⟨B, 9, none⟩ = some (.float .f64 fl)
  f0 : w.frozen? ⟨B, 0, none⟩ = false
  f7 : w.frozen? ⟨B, 7, none⟩ = false
  f8 : w.frozen? ⟨B, 8, none⟩ = false
  f9 : w.frozen? ⟨B, 9, none⟩ = false

theorem run_store_float {P : Program} (w : World) (a : Addr) (m : Mode) (k : FloatKind) (n : Nat) : (store a (.float k n) m).run P w = stored P w a (.float k n) m := run_store P w a _ m rfl
attribute [local go_sem] run_store_float
theorem ne_off {B i j : Nat} (h : i ≠ j) : (⟨B, i, none⟩ : Addr) ≠ ⟨B, j, none⟩ := fun e => h (congrArg Addr.off e)
theorem cell_set_ne (w : World) {B i j : Nat} (v : Value) (h : i ≠ j) : (w.setCell ⟨B, i, none⟩ v).cell? ⟨B, j, none⟩ = w.cell? ⟨B, j, none⟩ :=
  World.cell?_setCell_other _ _ _ _ (ne_off h)
theorem cell_set_eq (w : World) {B i : Nat} {u : Value} (v : Value) (h : w.cell? ⟨B, i, none⟩ = some u) : (w.setCell ⟨B, i, none⟩ v).cell? ⟨B, i, none⟩ = some v :=
  World.cell?_setCell_same _ _ _ (by rw [h])

set_option maxHeartbeats 1000000 in
theorem readF_calls (w : World) (B : Nat) (b : Nat) (h : CN w B 0 false 0 0) :
    Calls Tryd.prog 14 #[.pointer (some ⟨B, 0, none⟩), .iface 30 (.float .f64 b)] w fun e w' => e = .returned (.bool (!(double.read b).isNaN)) ∧
      w' = (w.setCell ⟨B, 0, none⟩ (.int .i64 2)).setCell ⟨B, 9, none⟩ (.float .f64 b) := by
  obtain ⟨c0, c7, c8, c9, f0, f7, f8, f9⟩ := h
  have a1 := asf30 b
  have a2 := asf36 b
  have d9 : (w.setCell ⟨B, 0, none⟩ (.int .i64 2)).cell? ⟨B, 9, none⟩ = some (.float .f64 0) := by rw [cell_set_ne _ _ (by decide)]; exact c9
  have g9 : (w.setCell ⟨B, 0, none⟩ (.int .i64 2)).frozen? ⟨B, 9, none⟩ = false := by rw [World.frozen?_setCell]; exact f9
  have e9 := cell_set_eq _ (.float .f64 b) d9
  go_enter Tryd.func14, Tryd.ntmps14
  go_wp2_with fail
  refine (isNaN_calls b _).mono ?_
  rintro e w' ⟨rfl, rfl⟩
  go_wp2
  go_ret
  exact ⟨rfl, rfl⟩

theorem grow_refl (w : World) (r : Option Nat) : w.grownBy w r := ⟨rfl, rfl, rfl, Nat.le_refl _, fun _ _ _ => rfl⟩
theorem grow_set {w w' : World} {B : Nat} (h : w.grownBy w' (some B)) (o : Nat) (v : Value) : w.grownBy (w'.setCell ⟨B, o, none⟩ v) (some B) :=
  ⟨h.os, h.tape, h.output, by have := h.size; simpa [World.setCell] using this, fun k hk hne => by
    rw [Below.heap_setCell _ _ _ _ (fun e => hne (congrArg some e))]; exact h.block k hk hne⟩
theorem CN.kind {w : World} {B : Nat} {k neg mag fl} (h : CN w B k neg mag fl) (v : Int) : CN (w.setCell ⟨B, 0, none⟩ (.int .i64 v)) B v neg mag fl :=
  ⟨cell_set_eq _ _ h.c0, by rw [cell_set_ne _ _ (by decide)]; exact h.c7, by rw [cell_set_ne _ _ (by decide)]; exact h.c8, by rw [cell_set_ne _ _ (by decide)]; exact h.c9,
    by rw [World.frozen?_setCell]; exact h.f0, by rw [World.frozen?_setCell]; exact h.f7, by rw [World.frozen?_setCell]; exact h.f8, by rw [World.frozen?_setCell]; exact h.f9⟩
theorem CN.neg {w : World} {B : Nat} {k neg mag fl} (h : CN w B k neg mag fl) (v : Bool) : CN (w.setCell ⟨B, 7, none⟩ (.bool v)) B k v mag fl :=
  ⟨by rw [cell_set_ne _ _ (by decide)]; exact h.c0, cell_set_eq _ _ h.c7, by rw [cell_set_ne _ _ (by decide)]; exact h.c8, by rw [cell_set_ne _ _ (by decide)]; exact h.c9,
    by rw [World.frozen?_setCell]; exact h.f0, by rw [World.frozen?_setCell]; exact h.f7, by rw [World.frozen?_setCell]; exact h.f8, by rw [World.frozen?_setCell]; exact h.f9⟩
theorem CN.mag {w : World} {B : Nat} {k neg mag fl} (h : CN w B k neg mag fl) (v : Int) : CN (w.setCell ⟨B, 8, none⟩ (.int .u64 v)) B k neg v fl :=
  ⟨by rw [cell_set_ne _ _ (by decide)]; exact h.c0, by rw [cell_set_ne _ _ (by decide)]; exact h.c7, cell_set_eq _ _ h.c8, by rw [cell_set_ne _ _ (by decide)]; exact h.c9,
    by rw [World.frozen?_setCell]; exact h.f0, by rw [World.frozen?_setCell]; exact h.f7, by rw [World.frozen?_setCell]; exact h.f8, by rw [World.frozen?_setCell]; exact h.f9⟩
theorem CN.fl {w : World} {B : Nat} {k neg mag fl} (h : CN w B k neg mag fl) (v : Nat) : CN (w.setCell ⟨B, 9, none⟩ (.float .f64 v)) B k neg mag v :=
  ⟨by rw [cell_set_ne _ _ (by decide)]; exact h.c0, by rw [cell_set_ne _ _ (by decide)]; exact h.c7, by rw [cell_set_ne _ _ (by decide)]; exact h.c8, cell_set_eq _ _ h.c9,
    by rw [World.frozen?_setCell]; exact h.f0, by rw [World.frozen?_setCell]; exact h.f7, by rw [World.frozen?_setCell]; exact h.f8, by rw [World.frozen?_setCell]; exact h.f9⟩

/-- An answer of a function with no result. -/
def Void (e : Ending) : Prop := ∃ v, e = .returned v
set_option maxHeartbeats 1000000 in
theorem signed_calls (w : World) (B : Nat) (i : Int) (h : CN w B 0 false 0 0) (h1 : -9223372036854775808 ≤ i) (h2 : i ≤ 9223372036854775807) :
    Calls Tryd.prog 18 #[.pointer (some ⟨B, 0, none⟩), .int .i64 i] w fun e w' => Void e ∧ CN w' B 1 (decide (i < 0)) i.natAbs 0 ∧ w.grownBy w' (some B) := by
  have H : Hid (CN w B 0 false 0 0) := h
  obtain ⟨c0, c7, c8, c9, f0, f7, f8, f9⟩ := h
  by_cases hi : i < 0
  · go_enter Tryd.func18, Tryd.ntmps18
    go_wp2_with fail
    refine bodyPost_end (results_none rfl _ _ _) rfl ?_
    refine ⟨⟨_, rfl⟩, ?_, grow_set (grow_set (grow_set (grow_set (grow_refl _ _) _ _) _ _) _ _) _ _⟩
    have e : IntKind.u64.wrap (-IntKind.u64.wrap i) = (i.natAbs : Int) := by simp only [IntKind.wrap_u64]; omega
    rw [e, decide_eq_true hi]
    exact (((H.out.kind 1).neg true).mag _).mag _
  · have hi' : decide (i < 0) = false := decide_eq_false hi
    go_enter Tryd.func18, Tryd.ntmps18
    go_wp2_with fail
    refine bodyPost_end (results_none rfl _ _ _) rfl ?_
    refine ⟨⟨_, rfl⟩, ?_, grow_set (grow_set (grow_set (grow_refl _ _) _ _) _ _) _ _⟩
    have e : (i.natAbs : Int) = i := by omega
    rw [e]
    exact ((H.out.kind 1).neg false).mag _
theorem asi36 (i : Int) (w : World) : (Instr.typeAssert (.iface 2 (.int .i64 i)) 20 36 true).run Tryd.prog w = .ok (.tuple #[.string ⟨#[]⟩, .bool false]) w := by kernel_rfl
theorem asi9 (i : Int) (w : World) : (Instr.typeAssert (.iface 2 (.int .i64 i)) 20 9 true).run Tryd.prog w = .ok (.tuple #[.string ⟨#[]⟩, .bool false]) w := by kernel_rfl
theorem asi30 (i : Int) (w : World) : (Instr.typeAssert (.iface 2 (.int .i64 i)) 20 30 true).run Tryd.prog w = .ok (.tuple #[.float .f64 0, .bool false]) w := by kernel_rfl
theorem asi49 (i : Int) (w : World) : (Instr.typeAssert (.iface 2 (.int .i64 i)) 20 49 true).run Tryd.prog w = .ok (.tuple #[.float .f32 0, .bool false]) w := by kernel_rfl
theorem asi3 (i : Int) (w : World) : (Instr.typeAssert (.iface 2 (.int .i64 i)) 20 3 true).run Tryd.prog w = .ok (.tuple #[.int .i64 0, .bool false]) w := by kernel_rfl
theorem asi51 (i : Int) (w : World) : (Instr.typeAssert (.iface 2 (.int .i64 i)) 20 51 true).run Tryd.prog w = .ok (.tuple #[.int .i8 0, .bool false]) w := by kernel_rfl
theorem asi52 (i : Int) (w : World) : (Instr.typeAssert (.iface 2 (.int .i64 i)) 20 52 true).run Tryd.prog w = .ok (.tuple #[.int .i16 0, .bool false]) w := by kernel_rfl
theorem asi21 (i : Int) (w : World) : (Instr.typeAssert (.iface 2 (.int .i64 i)) 20 21 true).run Tryd.prog w = .ok (.tuple #[.int .i32 0, .bool false]) w := by kernel_rfl
theorem asi2 (i : Int) (w : World) : (Instr.typeAssert (.iface 2 (.int .i64 i)) 20 2 true).run Tryd.prog w = .ok (.tuple #[.int .i64 i, .bool true]) w := by kernel_rfl

theorem nan0 : (double.read 0).isNaN = false := by decide +kernel
set_option maxHeartbeats 1000000 in
theorem readI_calls (w : World) (B : Nat) (i : Int) (h : CN w B 0 false 0 0) (h1 : -9223372036854775808 ≤ i) (h2 : i ≤ 9223372036854775807) :
    Calls Tryd.prog 14 #[.pointer (some ⟨B, 0, none⟩), .iface 2 (.int .i64 i)] w fun e w' => e = .returned (.bool true) ∧
      CN w' B 1 (decide (i < 0)) i.natAbs 0 ∧ w.grownBy w' (some B) := by
  have a36 := asi36 i
  have a30 := asi30 i
  have a49 := asi49 i
  have a3 := asi3 i
  have a51 := asi51 i
  have a52 := asi52 i
  have a21 := asi21 i
  have a2 := asi2 i
  go_enter Tryd.func14, Tryd.ntmps14
  go_wp2_with fail
  refine (signed_calls w B i h h1 h2).mono ?_
  rintro e w' ⟨⟨v, rfl⟩, hc, hg⟩
  have c9 := hc.c9
  go_wp2_with fail
  refine (isNaN_calls 0 _).mono ?_
  rintro e w'' ⟨rfl, rfl⟩
  rw [nan0]
  go_wp2
  go_ret
  exact ⟨rfl, hc, hg⟩

/-- integer(), of a Go integer. -/
def intOut (i : Int) : Value := if -9007199254740992 ≤ i ∧ i ≤ 9007199254740992 then .tuple #[.int .i64 i, .bool true] else .tuple #[.int .i64 0, .bool false]
set_option maxHeartbeats 1000000 in
theorem integerI_calls (w : World) (B : Nat) (i : Int) (h : CN w B 1 (decide (i < 0)) i.natAbs 0) (h1 : -9223372036854775808 ≤ i) (h2 : i ≤ 9223372036854775807) :
    Calls Tryd.prog 15 #[.pointer (some ⟨B, 0, none⟩)] w fun e w' => e = .returned (intOut i) ∧ w' = w := by
  obtain ⟨c0, c7, c8, c9, f0, f7, f8, f9⟩ := h
  obtain ⟨m, hm⟩ : ∃ m, m = i.natAbs := ⟨_, rfl⟩
  rw [← hm] at c8
  by_cases hb : m ≤ 9007199254740992
  · have hb' : decide ((9007199254740992 : Int) < m) = false := decide_eq_false (by omega)
    have ho : intOut i = .tuple #[.int .i64 i, .bool true] := by unfold intOut; rw [if_pos (by omega)]
    rw [ho]
    by_cases hi : i < 0
    · rw [decide_eq_true hi] at c7
      have e : (i : Int) = -(m : Int) := by omega
      rw [e]
      clear hm hi e ho
      go_enter Tryd.func15, Tryd.ntmps15
      go_wp2
      go_ret2
      exact ⟨rfl, rfl⟩
    · rw [decide_eq_false hi] at c7
      have e : (i : Int) = (m : Int) := by omega
      rw [e]
      clear hm hi e ho
      go_enter Tryd.func15, Tryd.ntmps15
      go_wp2
      go_ret2
      exact ⟨rfl, rfl⟩
  · have hb' : (9007199254740992 : Int) < m := by omega
    have ho : intOut i = .tuple #[.int .i64 0, .bool false] := by unfold intOut; rw [if_neg (by omega)]
    rw [ho]
    clear hm ho
    go_enter Tryd.func15, Tryd.ntmps15
    go_wp2
    go_ret2
    exact ⟨rfl, rfl⟩

/-- integer(), of a float that is no NaN. -/
def fltOut (b : Nat) (n : Int) : Value := if inR b && (double.order b (truncW b) == some .eq) then .tuple #[.int .i64 n, .bool true] else .tuple #[.int .i64 0, .bool false]

set_option maxHeartbeats 1000000 in
theorem integerF_calls (w : World) (B : Nat) (b : Nat) (hb : b < 18446744073709551616) (h : CN w B 2 false 0 b) (hn : (double.read b).isNaN = false) :
    Calls Tryd.prog 15 #[.pointer (some ⟨B, 0, none⟩)] w fun e w' => (∃ n, (inR b = true → floatToIntVal .f64 b .i64 = some n) ∧ e = .returned (fltOut b n)) ∧ ∃ q, w' = w.drewN q := by
  obtain ⟨c0, c7, c8, c9, f0, f7, f8, f9⟩ := h
  have hr := range_same b hn
  by_cases ht : (double.order b (truncW b) == some .eq) = true
  · have t1 : (FloatKind.f64.format.order b (truncW b) != some .eq) = false := by
      show (double.order b (truncW b) != some .eq) = false
      rw [bne, ht]; rfl
    cases hi : inR b with
    | true =>
      rw [hi] at hr
      have r1 : (FloatKind.f64.format.order (absW b) 4845873199050653696 == some .gt) = false := hr
      obtain ⟨n, hv, _⟩ := whole_same b hi
      have hcv := fun w => run_convert_float_int (P := Tryd.prog) w 30 2 .f64 .i64 b n (by rw [Tryd.underlying30]; rfl) Tryd.underlying2 hv
      have ho : fltOut b n = .tuple #[.int .i64 n, .bool true] := by unfold fltOut; rw [hi, ht]; rfl
      refine Calls.mono (R := fun e w' => e = .returned (.tuple #[.int .i64 n, .bool true]) ∧ ∃ q, w' = w.drewN q) ?_ (fun e w' h => ⟨⟨n, fun _ => hv, by rw [ho]; exact h.1⟩, h.2⟩)
      clear hr hi ho hv
      go_enter Tryd.func15, Tryd.ntmps15
      go_wp2_with fail
      go_quiet (first | (go_at_call 20; exact Calls.quiet_of_same (trunc_calls b _ hn)) | (go_at_call 21; exact Calls.quiet_of_same (abs_calls b _ hb)))
      go_wp2
      go_ret2
      exact ⟨rfl, _, rfl⟩
    | false =>
      rw [hi] at hr
      have r1 : (FloatKind.f64.format.order (absW b) 4845873199050653696 == some .gt) = true := hr
      have ho : fltOut b 0 = .tuple #[.int .i64 0, .bool false] := by unfold fltOut; rw [hi]; rfl
      refine Calls.mono (R := fun e w' => e = .returned (.tuple #[.int .i64 0, .bool false]) ∧ ∃ q, w' = w.drewN q) ?_ (fun e w' h => ⟨⟨0, fun h => by (first | cases h | (rw [hi] at h; cases h)), by rw [ho]; exact h.1⟩, h.2⟩)
      clear hr ho
      go_enter Tryd.func15, Tryd.ntmps15
      go_wp2_with fail
      go_quiet (first | (go_at_call 20; exact Calls.quiet_of_same (trunc_calls b _ hn)) | (go_at_call 21; exact Calls.quiet_of_same (abs_calls b _ hb)))
      go_wp2
      go_ret2
      exact ⟨rfl, _, rfl⟩
  · have t1 : (FloatKind.f64.format.order b (truncW b) != some .eq) = true := by
      show (double.order b (truncW b) != some .eq) = true
      rw [Bool.not_eq_true] at ht
      rw [bne, ht]; rfl
    obtain ⟨n, hv⟩ : ∃ n, (inR b = true → floatToIntVal .f64 b .i64 = some n) := by
      cases hi : inR b with
      | true => obtain ⟨n, hv, _⟩ := whole_same b hi; exact ⟨n, fun _ => hv⟩
      | false => exact ⟨0, fun h => by cases h⟩
    have ho : fltOut b n = .tuple #[.int .i64 0, .bool false] := by
      rw [Bool.not_eq_true] at ht
      unfold fltOut; rw [ht, Bool.and_false]; rfl
    refine Calls.mono (R := fun e w' => e = .returned (.tuple #[.int .i64 0, .bool false]) ∧ ∃ q, w' = w.drewN q) ?_ (fun e w' h => ⟨⟨n, hv, by rw [ho]; exact h.1⟩, h.2⟩)
    clear hr ho hv ht
    go_enter Tryd.func15, Tryd.ntmps15
    go_wp2_with fail
    go_quiet (first | (go_at_call 20; exact Calls.quiet_of_same (trunc_calls b _ hn)) | (go_at_call 21; exact Calls.quiet_of_same (abs_calls b _ hb)))
    go_wp2
    go_ret2
    exact ⟨rfl, _, rfl⟩
end Go.Proofs.Qxb6614357aDoor
