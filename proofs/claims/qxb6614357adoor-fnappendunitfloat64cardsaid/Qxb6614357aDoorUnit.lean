/-
  WALKS of seat b6614357aD: appendUnit at a float64 and at an int64, and the two exported names.
-/
import Derived.Test.Qxb6614357aDoorApp
namespace Go.Proofs.Qxb6614357aDoor
open Go.Shelf Go.Sort Go.RowKit Ieee
set_option maxRecDepth 100000

theorem owns_keep {w w' : World} {B : Nat} {sv : Value} {n : Nat} {xs : List Value} (h : w.ownsRow B 5 1 sv n xs) (hg : w.grownBy w' none) : w'.ownsRow B 5 1 sv n xs := by
  obtain ⟨hl, h⟩ := h
  refine ⟨hl, ?_⟩
  rcases h with h | ⟨g, cap, cur, e, hb, hh, h1, h2, h3, h4⟩
  · exact .inl h
  · refine .inr ⟨g, cap, cur, e, hb, ?_, h1, h2, h3, h4⟩
    rw [hg.block g (Array.getElem?_eq_some_iff.1 hh).1 (by simp)]; exact hh
theorem grow_new_block {w w1 w2 : World} (h : w.grownBy w1 none) (k : w1.grownBy w2 (some w.heap.size)) : w.grownBy w2 none :=
  grow_trans h k (fun i e lt => by cases e; omega)

/-- A zero contextNumber. -/
def zeroCN : Obj := .cells #[.int .i64 0, .bool false, .string ⟨#[]⟩, .string ⟨#[]⟩, .int .i64 0, .int .i64 0, .int .i64 0, .bool false, .int .u64 0, .float .f64 0] 42
theorem cn_zero (w : World) : CN (w.alloc zeroCN) w.heap.size 0 false 0 0 := by
  have hh : (w.alloc zeroCN).heap[w.heap.size]? = some zeroCN := Array.getElem?_push_size
  constructor
  all_goals first | (simp only [World.cell?, hh]; rfl) | (simp only [World.frozen?, hh]; rfl)
theorem grow_alloc (w : World) (o : Obj) : w.grownBy (w.alloc o) none := ⟨rfl, rfl, rfl, by simp, fun k hk _ => Below.heap_alloc _ _ _ hk⟩
theorem grow_drewN {w w' : World} {r : Option Nat} (h : w.grownBy w' r) (q : Nat) : w.grownBy (w'.drewN q) r := ⟨h.os, h.tape, h.output, h.size, h.block⟩

theorem cn_drewN {w : World} {B : Nat} {k neg mag fl} (h : CN w B k neg mag fl) (q : Nat) : CN (w.drewN q) B k neg mag fl :=
  ⟨by rw [World.cell?_drewN]; exact h.c0, by rw [World.cell?_drewN]; exact h.c7, by rw [World.cell?_drewN]; exact h.c8, by rw [World.cell?_drewN]; exact h.c9, h.f0, h.f7, h.f8, h.f9⟩

set_option maxHeartbeats 1000000 in
theorem appendUnitF_bad (sv : Value) (b : Nat) (hb : b < 18446744073709551616) (w : World)
    (h : (double.read b).isNaN = true ∨ (inR b && (double.order b (truncW b) == some .eq)) = false) :
    Calls Tryd.prog 13 #[sv, .iface 30 (.float .f64 b)] w fun e w' => e = .returned (.tuple #[sv, .bool false]) ∧ w.grownBy w' none := by
  have a9 := asf9 b
  have z := cn_zero w
  have hg : w.grownBy (((w.alloc zeroCN).setCell ⟨w.heap.size, 0, none⟩ (.int .i64 2)).setCell ⟨w.heap.size, 9, none⟩ (.float .f64 b)) none :=
    grow_new_block (grow_alloc w zeroCN) (grow_set (grow_set (grow_refl _ _) _ _) _ _)
  have hc := (z.kind 2).fl b
  go_enter Tryd.func13, Tryd.ntmps13
  go_wp2_with fail
  refine (readF_calls _ _ b z).mono ?_
  rintro e w' ⟨rfl, rfl⟩
  generalize ((w.alloc zeroCN).setCell ⟨w.heap.size, 0, none⟩ (.int .i64 2)).setCell ⟨w.heap.size, 9, none⟩ (.float .f64 b) = w1 at hg hc ⊢
  clear z
  cases hn : (double.read b).isNaN with
  | true =>
    go_wp2
    go_ret2
    exact ⟨rfl, hg⟩
  | false =>
    have hbad : (inR b && (double.order b (truncW b) == some .eq)) = false := by
      rcases h with h | h
      · rw [hn] at h; cases h
      · exact h
    go_wp2_with fail
    refine (integerF_calls w1 w.heap.size b hb hc hn).mono ?_
    rintro e w2 ⟨⟨n, hv, rfl⟩, q, rfl⟩
    have ho : fltOut b n = .tuple #[.int .i64 0, .bool false] := by unfold fltOut; rw [hbad]; rfl
    rw [ho]
    go_wp2
    go_ret2
    exact ⟨rfl, grow_drewN hg q⟩

set_option maxHeartbeats 1000000 in
theorem appendUnitF_good (B n : Nat) (sv : Value) (xs : List Value) (b : Nat) (hb : b < 18446744073709551616) (w : World) (hown : w.ownsRow B 5 1 sv n xs) (hBw : B ≤ w.heap.size) (hlim : n + 21 ≤ 140737488355328)
    (htab : Lib.TabBelow Tryd.prog B w pow10Name .u64 Lib.pow10Tab)
    (hn : (double.read b).isNaN = false) (hgood : (inR b && (double.order b (truncW b) == some .eq)) = true) (k : Int) (hk : floatToIntVal .f64 b .i64 = some k) (hk1 : -9007199254740992 ≤ k) (hk2 : k ≤ 9007199254740992) :
    Calls Tryd.prog 13 #[sv, .iface 30 (.float .f64 b)] w fun e w' => ∃ v', e = .returned (.tuple #[v', .bool true]) ∧ Own w w' B sv v' (n + (Lib.itoa k).length) (xs ++ Lib.byteCells (Lib.itoa k)) := by
  have a9 := asf9 b
  have z := cn_zero w
  have hg : w.grownBy (((w.alloc zeroCN).setCell ⟨w.heap.size, 0, none⟩ (.int .i64 2)).setCell ⟨w.heap.size, 9, none⟩ (.float .f64 b)) none :=
    grow_new_block (grow_alloc w zeroCN) (grow_set (grow_set (grow_refl _ _) _ _) _ _)
  have hc := (z.kind 2).fl b
  go_enter Tryd.func13, Tryd.ntmps13
  go_wp2_with fail
  refine (readF_calls _ _ b z).mono ?_
  rintro e w' ⟨rfl, rfl⟩
  generalize ((w.alloc zeroCN).setCell ⟨w.heap.size, 0, none⟩ (.int .i64 2)).setCell ⟨w.heap.size, 9, none⟩ (.float .f64 b) = w1 at hg hc ⊢
  clear z
  rw [hn]
  go_wp2_with fail
  refine (integerF_calls w1 w.heap.size b hb hc hn).mono ?_
  rintro e w2 ⟨⟨m, hv, rfl⟩, q, rfl⟩
  have hm : m = k := by
    have h1 : inR b = true := by cases hi : inR b with
      | true => rfl
      | false => rw [hi] at hgood; cases hgood
    have := hv h1
    rw [hk] at this
    exact (Option.some.inj this).symm
  subst hm
  have ho : fltOut b m = .tuple #[.int .i64 m, .bool true] := by unfold fltOut; rw [hgood]; rfl
  rw [ho]
  have hg2 : w.grownBy (w1.drewN q) none := grow_drewN hg q
  have hbel : Below B w (w1.drewN q) := (Below.refl B w).grown hg2 hBw (fun k hk => by cases hk)
  go_wp2_with fail
  refine (strconvAppendInt_calls B n m (by omega) (by omega) sv xs (w1.drewN q) (owns_keep hown hg2) (by have := hbel.size; omega) hlim (htab.on hbel)).mono ?_
  rintro e w3 ⟨v3, rfl, ho3⟩
  go_wp2
  go_ret2
  exact ⟨v3, rfl, ho3.1, grow_trans (r := sv.ownBlock) ⟨hg2.os, hg2.tape, hg2.output, hg2.size, fun k hk _ => hg2.block k hk (by simp)⟩ ho3.2 (fun i h _ => h)⟩

set_option maxHeartbeats 1000000 in
theorem appendUnitI_bad (sv : Value) (i : Int) (w : World) (h1 : -9223372036854775808 ≤ i) (h2 : i ≤ 9223372036854775807)
    (h : ¬ (-9007199254740992 ≤ i ∧ i ≤ 9007199254740992)) :
    Calls Tryd.prog 13 #[sv, .iface 2 (.int .i64 i)] w fun e w' => e = .returned (.tuple #[sv, .bool false]) ∧ w.grownBy w' none := by
  have a9 := asi9 i
  have z := cn_zero w
  have ho : intOut i = .tuple #[.int .i64 0, .bool false] := by unfold intOut; rw [if_neg h]
  go_enter Tryd.func13, Tryd.ntmps13
  go_wp2_with fail
  refine (readI_calls _ _ i z h1 h2).mono ?_
  rintro e w1 ⟨rfl, hc, hg1⟩
  have hg := grow_new_block (grow_alloc w zeroCN) hg1
  go_wp2_with fail
  refine (integerI_calls w1 w.heap.size i hc h1 h2).mono ?_
  rintro e w2 ⟨rfl, rfl⟩
  rw [ho]
  go_wp2
  go_ret2
  exact ⟨rfl, hg⟩

set_option maxHeartbeats 1000000 in
theorem appendUnitI_good (B n : Nat) (sv : Value) (xs : List Value) (k : Int) (w : World) (hown : w.ownsRow B 5 1 sv n xs) (hBw : B ≤ w.heap.size) (hlim : n + 21 ≤ 140737488355328)
    (htab : Lib.TabBelow Tryd.prog B w pow10Name .u64 Lib.pow10Tab) (hk1 : -9007199254740992 ≤ k) (hk2 : k ≤ 9007199254740992) :
    Calls Tryd.prog 13 #[sv, .iface 2 (.int .i64 k)] w fun e w' => ∃ v', e = .returned (.tuple #[v', .bool true]) ∧ Own w w' B sv v' (n + (Lib.itoa k).length) (xs ++ Lib.byteCells (Lib.itoa k)) := by
  have a9 := asi9 k
  have z := cn_zero w
  have ho : intOut k = .tuple #[.int .i64 k, .bool true] := by unfold intOut; rw [if_pos ⟨hk1, hk2⟩]
  go_enter Tryd.func13, Tryd.ntmps13
  go_wp2_with fail
  refine (readI_calls _ _ k z (by omega) (by omega)).mono ?_
  rintro e w1 ⟨rfl, hc, hg1⟩
  have hg2 := grow_new_block (grow_alloc w zeroCN) hg1
  go_wp2_with fail
  refine (integerI_calls w1 w.heap.size k hc (by omega) (by omega)).mono ?_
  rintro e w2 ⟨rfl, rfl⟩
  rw [ho]
  have hbel : Below B w w2 := (Below.refl B w).grown hg2 hBw (fun k hk => by cases hk)
  go_wp2_with fail
  refine (strconvAppendInt_calls B n k (by omega) (by omega) sv xs w2 (owns_keep hown hg2) (by have := hbel.size; omega) hlim (htab.on hbel)).mono ?_
  rintro e w3 ⟨v3, rfl, ho3⟩
  go_wp2
  go_ret2
  exact ⟨v3, rfl, ho3.1, grow_trans (r := sv.ownBlock) ⟨hg2.os, hg2.tape, hg2.output, hg2.size, fun k hk _ => hg2.block k hk (by simp)⟩ ho3.2 (fun i h _ => h)⟩

set_option maxHeartbeats 1000000 in
theorem zzF_bad (sv : Value) (b : Nat) (hb : b < 18446744073709551616) (w : World)
    (h : (double.read b).isNaN = true ∨ (inR b && (double.order b (truncW b) == some .eq)) = false) :
    Calls Tryd.prog 10 #[sv, .float .f64 b] w fun e w' => e = .returned (.tuple #[sv, .bool false]) ∧ w.grownBy w' none := by
  go_enter Tryd.func10, Tryd.ntmps10
  go_wp2_with fail
  refine (appendUnitF_bad sv b hb _ h).mono ?_
  rintro e w1 ⟨rfl, hg⟩
  go_wp2
  go_ret2
  exact ⟨rfl, hg⟩
set_option maxHeartbeats 1000000 in
theorem zzF_good (B n : Nat) (sv : Value) (xs : List Value) (b : Nat) (hb : b < 18446744073709551616) (w : World) (hown : w.ownsRow B 5 1 sv n xs) (hBw : B ≤ w.heap.size) (hlim : n + 21 ≤ 140737488355328)
    (htab : Lib.TabBelow Tryd.prog B w pow10Name .u64 Lib.pow10Tab)
    (hn : (double.read b).isNaN = false) (hgood : (inR b && (double.order b (truncW b) == some .eq)) = true) (k : Int) (hk : floatToIntVal .f64 b .i64 = some k) (hk1 : -9007199254740992 ≤ k) (hk2 : k ≤ 9007199254740992) :
    Calls Tryd.prog 10 #[sv, .float .f64 b] w fun e w' => ∃ v', e = .returned (.tuple #[v', .bool true]) ∧ Own w w' B sv v' (n + (Lib.itoa k).length) (xs ++ Lib.byteCells (Lib.itoa k)) := by
  go_enter Tryd.func10, Tryd.ntmps10
  go_wp2_with fail
  refine (appendUnitF_good B n sv xs b hb _ hown hBw hlim htab hn hgood k hk hk1 hk2).mono ?_
  rintro e w1 ⟨v', rfl, hg⟩
  go_wp2
  go_ret2
  exact ⟨v', rfl, hg⟩
set_option maxHeartbeats 1000000 in
theorem zzI_bad (sv : Value) (i : Int) (w : World) (h1 : -9223372036854775808 ≤ i) (h2 : i ≤ 9223372036854775807)
    (h : ¬ (-9007199254740992 ≤ i ∧ i ≤ 9007199254740992)) :
    Calls Tryd.prog 7 #[sv, .int .i64 i] w fun e w' => e = .returned (.tuple #[sv, .bool false]) ∧ w.grownBy w' none := by
  go_enter Tryd.func7, Tryd.ntmps7
  go_wp2_with fail
  refine (appendUnitI_bad sv i _ h1 h2 h).mono ?_
  rintro e w1 ⟨rfl, hg⟩
  go_wp2
  go_ret2
  exact ⟨rfl, hg⟩
set_option maxHeartbeats 1000000 in
theorem zzI_good (B n : Nat) (sv : Value) (xs : List Value) (k : Int) (w : World) (hown : w.ownsRow B 5 1 sv n xs) (hBw : B ≤ w.heap.size) (hlim : n + 21 ≤ 140737488355328)
    (htab : Lib.TabBelow Tryd.prog B w pow10Name .u64 Lib.pow10Tab) (hk1 : -9007199254740992 ≤ k) (hk2 : k ≤ 9007199254740992) :
    Calls Tryd.prog 7 #[sv, .int .i64 k] w fun e w' => ∃ v', e = .returned (.tuple #[v', .bool true]) ∧ Own w w' B sv v' (n + (Lib.itoa k).length) (xs ++ Lib.byteCells (Lib.itoa k)) := by
  go_enter Tryd.func7, Tryd.ntmps7
  go_wp2_with fail
  refine (appendUnitI_good B n sv xs k _ hown hBw hlim htab hk1 hk2).mono ?_
  rintro e w1 ⟨v', rfl, hg⟩
  go_wp2
  go_ret2
  exact ⟨v', rfl, hg⟩
end Go.Proofs.Qxb6614357aDoor
