/-
  WALKS of seat b6614357aD: internal/strconv.AppendUint and AppendInt at base 10, with the frame that of the rows that were there only the value's own may have turned.
-/
import Derived.Test.Qxb6614357aDoorNum
import Derived.Shelf.Strconv.Itoa1
import Derived.Shelf.Strconv.Itoa2
import Derived.Shelf.Lay
import Derived.Lib.Walk
import Derived.Lib.ItoaWalk
import Derived.Lib.ItoaMem
import Derived.Lib.AppendIntMem
import Derived.Lib.BufferKept
import Derived.Lib.OwnKind
import Derived.Lib.Slices
import Derived.Lib.Hide
import Derived.OwnWalk
import Derived.BigCall
import Derived.BigGuard
import Derived.CellFam
import Derived.Maps.AppendAt
import Derived.Ground.NamesProg
namespace Go.Proofs.Qxb6614357aDoor
open Go.Shelf Go.Sort Go.RowKit
/-- The table's name, as the given row lists it. -/
abbrev pow10Name : String := Rows.fnAppendUnitFloat64Row.named.headD ""
shelf_lay Lays.n283 Nm 283 at Tryd as lays283
shelf_lay LaysM.n284 Nm 284 at Tryd as lays284
shelf_lay Lays.n285 Nm 285 at Tryd as lays285
theorem small_calls (i : Nat) (h : i < 100) (w : World) :
    Calls Tryd.prog 37 #[.int .i64 i] w fun e w' => e = .returned (.string ⟨(Lib.decDigits i).toArray⟩) ∧ w' = w := Any.internal_strconv_small lays283 i h w
theorem numDigits_calls (u : Nat) (h1 : 1 ≤ u) (h2 : u < 18446744073709551616) (w : World)
    (htab : Lib.TabIs Tryd.prog w pow10Name .u64 Lib.pow10Tab) :
    Calls Tryd.prog 38 #[.int .u64 u] w fun e w' => e = .returned (.int .i64 (Lib.nDigits u)) ∧ w' = w := Any.internal_strconv_numDigits lays284 u h1 h2 w htab
theorem format_calls (blk off cap : Nat) (u : Nat) (d : Array UInt8) (w : World) (hH : Holds (fun (b : UInt8) => Value.int .u8 (b.toNat : Int)) w blk off d) (hu : u < 10 ^ d.size) (hu64 : u < 18446744073709551616) (hsz : d.size < 4611686018427387904) :
    Calls Tryd.prog 39 #[.slice (some ⟨blk, off, none⟩) d.size cap, .int .u64 u] w fun e w' =>
      e = .returned (.tuple #[]) ∧ ∃ (n v' : Nat) (dk : Array UInt8), w' = (putRow (fun (b : UInt8) => Value.int .u8 (b.toNat : Int)) w blk off dk).drewN n ∧ Lib.FmtInv d.size u 0 v' dk := Any.internal_strconv_formatBase10 lays285 blk off cap u d w hH hu hu64 hsz

/-- The row that a value owns, and no other of the rows that were there, may have turned. -/
def Own (w w' : World) (B : Nat) (sv v' : Value) (n : Nat) (xs : List Value) : Prop :=
  w'.ownsRow B 5 1 v' n xs ∧ w.grownBy w' sv.ownBlock
theorem info5 : (Tryd.prog.info? 5).map (fun i => (i.zero, i.size, i.bytes)) = some (some (.int .u8 0), 1, 1) := by kernel_rfl

set_option maxHeartbeats 6400000 in
set_option maxRecDepth 100000 in
theorem appendUint_small (B n u : Nat) (hu : u < 100) (sv : Value) (xs : List Value) (w : World) (hown : w.ownsRow B 5 1 sv n xs) (hBw : B ≤ w.heap.size) (hlim : n + 20 ≤ 140737488355328) :
    Calls Tryd.prog 33 #[sv, .int .u64 u, .int .i64 10] w fun e w' => ∃ v', e = .returned v' ∧ Own w w' B sv v' (n + (Lib.decDigits u).length) (xs ++ Lib.byteCells (Lib.decDigits u)) := by
  have hlen : (Lib.decDigits u).length ≤ 20 := by
    rw [Lib.decDigits_length]
    by_cases h10 : u < 10
    · rw [Lib.nDigits_small h10]; omega
    · rw [Lib.nDigits_big h10, Lib.nDigits_small (show u / 10 < 10 by omega)]; omega
  have hsz : (⟨(Lib.decDigits u).toArray⟩ : ByteArray).size = (Lib.decDigits u).length := by simp [ByteArray.size]
  obtain ⟨i0, hi, hz0, hz1, hz2⟩ := info_parts info5
  go_enter Tryd.func33, Tryd.ntmps33
  go_wp2_with (first
    | (go_at_call 37; refine (small_calls u hu _).mono ?_; rintro e w' ⟨rfl, rfl⟩)
    | (at_builtin; refine Lib.wpList_append_own_string _ rfl _ _ 22 9 rfl B 5 i0 Tryd.underlying22 Tryd.underlying9 hi hz0 hz1 hz2 _ _ _ rfl hown ⟨(Lib.decDigits u).toArray⟩ rfl (by rw [hsz]; unfold maxLen; omega) (by rw [hsz]; omega) hBw ?_))
  intro v' w1 hown' hgrow _
  go_wp2
  go_ret
  refine ⟨v', rfl, ?_, hgrow⟩
  first | exact hown' | (rw [hsz] at hown'; exact hown')

theorem grow_new {w : World} {k : Nat} {os : Array Obj} (r : Option Nat) : w.grownBy (grow (w.drewN k) os) r := by
  have h := Lib.below_grow w.heap.size w (Nat.le_refl _) k os
  exact ⟨h.os, h.tape, h.output, h.size, fun i hi _ => h.block i hi⟩
theorem grow_trans {a b c : World} {r s : Option Nat} (h : a.grownBy b r) (k : b.grownBy c s) (hs : ∀ i, s = some i → i < a.heap.size → r = some i) : a.grownBy c r :=
  ⟨k.os.trans h.os, k.tape.trans h.tape, k.output.trans h.output, Nat.le_trans h.size k.size, fun i hi hne =>
    (k.block i (Nat.lt_of_lt_of_le hi h.size) (fun e => hne (hs i e.symm hi).symm)).trans (h.block i hi hne)⟩

set_option maxHeartbeats 12800000 in
set_option maxRecDepth 100000 in
theorem appendUint_big (B n u : Nat) (hu : 100 ≤ u) (hu64 : u < 18446744073709551616) (sv : Value) (xs : List Value) (w : World) (hown : w.ownsRow B 5 1 sv n xs) (hBw : B ≤ w.heap.size) (hlim : n + 20 ≤ 140737488355328)
    (htab : Lib.TabIs Tryd.prog w pow10Name .u64 Lib.pow10Tab) :
    Calls Tryd.prog 33 #[sv, .int .u64 u, .int .i64 10] w fun e w' => ∃ v', e = .returned v' ∧ Own w w' B sv v' (n + (Lib.decDigits u).length) (xs ++ Lib.byteCells (Lib.decDigits u)) := by
  obtain ⟨i0, hi, hz0, hz1, hz2⟩ := info_parts info5
  have hu1 : 1 ≤ u := by omega
  have hnd20 : Lib.nDigits u ≤ 20 := by have := Lib.numDigits_eq u hu1 hu64; split at this <;> omega
  have hal : Tryd.prog.arrayLen 70 = 24 := by kernel_rfl
  have hsl : ∀ W, (Instr.sliceAt 70 (.pointer (some ⟨w.heap.size, 0, none⟩)) none (some (.int .i64 (Lib.nDigits u : Int))) none).run Tryd.prog W = .ok (.slice (some ⟨w.heap.size, 0, none⟩) (Lib.nDigits u) 24) W := fun W => by
    rw [run_sliceAt_array_h W 70 ⟨w.heap.size, 0, none⟩ (by kernel_rfl) .i64 (Lib.nDigits u : Int) (by omega) (by rw [hal]; omega)]
    rw [hal]
    go_simp
  have hH0 := Lib.holds_zero0 w 70 (Lib.nDigits u) (by omega)
  have hfmt := format_calls w.heap.size 0 24 u (Array.replicate (Lib.nDigits u) 0) (w.alloc (.cells Lib.zeros24 70)) hH0 (by rw [Array.size_replicate]; exact Lib.lt_pow_nDigits u) hu64 (by rw [Array.size_replicate]; omega)
  rw [Array.size_replicate] at hfmt
  have HH0 := Lib.hid hH0
  have iu : (100 : Int) ≤ (u : Int) := by omega
  clear hH0 hal
  go_enter Tryd.func33, Tryd.ntmps33
  go_wp2_with (first
    | (go_at_call 38; refine (numDigits_calls u hu1 hu64 _ (Lib.tabIs_alloc htab _)).mono ?_; rintro e w' ⟨rfl, rfl⟩))
  refine hfmt.mono ?_
  rintro e w' ⟨rfl, k, v', dk, rfl, hF⟩
  have hcells : ∀ j u', (Lib.byteCells (Lib.decDigits u))[j]? = some u' → ((putRow (fun (b : UInt8) => Value.int .u8 (b.toNat : Int)) (w.alloc (.cells Lib.zeros24 70)) w.heap.size 0 dk).drewN k).cell? ((⟨w.heap.size, 0, none⟩ : Addr).add j) = some u' := by
    intro j u' hj
    have hjl : j < (Lib.decDigits u).length := by
      have h5 := (List.getElem?_eq_some_iff.1 hj).1
      rwa [Lib.byteCells_length] at h5
    have e5 : (Lib.byteCells (Lib.decDigits u))[j]? = some (Value.int .u8 ((Lib.decDigits u)[j].toNat : Int)) := by simp [Lib.byteCells, hjl]
    rw [e5] at hj
    cases hj
    rw [Lib.row_is_numeral hF j hjl, Lib.add_plain, World.cell?_drewN]
    exact cell?_putRow (fun (b : UInt8) => Value.int .u8 (b.toNat : Int)) _ w.heap.size 0 _ dk HH0.out (by rw [hF.size, Array.size_replicate]) j (by rw [hF.size]; rw [Lib.decDigits_length] at hjl; exact hjl)
  obtain ⟨os, eo⟩ := Lib.fin_at w (.cells Lib.zeros24 70) dk k 0
  have hown2 : ((putRow (fun (b : UInt8) => Value.int .u8 (b.toNat : Int)) (w.alloc (.cells Lib.zeros24 70)) w.heap.size 0 dk).drewN k).ownsRow B 5 1 sv n xs := by rw [eo]; exact Lib.ownsRow_grow hown k os
  have hg2 : w.grownBy ((putRow (fun (b : UInt8) => Value.int .u8 (b.toNat : Int)) (w.alloc (.cells Lib.zeros24 70)) w.heap.size 0 dk).drewN k) sv.ownBlock := by rw [eo]; exact grow_new _
  generalize (putRow (fun (b : UInt8) => Value.int .u8 (b.toNat : Int)) (w.alloc (.cells Lib.zeros24 70)) w.heap.size 0 dk).drewN k = W2 at hcells hown2 hg2 ⊢
  have hsz2 : w.heap.size ≤ W2.heap.size := hg2.size
  clear eo HH0 hfmt
  go_wp2_with (at_builtin; refine wpList_append_own _ rfl _ _ 22 rfl B 5 i0 (.int .u8 0) 1 1 Tryd.underlying22 hi hz0 hz1 hz2 rfl (by decide) _ _ _ rfl hown2 ⟨w.heap.size, 0, none⟩ (Lib.nDigits u) 24 (Lib.byteCells (Lib.decDigits u)) rfl ?c0 hcells ?c2 ?c3 ?c4 ?c5 ?_)
  case c0 => rw [Lib.byteCells_length, Lib.decDigits_length, Nat.mul_one]
  case c2 => intro u' hu'; simp only [Lib.byteCells, List.mem_map] at hu'; obtain ⟨b, _, rfl⟩ := hu'; rfl
  case c3 => unfold maxLen; omega
  case c4 => omega
  case c5 => omega
  intro v2 w3 hown' hgrow _
  go_wp2
  go_ret
  refine ⟨v2, rfl, ?_, grow_trans hg2 hgrow (fun i h _ => h)⟩
  rw [Lib.decDigits_length]
  exact hown'

theorem appendUint_calls (B n u : Nat) (hu64 : u < 18446744073709551616) (sv : Value) (xs : List Value) (w : World) (hown : w.ownsRow B 5 1 sv n xs) (hBw : B ≤ w.heap.size) (hlim : n + 20 ≤ 140737488355328)
    (htab : Lib.TabIs Tryd.prog w pow10Name .u64 Lib.pow10Tab) :
    Calls Tryd.prog 33 #[sv, .int .u64 u, .int .i64 10] w fun e w' => ∃ v', e = .returned v' ∧ Own w w' B sv v' (n + (Lib.decDigits u).length) (xs ++ Lib.byteCells (Lib.decDigits u)) := by
  by_cases hu : u < 100
  · exact appendUint_small B n u hu sv xs w hown hBw hlim
  · exact appendUint_big B n u (by omega) hu64 sv xs w hown hBw hlim htab

/-- The same, and the new value lies in the old one's row or in a new one. -/
def OwnAt (w w' : World) (B : Nat) (sv v' : Value) (n : Nat) (xs : List Value) : Prop :=
  w'.ownsRow B 5 1 v' n xs ∧ w.grownBy w' sv.ownBlock ∧ ∀ k, v'.ownBlock = some k → k < w.heap.size → sv.ownBlock = some k
theorem OwnAt.on {w w1 w2 : World} {B : Nat} {sv v1 v2 : Value} {n m : Nat} {xs ys : List Value} (h : OwnAt w w1 B sv v1 n xs) (k : Own w1 w2 B v1 v2 m ys) : Own w w2 B sv v2 m ys :=
  ⟨k.1, grow_trans h.2.1 k.2 (fun i e lt => h.2.2 i e lt)⟩
theorem OwnAt.step {w w1 w2 : World} {B : Nat} {sv v1 v2 : Value} {n m : Nat} {xs ys : List Value} (h : OwnAt w w1 B sv v1 n xs) (k : OwnAt w1 w2 B v1 v2 m ys) : OwnAt w w2 B sv v2 m ys :=
  ⟨k.1, grow_trans h.2.1 k.2.1 (fun i e lt => h.2.2 i e lt), fun i e lt => h.2.2 i (k.2.2 i e (Nat.lt_of_lt_of_le lt h.2.1.size)) lt⟩
theorem OwnAt.same {w : World} {B : Nat} {sv : Value} {n : Nat} {xs : List Value} (h : w.ownsRow B 5 1 sv n xs) : OwnAt w w B sv sv n xs := ⟨h, grow_refl _ _, fun _ e _ => e⟩
/-- One append, behind the laying of the one-byte slice that it takes. -/
theorem ownAt_of {w w1 : World} {o : Obj} {B : Nat} {sv v1 : Value} {n : Nat} {xs : List Value} (h1 : w1.ownsRow B 5 1 v1 n xs) (hg : (w.alloc o).grownBy w1 sv.ownBlock)
    (hat : v1.ownBlock = sv.ownBlock ∨ v1.ownBlock = some (w.heap.size + 1)) : OwnAt w w1 B sv v1 n xs := by
  have ha : w.grownBy (w.alloc o) sv.ownBlock := ⟨rfl, rfl, rfl, by simp, fun k hk _ => Below.heap_alloc _ _ _ hk⟩
  refine ⟨h1, grow_trans ha hg (fun i h _ => h), fun k hk lt => ?_⟩
  rcases hat with e | e
  · rw [← e]; exact hk
  · rw [e] at hk
    have : w.heap.size + 1 = k := Option.some.inj hk
    omega

set_option maxHeartbeats 6400000 in
set_option maxRecDepth 100000 in
theorem appendInt_calls (B n : Nat) (i : Int) (h0 : -9223372036854775808 ≤ i) (h1 : i ≤ 9223372036854775807) (sv : Value) (xs : List Value) (w : World) (hown : w.ownsRow B 5 1 sv n xs) (hBw : B ≤ w.heap.size) (hlim : n + 21 ≤ 140737488355328)
    (htab : Lib.TabBelow Tryd.prog B w pow10Name .u64 Lib.pow10Tab) :
    Calls Tryd.prog 23 #[sv, .int .i64 i, .int .i64 10] w fun e w' => ∃ v', e = .returned v' ∧ Own w w' B sv v' (n + (Lib.itoa i).length) (xs ++ Lib.byteCells (Lib.itoa i)) := by
  obtain ⟨i0, hi, hz0, hz1, hz2⟩ := info_parts info5
  by_cases hneg : i < 0
  · obtain ⟨u, rfl⟩ : ∃ u : Nat, i = -(u : Int) := ⟨i.natAbs, by omega⟩
    have hu1 : 1 ≤ u := by omega
    have hu64 : u < 18446744073709551616 := by omega
    have hwr : IntKind.u64.wrap (-IntKind.u64.wrap (-(u : Int))) = (u : Int) := by rw [IntKind.wrap_u64, IntKind.wrap_u64]; omega
    rw [Lib.itoa_neg u hu1]
    go_enter Tryd.func23, Tryd.ntmps23
    go_wp2_with (at_builtin; refine wpList_append_own_at _ rfl _ _ 22 rfl B 5 i0 (.int .u8 0) 1 1 Tryd.underlying22 hi hz0 hz1 hz2 rfl (by decide) _ _ _ rfl (hown.alloc _) ⟨w.heap.size, 0, none⟩ 1 1 [Value.int .u8 45] rfl rfl (by intro j u' hj; match j, hj with | 0, hj => simp at hj; subst hj; simp [Addr.add]) (by intro u' hu'; simp at hu'; subst hu'; rfl) (by unfold maxLen; omega) (by omega) (by simp; omega) ?_)
    intro v1 w1 hown1 hgrow _ hat
    have hA : OwnAt w w1 B sv v1 (n + 1) (xs ++ [Value.int .u8 45]) := ownAt_of hown1 hgrow hat
    have hnx1 : Below B w w1 := (Below.refl B w).grown hA.2.1 hBw (fun k hk => (hown.lt k hk).1)
    have htab1 : Lib.TabIs Tryd.prog w1 pow10Name .u64 Lib.pow10Tab := htab w1 hnx1
    go_wp2_with (go_at_call 33; refine (appendUint_calls B (n + 1) u hu64 v1 _ w1 hown1 (by have := hnx1.size; omega) (by omega) htab1).mono ?_; rintro e w2 ⟨v2, rfl, hown2⟩)
    go_wp2
    go_ret
    refine ⟨v2, rfl, ?_⟩
    have e1 : n + ((Lib.decDigits u).length + 1) = n + 1 + (Lib.decDigits u).length := by omega
    have e2 : xs ++ Lib.byteCells (45 :: Lib.decDigits u) = xs ++ [Value.int .u8 45] ++ Lib.byteCells (Lib.decDigits u) := by simp [Lib.byteCells]
    rw [e2, e1]
    exact hA.on hown2
  · obtain ⟨u, rfl⟩ : ∃ u : Nat, i = u := ⟨i.toNat, by omega⟩
    have hu64 : u < 18446744073709551616 := by omega
    rw [Lib.itoa_nonneg]
    go_enter Tryd.func23, Tryd.ntmps23
    go_wp2_with (go_at_call 33; refine (appendUint_calls B n u hu64 sv xs w hown hBw (by omega) htab.here).mono ?_; rintro e w2 ⟨v2, rfl, hown2⟩)
    go_wp2
    go_ret
    exact ⟨v2, rfl, hown2⟩

set_option maxHeartbeats 400000 in
theorem strconvAppendInt_calls (B n : Nat) (i : Int) (h0 : -9223372036854775808 ≤ i) (h1 : i ≤ 9223372036854775807) (sv : Value) (xs : List Value) (w : World) (hown : w.ownsRow B 5 1 sv n xs) (hBw : B ≤ w.heap.size) (hlim : n + 21 ≤ 140737488355328)
    (htab : Lib.TabBelow Tryd.prog B w pow10Name .u64 Lib.pow10Tab) :
    Calls Tryd.prog 16 #[sv, .int .i64 i, .int .i64 10] w fun e w' => ∃ v', e = .returned v' ∧ Own w w' B sv v' (n + (Lib.itoa i).length) (xs ++ Lib.byteCells (Lib.itoa i)) := by
  go_enter Tryd.func16, Tryd.ntmps16
  go_wp2_with (go_at_call 23; refine (appendInt_calls B n i h0 h1 sv xs w hown hBw hlim htab).mono ?_; rintro e w2 ⟨v2, rfl, hown2⟩)
  go_wp2
  go_ret
  exact ⟨v2, rfl, hown2⟩
end Go.Proofs.Qxb6614357aDoor
