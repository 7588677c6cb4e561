/-
  WALKS of seat b6614357aD: appendUnit at a json.Number that is a decimal numeral.
-/
import Derived.Test.Qxb6614357aDoorScaled
namespace Go.Proofs.Qxb6614357aDoor
open Go.Shelf Go.Sort Go.RowKit
set_option maxRecDepth 100000

theorem asn9 (s : ByteArray) (w : World) : (Instr.typeAssert (.iface 36 (.string s)) 20 9 true).run Tryd.prog w = .ok (.tuple #[.string ⟨#[]⟩, .bool false]) w := by kernel_rfl
theorem asn36 (s : ByteArray) (w : World) : (Instr.typeAssert (.iface 36 (.string s)) 20 36 true).run Tryd.prog w = .ok (.tuple #[.string s, .bool true]) w := by kernel_rfl

set_option maxHeartbeats 1000000 in
theorem integerN_calls (w : World) (B : Nat) (k : Int) (neg : Bool) (D : List UInt8) (first power : Int) (hN : Numeral k neg D) (h : LN w B neg ⟨D.toArray⟩ first power) :
    Calls Tryd.prog 15 #[.pointer (some ⟨B, 0, none⟩)] w fun e w' => e = .returned (.tuple #[.int .i64 k, .bool true]) ∧ ∃ q, w' = w.drewN q := by
  have c0 := h.c0
  go_enter Tryd.func15, Tryd.ntmps15
  go_wp2_with fail
  refine (scaled_calls w B k neg D _ _ hN h).mono ?_
  rintro e w1 ⟨rfl, q, rfl⟩
  go_wp2
  go_ret2
  exact ⟨rfl, _, rfl⟩

set_option maxHeartbeats 1000000 in
theorem readN_calls (w : World) (B : Nat) (k : Int) (neg : Bool) (D : List UInt8) (hN : Numeral k neg D) (h : LN w B false ⟨#[]⟩ 0 0) :
    Calls Tryd.prog 14 #[.pointer (some ⟨B, 0, none⟩), .iface 36 (.string ⟨(Lib.itoa k).toArray⟩)] w fun e w' => e = .returned (.bool true) ∧ (∃ first power, LN w' B neg ⟨D.toArray⟩ first power) ∧ w.grownBy w' (some B) := by
  have a36 := asn36 ⟨(Lib.itoa k).toArray⟩
  have c0 := h.c0
  have z0 := h.fz 0
  have L := h.put0
  have G : w.grownBy (w.setCell ⟨B, 0, none⟩ (.int .i64 0)) (some B) := grow_set (grow_refl _ _) _ _
  go_enter Tryd.func14, Tryd.ntmps14
  go_wp2_with fail
  refine (parse_calls _ B k neg D hN L).mono ?_
  rintro e w1 ⟨rfl, hL, hG⟩
  go_wp2
  go_ret
  exact ⟨rfl, hL, grow_trans G hG (fun i h _ => h)⟩

set_option maxHeartbeats 1000000 in
theorem appendUnitN_good (B n : Nat) (sv : Value) (xs : List Value) (k : Int) (w : World) (hown : w.ownsRow B 5 1 sv n xs) (hBw : B ≤ w.heap.size) (hlim : n + 21 ≤ 140737488355328)
    (htab : Lib.TabBelow Tryd.prog B w pow10Name .u64 Lib.pow10Tab) (hk1 : -9007199254740992 ≤ k) (hk2 : k ≤ 9007199254740992) :
    Calls Tryd.prog 13 #[sv, .iface 36 (.string ⟨(Lib.itoa k).toArray⟩)] w fun e w' => ∃ v', e = .returned (.tuple #[v', .bool true]) ∧ Own w w' B sv v' (n + (Lib.itoa k).length) (xs ++ Lib.byteCells (Lib.itoa k)) := by
  obtain ⟨neg, D, hN⟩ := numeral_of k hk1 hk2
  have a9 := asn9 ⟨(Lib.itoa k).toArray⟩
  have z := ln_zero w
  go_enter Tryd.func13, Tryd.ntmps13
  go_wp2_with fail
  refine (readN_calls _ _ k neg D hN z).mono ?_
  rintro e w1 ⟨rfl, ⟨first, power, hc⟩, hg1⟩
  have hg2 := grow_new_block (grow_alloc w zeroCN) hg1
  go_wp2_with fail
  refine (integerN_calls w1 w.heap.size k neg D first power hN hc).mono ?_
  rintro e w2 ⟨rfl, q, rfl⟩
  have hg3 : w.grownBy (w1.drewN q) none := grow_drewN hg2 q
  have hbel : Below B w (w1.drewN q) := (Below.refl B w).grown hg3 hBw (fun k hk => by cases hk)
  go_wp2_with fail
  refine (strconvAppendInt_calls B n k (by omega) (by omega) sv xs (w1.drewN q) (owns_keep hown hg3) (by have := hbel.size; omega) hlim (htab.on hbel)).mono ?_
  rintro e w3 ⟨v3, rfl, ho3⟩
  go_wp2
  go_ret2
  exact ⟨v3, rfl, ho3.1, grow_trans (r := sv.ownBlock) ⟨hg3.os, hg3.tape, hg3.output, hg3.size, fun k hk _ => hg3.block k hk (by simp)⟩ ho3.2 (fun i h _ => h)⟩

set_option maxHeartbeats 1000000 in
theorem zzN_good (B n : Nat) (sv : Value) (xs : List Value) (k : Int) (w : World) (hown : w.ownsRow B 5 1 sv n xs) (hBw : B ≤ w.heap.size) (hlim : n + 21 ≤ 140737488355328)
    (htab : Lib.TabBelow Tryd.prog B w pow10Name .u64 Lib.pow10Tab) (hk1 : -9007199254740992 ≤ k) (hk2 : k ≤ 9007199254740992) :
    Calls Tryd.prog 11 #[sv, .string ⟨(Lib.itoa k).toArray⟩] w fun e w' => ∃ v', e = .returned (.tuple #[v', .bool true]) ∧ Own w w' B sv v' (n + (Lib.itoa k).length) (xs ++ Lib.byteCells (Lib.itoa k)) := by
  go_enter Tryd.func11, Tryd.ntmps11
  go_wp2_with fail
  refine (appendUnitN_good B n sv xs k _ hown hBw hlim htab hk1 hk2).mono ?_
  rintro e w1 ⟨v', rfl, hg⟩
  go_wp2
  go_ret2
  exact ⟨v', rfl, hg⟩
end Go.Proofs.Qxb6614357aDoor
