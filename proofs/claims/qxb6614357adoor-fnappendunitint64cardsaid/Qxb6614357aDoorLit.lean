/-
  WALKS of seat b6614357aD: a number literal's text: leadingDigits, digits, digit.
-/
import Derived.Test.Qxb6614357aDoorVal
import Derived.Shelf.Strings.Prefix
namespace Go.Proofs.Qxb6614357aDoor
open Go.Shelf Go.Sort Go.RowKit
set_option maxRecDepth 100000
shelf_lay Lays.n99 Nm 99 at Tryd as lays99
shelf_lay Lays.n101 Nm 101 at Tryd as lays101
theorem hasPrefix_calls (s p : ByteArray) (w : World) :
    Calls Tryd.prog 24 #[.string s, .string p] w fun e w' => e = .returned (.bool (Lib.hasPrefix s.data.toList p.data.toList)) ∧ w' = w := Any.strings_HasPrefix lays99 s p w
theorem trimPrefix_calls (s p : ByteArray) (w : World) :
    Calls Tryd.prog 25 #[.string s, .string p] w fun e w' => e = .returned (.string ⟨(Lib.trimPrefix s.data.toList p.data.toList).toArray⟩) ∧ w' = w := Any.strings_TrimPrefix lays101 s p w

theorem size_of_list (D : List UInt8) : (⟨D.toArray⟩ : ByteArray).size = D.length := by simp [ByteArray.size]
/-- A text's byte. -/
theorem ix {D : List UInt8} {j : Nat} {x : UInt8} (h : D[j]? = some x) (W : World) : (Instr.index 9 (.string ⟨D.toArray⟩) (.int .i64 (j : Int))).run Tryd.prog W = .ok (.int .u8 (x.toNat : Int)) W := by
  have hj : j < D.length := (List.getElem?_eq_some_iff.1 h).1
  rw [run_index_string W 9 ⟨D.toArray⟩ .i64 j Tryd.underlying9, dif_pos (by rw [size_of_list]; omega)]
  have e : (⟨D.toArray⟩ : ByteArray)[(j : Int).toNat]'(by rw [size_of_list]; omega) = x := by
    have := (List.getElem?_eq_some_iff.1 h).2
    show D.toArray[(j : Int).toNat]'_ = x
    simpa using this
  rw [e]

set_option maxHeartbeats 1000000 in
theorem leading_calls (D : List UInt8) (hD : ∀ x ∈ D, 48 ≤ x.toNat ∧ x.toNat ≤ 57) (hl : D.length ≤ 64) (w : World) :
    Calls Tryd.prog 26 #[.string ⟨D.toArray⟩] w fun e w' => e = .returned (.string ⟨D.toArray⟩) ∧ w' = w := by
  have hsz := size_of_list D
  have hsl : ∀ W, (Instr.slice 9 (.string ⟨D.toArray⟩) none (some (.int .i64 (D.length : Int))) none).run Tryd.prog W = .ok (.string ⟨D.toArray⟩) W := fun W => by
    go_simp
    rw [← hsz]; exact ByteArray.extract_zero_size
  have hix : Hid (∀ j, j < D.length → ∃ x, D[j]? = some x ∧ 48 ≤ x.toNat ∧ x.toNat ≤ 57) := fun j hj => ⟨_, List.getElem?_eq_getElem hj, hD _ (List.getElem_mem hj)⟩
  generalize hs : (⟨D.toArray⟩ : ByteArray) = s at hsz hsl ⊢
  have HS : Hid ((⟨D.toArray⟩ : ByteArray) = s) := hs
  clear hD hs
  go_enter Tryd.func26, Tryd.ntmps26
  go_wp2_with fail
  go_loopw [3] (fun i w' => ∃ k : Nat, i = .int .i64 k ∧ k ≤ D.length ∧ w' = w) (fun i _ => D.length - (intOf i).toNat)
  case atStart => exact ⟨0, rfl, Nat.zero_le _, rfl⟩
  case round =>
    obtain ⟨k, rfl, hk, rfl⟩ := hrel
    by_cases hkn : k < D.length
    · have hk' : (k : Int) < D.length := by omega
      obtain ⟨x, hx, hx1, hx2⟩ := hix.out k hkn
      have i1 := ix hx
      rw [HS.out] at i1
      have b1 : (48 : Int) ≤ x.toNat := by omega
      have b2 : (x.toNat : Int) ≤ 57 := by omega
      clear hx hx1 hx2
      go_wp2_with fail
      go_roundw
      case rel => exact ⟨k + 1, by go_num, by omega, trivial⟩
      case measure => simp [intOf]; omega
    · have hk' : k = D.length := by omega
      subst hk'
      go_wp2
      go_ret
      exact ⟨rfl, rfl⟩
/-- The cells of a number whose literal is being read: kind 0; no fraction; no exponent. -/
structure LN (w : World) (B : Nat) (neg : Bool) (s : ByteArray) (first power : Int) : Prop where
  c0 : w.cell? ⟨B, 0, none⟩ = some (.int .i64 0)
  c1 : w.cell? ⟨B, 1, none⟩ = some (.bool neg)
  c2 : w.cell? ⟨B, 2, none⟩ = some (.string s)
  c3 : w.cell? ⟨B, 3, none⟩ = some (.string ⟨#[]⟩)
  c4 : w.cell? ⟨B, 4, none⟩ = some (.int .i64 0)
  c5 : w.cell? ⟨B, 5, none⟩ = some (.int .i64 first)
  c6 : w.cell? ⟨B, 6, none⟩ = some (.int .i64 power)
  fz : ∀ j, w.frozen? ⟨B, j, none⟩ = false
theorem LN.put0 {w : World} {B : Nat} {neg s first power} (h : LN w B neg s first power) : LN (w.setCell ⟨B, 0, none⟩ (.int .i64 0)) B neg s first power :=
  ⟨cell_set_eq _ _ h.c0, by rw [cell_set_ne _ _ (by decide)]; exact h.c1, by rw [cell_set_ne _ _ (by decide)]; exact h.c2, by rw [cell_set_ne _ _ (by decide)]; exact h.c3, by rw [cell_set_ne _ _ (by decide)]; exact h.c4, by rw [cell_set_ne _ _ (by decide)]; exact h.c5, by rw [cell_set_ne _ _ (by decide)]; exact h.c6, fun j => by rw [World.frozen?_setCell]; exact h.fz j⟩
theorem LN.put1 {w : World} {B : Nat} {neg s first power} (h : LN w B neg s first power) (b : Bool) : LN (w.setCell ⟨B, 1, none⟩ (.bool b)) B b s first power :=
  ⟨by rw [cell_set_ne _ _ (by decide)]; exact h.c0, cell_set_eq _ _ h.c1, by rw [cell_set_ne _ _ (by decide)]; exact h.c2, by rw [cell_set_ne _ _ (by decide)]; exact h.c3, by rw [cell_set_ne _ _ (by decide)]; exact h.c4, by rw [cell_set_ne _ _ (by decide)]; exact h.c5, by rw [cell_set_ne _ _ (by decide)]; exact h.c6, fun j => by rw [World.frozen?_setCell]; exact h.fz j⟩
theorem LN.put2 {w : World} {B : Nat} {neg s first power} (h : LN w B neg s first power) (t : ByteArray) : LN (w.setCell ⟨B, 2, none⟩ (.string t)) B neg t first power :=
  ⟨by rw [cell_set_ne _ _ (by decide)]; exact h.c0, by rw [cell_set_ne _ _ (by decide)]; exact h.c1, cell_set_eq _ _ h.c2, by rw [cell_set_ne _ _ (by decide)]; exact h.c3, by rw [cell_set_ne _ _ (by decide)]; exact h.c4, by rw [cell_set_ne _ _ (by decide)]; exact h.c5, by rw [cell_set_ne _ _ (by decide)]; exact h.c6, fun j => by rw [World.frozen?_setCell]; exact h.fz j⟩
theorem LN.put5 {w : World} {B : Nat} {neg s first power} (h : LN w B neg s first power) (n : Int) : LN (w.setCell ⟨B, 5, none⟩ (.int .i64 n)) B neg s n power :=
  ⟨by rw [cell_set_ne _ _ (by decide)]; exact h.c0, by rw [cell_set_ne _ _ (by decide)]; exact h.c1, by rw [cell_set_ne _ _ (by decide)]; exact h.c2, by rw [cell_set_ne _ _ (by decide)]; exact h.c3, by rw [cell_set_ne _ _ (by decide)]; exact h.c4, cell_set_eq _ _ h.c5, by rw [cell_set_ne _ _ (by decide)]; exact h.c6, fun j => by rw [World.frozen?_setCell]; exact h.fz j⟩
theorem LN.put6 {w : World} {B : Nat} {neg s first power} (h : LN w B neg s first power) (n : Int) : LN (w.setCell ⟨B, 6, none⟩ (.int .i64 n)) B neg s first n :=
  ⟨by rw [cell_set_ne _ _ (by decide)]; exact h.c0, by rw [cell_set_ne _ _ (by decide)]; exact h.c1, by rw [cell_set_ne _ _ (by decide)]; exact h.c2, by rw [cell_set_ne _ _ (by decide)]; exact h.c3, by rw [cell_set_ne _ _ (by decide)]; exact h.c4, by rw [cell_set_ne _ _ (by decide)]; exact h.c5, cell_set_eq _ _ h.c6, fun j => by rw [World.frozen?_setCell]; exact h.fz j⟩
theorem LN.drewN {w : World} {B : Nat} {neg s first power} (h : LN w B neg s first power) (q : Nat) : LN (w.drewN q) B neg s first power :=
  ⟨by rw [World.cell?_drewN]; exact h.c0, by rw [World.cell?_drewN]; exact h.c1, by rw [World.cell?_drewN]; exact h.c2, by rw [World.cell?_drewN]; exact h.c3, by rw [World.cell?_drewN]; exact h.c4, by rw [World.cell?_drewN]; exact h.c5, by rw [World.cell?_drewN]; exact h.c6, h.fz⟩
theorem ln_zero (w : World) : LN (w.alloc zeroCN) w.heap.size false ⟨#[]⟩ 0 0 := by
  have hh : (w.alloc zeroCN).heap[w.heap.size]? = some zeroCN := Array.getElem?_push_size
  constructor
  all_goals first | (simp only [World.cell?, hh]; rfl) | (intro j; simp only [World.frozen?, hh]; show (decide (0 ≤ j) && decide (j < 0)) = false; simp)

set_option maxHeartbeats 1000000 in
theorem digits_calls (w : World) (B : Nat) (neg : Bool) (D : List UInt8) (first power : Int) (h : LN w B neg ⟨D.toArray⟩ first power) (hl : D.length ≤ 64) :
    Calls Tryd.prog 27 #[.pointer (some ⟨B, 1, none⟩)] w fun e w' => e = .returned (.int .i64 (D.length : Int)) ∧ ∃ q, w' = w.drewN q := by
  have hsz := size_of_list D
  generalize (⟨D.toArray⟩ : ByteArray) = s at hsz h
  obtain ⟨_, c1, c2, c3, c4, c5, c6, _⟩ := h
  go_enter Tryd.func27, Tryd.ntmps27
  go_wp2_with fail
  go_quiet (fail)
  go_wp2
  go_ret
  exact ⟨rfl, _, rfl⟩

set_option maxHeartbeats 1000000 in
theorem digit_calls (w : World) (B : Nat) (neg : Bool) (D : List UInt8) (first power : Int) (h : LN w B neg ⟨D.toArray⟩ first power) (j : Nat) (x : UInt8) (hx : D[j]? = some x) (h1 : 48 ≤ x.toNat) (h2 : x.toNat ≤ 57) :
    Calls Tryd.prog 28 #[.pointer (some ⟨B, 1, none⟩), .int .i64 (j : Int)] w fun e w' => e = .returned (.int .u8 ((x.toNat - 48 : Nat) : Int)) ∧ w' = w := by
  have hj : (j : Int) < D.length := by have := (List.getElem?_eq_some_iff.1 hx).1; omega
  have i1 := ix hx
  have hsz := size_of_list D
  generalize (⟨D.toArray⟩ : ByteArray) = s at hsz h i1
  obtain ⟨_, c1, c2, c3, c4, c5, c6, _⟩ := h
  obtain ⟨d, hd⟩ : ∃ d, x.toNat = 48 + d := ⟨x.toNat - 48, by omega⟩
  have hd9 : d ≤ 9 := by omega
  rw [hd] at i1
  have e1 : x.toNat - 48 = d := by omega
  rw [e1]
  have i2 : ∀ W, (Instr.index 9 (.string s) (.int .i64 (j : Int))).run Tryd.prog W = .ok (.int .u8 (48 + (d : Int))) W := fun W => by rw [i1 W]; rfl
  clear hx h1 h2 hd e1 i1
  go_enter Tryd.func28, Tryd.ntmps28
  go_wp2
  go_ret
  exact ⟨congrArg (fun z => Ending.returned (.int .u8 z)) (show (48 + (d : Int) - 48) = d by omega), rfl⟩
end Go.Proofs.Qxb6614357aDoor
