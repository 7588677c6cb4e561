/-
  WALKS of seat b6614095a: jsonval.inOrder.
-/
import Derived.Test.Qxb6614095aSortG
import Derived.Test.Qxb6614095aPlainE
import Derived.Test.Qxb6614095aWorldB
namespace Go.Proofs.Qxb6614095a
open Go.RowKit

theorem bool_b {b c : Bool} (h : b = c) : Ending.returned (.bool b) = .returned (.bool c) := by rw [h]

/-- It answers a bool, and true only at ascending keys. -/
def InOrd (L : List M) (e : Ending) : Prop := ∃ b, e = .returned (.bool b) ∧ (b = true → Asc L)

set_option maxHeartbeats 1000000 in
theorem inOrder_calls (w : World) (B n : Nat) (L : List M) (H : Holds w B L) (hn : L.length = n) (hb40 : n ≤ 1099511627776) :
    Calls Try.prog 15 #[.slice (some ⟨B, 0, none⟩) n n] w fun e w' => InOrd L e ∧ ∃ k, w' = w.drewN k := by
  have E : Hid (L.length = n) := hn
  clear hn
  go_enter Try.func15, Try.ntmps15
  go_wp2
  go_loopw [3] (fun i w' => ∃ (k : Nat), i = .int .i64 k ∧ 1 ≤ k ∧ (k ≤ n ∨ k = 1) ∧ Asc (L.take k) ∧ ∃ q, w' = w.drewN q) (fun i _ => n - (intOf i).toNat)
  case atStart =>
    refine ⟨1, rfl, by omega, .inr rfl, ?_, 0, rfl⟩
    match L with
    | [] => exact List.Pairwise.nil
    | x :: _ => exact List.pairwise_singleton _ _
  case round =>
    obtain ⟨k, rfl, hk1, hkn, hasc, q, rfl⟩ := hrel
    by_cases hlt : (k : Int) < n
    · obtain ⟨x, hx⟩ : ∃ x, L[k - 1]? = some x := ⟨_, List.getElem?_eq_getElem (by have := E.out; omega)⟩
      obtain ⟨y, hy⟩ : ∃ y, L[k]? = some y := ⟨_, List.getElem?_eq_getElem (by have := E.out; omega)⟩
      have hx1 : w.cell? ⟨B, (k - 1) * 2, none⟩ = some (.string x.1) := H.key hx
      have hy1 : w.cell? ⟨B, k * 2, none⟩ = some (.string y.1) := H.key hy
      have G : Hid (L[k - 1]? = some x ∧ L[k]? = some y) := ⟨hx, hy⟩
      have hk0 : (1 : Int) ≤ k := by omega
      have hwr : IntKind.i64.wrap ((k : Int) - 1) = ((k - 1 : Nat) : Int) := by rw [IntKind.wrap_i64]; omega
      have hk2 : ((k - 1 : Nat) : Int) < n := by omega
      clear hx hy
      go_wp2
      go_quiet (fail)
      cases hxy : Op.bytesLess x.1.toList y.1.toList with
      | false =>
        go_wp2
        go_ret
        exact ⟨⟨false, rfl, fun h => by cases h⟩, q + nq, by simp [World.drewN, Nat.add_assoc]⟩
      | true =>
        go_wp2
        go_roundw
        case rel =>
          refine ⟨k + 1, by go_num, by omega, by omega, ?_, q + nq, by simp [World.drewN]⟩
          obtain ⟨hx, hy⟩ := G.out
          obtain ⟨lx, rfl⟩ := List.getElem?_eq_some_iff.1 hx
          obtain ⟨ly, rfl⟩ := List.getElem?_eq_some_iff.1 hy
          rw [List.take_succ_eq_append_getElem ly]
          have e : L.take k = L.take (k - 1) ++ [L[k - 1]] := by
            rw [← List.take_succ_eq_append_getElem lx]; congr 1; omega
          rw [e] at hasc ⊢
          exact asc_snoc hasc hxy
        case measure => simp [intOf]; omega
    · go_wp2
      go_ret
      exact ⟨⟨true, rfl, fun _ => by rwa [List.take_of_length_le (by have := E.out; omega)] at hasc⟩, q, rfl⟩
end Go.Proofs.Qxb6614095a
