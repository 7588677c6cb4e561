/-
  WALKS of seat b6614095a: zzb1AddKeyBytes, zzBytes of the first law.
-/
import Derived.Test.Qxb6614095aObjC

namespace Go.Proofs.Qxb6614095a
open Go.RowKit

/-- It answers a bool. -/
def IsBool (e : Ending) : Prop := ∃ b, e = .returned (.bool b)
/-- It answers an int. -/
def IsInt (e : Ending) : Prop := ∃ t, e = .returned (.int .i64 t)

set_option maxHeartbeats 400000 in
theorem add_calls (w : World) (n : Nat) (a : Option Addr) (c : Nat) (t : Int) (ks : List ByteArray) (h : IsStrs w a n ks) :
    Calls Try.prog 6 #[.int .i64 t, .slice a n c] w fun e w' => IsInt e ∧ w' = w := by
  have hm := h.max
  have hl := h.len
  unfold maxLen at hm
  have E : Hid (ks.length = n) := hl
  clear hl
  go_enter Try.func6, Try.ntmps6
  go_wp2
  go_loop [0, 5] (fun t i => ∃ k : Nat, k ≤ n ∧ i = .int .i64 k ∧ ∃ q, t = .int .i64 q) (fun _ i => n - (intOf i).toNat)
  case atStart => exact ⟨0, Nat.zero_le _, rfl, _, rfl⟩
  case round =>
    obtain ⟨k, hk, rfl, q, rfl⟩ := hrel
    by_cases hlt : k < n
    · obtain ⟨x, hx⟩ : ∃ x, ks[k]? = some x := ⟨_, List.getElem?_eq_getElem (by have := E.out; omega)⟩
      obtain ⟨b, off, rfl, _, hs⟩ := h.cell k x hx
      clear hx
      go_wp2
      · go_ret
        exact ⟨⟨_, rfl⟩, rfl⟩
      · go_round
        case rel => exact ⟨k + 1, by omega, by go_num, _, rfl⟩
        case measure => simp [intOf]; omega
    · go_wp2
      go_ret
      exact ⟨⟨_, rfl⟩, rfl⟩

set_option maxHeartbeats 1000000 in
theorem zzBytes1_calls (w : World) (a c : Option Addr) (n m ca cc : Nat) (ks : List ByteArray) (vs : List Int) (h : IsStrs w a n ks) (hv : IsInts w c m vs) :
    Calls Try.prog 5 #[.slice a n ca, .slice c m cc] w fun e w' => IsBool e ∧ w' = w := by
  have hm := h.max
  have hl := h.len
  have hm2 := hv.max
  unfold maxLen at hm hm2
  have E : Hid (ks.length = n) := hl
  clear hl
  go_enter Try.func5, Try.ntmps5
  go_wp2
  · go_ret
    exact ⟨⟨_, rfl⟩, rfl⟩
  · go_loop [5, 6] (fun t i => ∃ k : Nat, k ≤ n ∧ i = .int .i64 k ∧ ∃ q, t = .int .i64 q) (fun _ i => n - (intOf i).toNat)
    case atStart => exact ⟨0, Nat.zero_le _, rfl, _, rfl⟩
    case round =>
      obtain ⟨k, hk, rfl, q, rfl⟩ := hrel
      by_cases hlt : k < n
      · obtain ⟨x, hx⟩ : ∃ x, ks[k]? = some x := ⟨_, List.getElem?_eq_getElem (by have := E.out; omega)⟩
        obtain ⟨b, off, rfl, _, hs⟩ := h.cell k x hx
        clear hx
        go_wp2
        · go_ret
          exact ⟨⟨_, rfl⟩, rfl⟩
        · go_ret
          exact ⟨⟨_, rfl⟩, rfl⟩
        · go_round
          case rel => exact ⟨k + 1, by omega, by go_num, _, rfl⟩
          case measure => simp [intOf]; omega
      · go_wp2
        all_goals
          go_ret
          exact ⟨⟨_, rfl⟩, rfl⟩
end Go.Proofs.Qxb6614095a
