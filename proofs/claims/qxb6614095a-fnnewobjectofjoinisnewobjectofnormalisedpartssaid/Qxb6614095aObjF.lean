/-
  WALKS of seat b6614095a: zzb1SameObject, zzBytes of the second law.
-/
import Derived.Test.Qxb6614095aObjE
namespace Go.Proofs.Qxb6614095a
open Go.RowKit

set_option maxRecDepth 100000 in
set_option maxHeartbeats 1000000 in
theorem sameObject_calls (w : World) (B C n m : Nat) (r : List M) (rest rest' : List Value) (hB : Has w B 31 (enc r ++ rest)) (hC : Has w C 31 (enc r ++ rest')) (hrn : r.length ≤ n) (hn : n ≤ 1000000) :
    Calls Try.prog 13 #[.slice (some ⟨B, 0, none⟩) r.length n, .slice (some ⟨C, 0, none⟩) r.length m] w fun e w' => e = .returned (.bool true) ∧ Below w.heap.size w w' := by
  have hne : (((r.length : Nat) : Int) != (r.length : Int)) = false := by simp
  go_enter Try.func13, Try.ntmps13
  go_wp2
  go_loopw [5] (fun i w' => ∃ k : Nat, i = .int .i64 k ∧ k ≤ r.length ∧ Below w.heap.size w w') (fun i _ => r.length - (intOf i).toNat)
  case atStart => exact ⟨0, rfl, by omega, Below.refl _ _⟩
  case round =>
    obtain ⟨k, rfl, hkr, hbel⟩ := hrel
    by_cases hlt : k < r.length
    · obtain ⟨x, hx⟩ : ∃ x, r[k]? = some x := ⟨_, List.getElem?_eq_getElem hlt⟩
      have hB' : Has wr B 31 (enc r ++ rest) := Below.has hbel hB hB.lt
      have hC' : Has wr C 31 (enc r ++ rest') := Below.has hbel hC hC.lt
      have a1 := hB'.cell (o := k * 2) (u := .string x.1) (by rw [List.getElem?_append_left (by rw [enc_length]; omega)]; exact enc_key r k x hx)
      have b1 := hC'.cell (o := k * 2) (u := .string x.1) (by rw [List.getElem?_append_left (by rw [enc_length]; omega)]; exact enc_key r k x hx)
      have HX : Hid (r[k]? = some x) := hx
      have hk1 : (k : Int) < r.length := by omega
      clear hx
      go_wp2
      go_quiet (fail)
      clear a1 b1
      have hbel' : Below w.heap.size w (wr.drewN nq) := ⟨hbel.os, hbel.tape, hbel.output, hbel.size, hbel.block⟩
      clear hB' hC' hbel
      generalize wr.drewN nq = wq at hbel' ⊢
      have hB' : Has wq B 31 (enc r ++ rest) := Below.has hbel' hB hB.lt
      have hC' : Has wq C 31 (enc r ++ rest') := Below.has hbel' hC hC.lt
      have a1 := hB'.cell (o := k * 2) (u := .string x.1) (by rw [List.getElem?_append_left (by rw [enc_length]; omega)]; exact enc_key r k x HX.out)
      have a2 := hB'.cell (o := k * 2 + 1) (u := .iface 2 (.int .i64 x.2)) (by rw [List.getElem?_append_left (by rw [enc_length]; omega)]; exact enc_val r k x HX.out)
      have b1 := hC'.cell (o := k * 2) (u := .string x.1) (by rw [List.getElem?_append_left (by rw [enc_length]; omega)]; exact enc_key r k x HX.out)
      have b2 := hC'.cell (o := k * 2 + 1) (u := .iface 2 (.int .i64 x.2)) (by rw [List.getElem?_append_left (by rw [enc_length]; omega)]; exact enc_val r k x HX.out)
      have l1 := hB'.lt
      have l2 := hC'.lt
      have hxx : (x.2 != x.2) = false := by simp
      go_wp2_with fail
      refine (intOf_calls _ _ _).mono ?_
      rintro e w5 ⟨rfl, rfl⟩
      go_wp2_with fail
      refine (intOf_calls _ _ _).mono ?_
      rintro e w6 ⟨rfl, rfl⟩
      go_wp2
      go_roundw
      case rel => exact ⟨k + 1, by go_num, by omega, (hbel'.alloc hbel'.size _).alloc (by have := hbel'.size; simp; omega) _⟩
      case measure => simp [intOf]; omega
    · go_wp2
      go_ret
      exact ⟨rfl, hbel⟩

set_option maxRecDepth 100000 in
set_option maxHeartbeats 1000000 in
theorem zzBytes2_calls (w : World) (a c a' c' : Option Addr) (n m ca cc n' m' ca' cc' : Nat) (ks ks' : List ByteArray) (vs vs' : List Int) (h : IsStrs w a n ks) (hv : IsInts w c m vs) (h' : IsStrs w a' n' ks') (hv' : IsInts w c' m' vs') :
    Calls Try.prog 11 #[.slice a n ca, .slice c m cc, .slice a' n' ca', .slice c' m' cc'] w fun e w' => IsBool e ∧ w' = w := by
  have hm := h.max
  have hm2 := hv.max
  have hm' := h'.max
  have hm2' := hv'.max
  unfold maxLen at hm hm2 hm' hm2'
  have E : Hid (ks.length = n ∧ ks'.length = n') := ⟨h.len, h'.len⟩
  go_enter Try.func11, Try.ntmps11
  go_wp2
  · go_ret
    exact ⟨⟨_, rfl⟩, rfl⟩
  · go_loop [9, 10] (fun t i => ∃ k : Nat, k ≤ n ∧ i = .int .i64 k ∧ ∃ q, t = .int .i64 q) (fun _ i => n - (intOf i).toNat)
    case atStart => exact ⟨0, Nat.zero_le _, rfl, _, rfl⟩
    case round =>
      obtain ⟨k, hk, rfl, q, rfl⟩ := hrel
      by_cases hlt : k < n
      · obtain ⟨x, hx⟩ : ∃ x, ks[k]? = some x := ⟨_, List.getElem?_eq_getElem (by have := E.out; omega)⟩
        obtain ⟨b, off, rfl, _, hs⟩ := h.cell k x hx
        clear hx
        go_wp2
        · go_ret
          exact ⟨⟨_, rfl⟩, rfl⟩
        · go_ret
          exact ⟨⟨_, rfl⟩, rfl⟩
        · go_round
          case rel => exact ⟨k + 1, by omega, by go_num, _, rfl⟩
          case measure => simp [intOf]; omega
      · go_wp2
        · go_ret
          exact ⟨⟨_, rfl⟩, rfl⟩
        · go_ret
          exact ⟨⟨_, rfl⟩, rfl⟩
        · go_ret
          exact ⟨⟨_, rfl⟩, rfl⟩
        · go_ret
          exact ⟨⟨_, rfl⟩, rfl⟩
        · go_loop [9, 11] (fun t i => ∃ k : Nat, k ≤ n' ∧ i = .int .i64 k ∧ ∃ q, t = .int .i64 q) (fun _ i => n' - (intOf i).toNat)
          case atStart => exact ⟨0, Nat.zero_le _, rfl, _, rfl⟩
          case round =>
            obtain ⟨k', hk', rfl, q', rfl⟩ := hrel
            by_cases hlt' : k' < n'
            · obtain ⟨x, hx⟩ : ∃ x, ks'[k']? = some x := ⟨_, List.getElem?_eq_getElem (by have := E.out; omega)⟩
              obtain ⟨b, off, rfl, _, hs⟩ := h'.cell k' x hx
              clear hx
              go_wp2
              · go_ret
                exact ⟨⟨_, rfl⟩, rfl⟩
              · go_ret
                exact ⟨⟨_, rfl⟩, rfl⟩
              · go_round
                case rel => exact ⟨k' + 1, by omega, by go_num, _, rfl⟩
                case measure => simp [intOf]; omega
            · go_wp2
              all_goals
                go_ret
                exact ⟨⟨_, rfl⟩, rfl⟩
end Go.Proofs.Qxb6614095a
