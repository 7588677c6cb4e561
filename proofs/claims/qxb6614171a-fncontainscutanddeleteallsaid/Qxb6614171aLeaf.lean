/-
  WALKS of seat b6614171a: Contains (with slices.ContainsFunc, slices.IndexFunc and the closure), rowsTooBig, the two zzBytes.
-/
import Derived.Test.Qxb6614171aWorld
import Derived.Deep.QuietTactic
import Derived.BigQuiet
import Derived.RegionTactic
namespace Go.Proofs.Qxb6614171a
open Go.RowKit

set_option maxHeartbeats 400000 in
/-- The closure: is the row's URI the boxed one? -/
theorem isIt_calls (w : World) (x : R) (q : ByteArray) (b : Nat) (hb : b < w.heap.size) (hq : w.cell? ⟨b, 0, none⟩ = some (.string q)) :
    Calls Try.prog 11 #[.agg #[.string x.1, .string x.2], .pointer (some ⟨b, 0, none⟩)] w fun e w' => e = .returned (.bool (x.2.toList == q.toList)) ∧ w' = w.alloc (.cells #[.string x.1, .string x.2] 31) := by
  go_enter Try.func11, Try.ntmps11
  go_wp2
  go_ret
  exact ⟨rfl, rfl⟩

/-- It answers an index that is at least 0 just where the URI is there. -/
def Idx (rs : List R) (q : ByteArray) (e : Ending) : Prop := ∃ i : Int, e = .returned (.int .i64 i) ∧ decide (0 ≤ i) = has rs q

theorem has_take {rs : List R} {k : Nat} {x : R} {q : ByteArray} (hx : rs[k]? = some x) : has (rs.take (k + 1)) q = (has (rs.take k) q || (x.2.toList == q.toList)) := by
  obtain ⟨hk, rfl⟩ := List.getElem?_eq_some_iff.1 hx
  rw [List.take_succ_eq_append_getElem hk, has_append]
  simp [has]
theorem has_of_take {rs : List R} {k : Nat} {q : ByteArray} (h : has (rs.take k) q = true) : has rs q = true := by
  rw [← List.take_append_drop k rs, has_append, h]; rfl

set_option maxHeartbeats 1000000 in
theorem index_calls (w : World) (a : Option Addr) (n c : Nat) (rs : List R) (h : IsRows w a n rs) (q : ByteArray) (b : Nat) (hb : b < w.heap.size) (hq : w.cell? ⟨b, 0, none⟩ = some (.string q)) :
    Calls Try.prog 12 #[.slice a n c, .func (.func 11) #[] #[.pointer (some ⟨b, 0, none⟩)]] w fun e w' => Idx rs q e ∧ Below w.heap.size w w' := by
  have hm := h.max
  unfold maxLen at hm
  have E : Hid (rs.length = n) := h.len
  go_enter Try.func12, Try.ntmps12
  go_wp2
  go_loopw [5, 8] (fun _ i w' => ∃ k : Nat, i = .int .i64 k ∧ k ≤ n ∧ has (rs.take k) q = false ∧ Below w.heap.size w w') (fun _ i _ => n - (intOf i).toNat)
  case atStart => exact ⟨0, rfl, by omega, rfl, Below.refl _ _⟩
  case round =>
    obtain ⟨k, rfl, hkn, hno, hbel⟩ := hrel
    by_cases hlt : (k : Int) < n
    · obtain ⟨x, hx⟩ : ∃ x, rs[k]? = some x := ⟨_, List.getElem?_eq_getElem (by have := E.out; omega)⟩
      obtain ⟨bb, off, rfl, hbb, h1, h2⟩ := (h.below hbel).cell k x hx
      have hq' : wr.cell? ⟨b, 0, none⟩ = some (.string q) := by rw [hbel.cell (p := ⟨b, 0, none⟩) hb]; exact hq
      have hb' : b < wr.heap.size := Nat.lt_of_lt_of_le hb hbel.size
      have HX : Hid (rs[k]? = some x) := hx
      clear hx
      go_wp2_with fail
      refine (isIt_calls wr x q b hb' hq').mono ?_
      rintro e w' ⟨rfl, rfl⟩
      cases hit : (x.2.toList == q.toList) with
      | true =>
        go_wp2
        go_ret
        refine ⟨⟨k, rfl, ?_⟩, hbel.alloc hbel.size _⟩
        have := has_of_take (rs := rs) (k := k + 1) (q := q) (by rw [has_take HX.out, hit]; simp)
        rw [this]; simp
      | false =>
        go_wp2
        go_roundw
        case rel => exact ⟨k + 1, by go_num, by omega, by rw [has_take HX.out, hno, hit]; rfl, hbel.alloc hbel.size _⟩
        case measure => simp [intOf]; omega
    · go_wp2
      go_ret
      refine ⟨⟨-1, rfl, ?_⟩, hbel⟩
      rw [List.take_of_length_le (by have := E.out; omega)] at hno
      simp [hno]

set_option maxHeartbeats 400000 in
theorem containsFunc_calls (w : World) (a : Option Addr) (n c : Nat) (rs : List R) (h : IsRows w a n rs) (q : ByteArray) (b : Nat) (hb : b < w.heap.size) (hq : w.cell? ⟨b, 0, none⟩ = some (.string q)) :
    Calls Try.prog 10 #[.slice a n c, .func (.func 11) #[] #[.pointer (some ⟨b, 0, none⟩)]] w fun e w' => e = .returned (.bool (has rs q)) ∧ Below w.heap.size w w' := by
  go_enter Try.func10, Try.ntmps10
  go_wp2_with fail
  refine (index_calls w a n c rs h q b hb hq).mono ?_
  rintro e w' ⟨⟨i, rfl, hi⟩, hbel⟩
  have HI : Hid (decide (0 ≤ i) = has rs q) := hi
  clear hi
  go_wp2
  go_ret
  exact ⟨congrArg (fun b => Ending.returned (.bool b)) HI.out, hbel⟩

set_option maxHeartbeats 400000 in
theorem contains_calls (w : World) (a : Option Addr) (n c : Nat) (rs : List R) (h : IsRows w a n rs) (q : ByteArray) :
    Calls Try.prog 8 #[.slice a n c, .string q] w fun e w' => e = .returned (.bool (has rs q)) ∧ Below w.heap.size w w' := by
  go_enter Try.func8, Try.ntmps8
  go_wp2_with fail
  refine (containsFunc_calls (w.alloc (.cells #[.string q] 9)) a n c rs (h.below ((Below.refl _ _).alloc (Nat.le_refl _) _)) q w.heap.size (by simp) (by simp)).mono ?_
  rintro e w' ⟨rfl, hbel⟩
  go_wp2
  go_ret
  exact ⟨rfl, ((Below.refl _ _).alloc (Nat.le_refl _) _).trans (hbel.mono (by simp))⟩

/-- It answers a bool, and false only where there are at most 65536 rows. -/
def Big (n : Nat) (e : Ending) : Prop := ∃ b, e = .returned (.bool b) ∧ (b = false → n ≤ 65536)

set_option maxHeartbeats 1000000 in
theorem tooBig_calls (w : World) (a : Option Addr) (n c : Nat) (rs : List R) (h : IsRows w a n rs) (t : Int) :
    Calls Try.prog 6 #[.slice a n c, .int .i64 t] w fun e w' => Big n e ∧ ∃ k, w' = w.drewN k := by
  have hm := h.max
  unfold maxLen at hm
  have E : Hid (rs.length = n) := h.len
  by_cases hn : 65536 < n
  · have hn' : (65536 : Int) < n := by omega
    go_enter Try.func6, Try.ntmps6
    go_wp2
    go_ret
    exact ⟨⟨true, rfl, fun h => by cases h⟩, 0, rfl⟩
  by_cases ht : 1048576 < t
  · have hn' : decide ((65536 : Int) < n) = false := by simp; omega
    go_enter Try.func6, Try.ntmps6
    go_wp2
    go_ret
    exact ⟨⟨true, rfl, fun h => by cases h⟩, 0, rfl⟩
  have hn' : decide ((65536 : Int) < n) = false := by simp; omega
  have ht' : decide ((1048576 : Int) < t) = false := by simpa using ht
  clear ht
  go_enter Try.func6, Try.ntmps6
  go_wp2
  go_loopw [5, 6] (fun q i w' => ∃ k : Nat, i = .int .i64 k ∧ k ≤ n ∧ (∃ z, q = .int .i64 z) ∧ ∃ z, w' = w.drewN z) (fun _ i _ => n - (intOf i).toNat)
  case atStart => exact ⟨0, rfl, by omega, ⟨_, rfl⟩, 0, rfl⟩
  case round =>
    obtain ⟨k, rfl, hkn, ⟨q, rfl⟩, z, rfl⟩ := hrel
    by_cases hlt : (k : Int) < n
    · obtain ⟨x, hx⟩ : ∃ x, rs[k]? = some x := ⟨_, List.getElem?_eq_getElem (by have := E.out; omega)⟩
      obtain ⟨bb, off, rfl, hbb, h1, h2⟩ := h.cell k x hx
      clear hx
      go_wp2
      go_quiet (fail)
      go_wp2
      · go_ret
        exact ⟨⟨true, rfl, fun h => by cases h⟩, z + nq, by simp [World.drewN]⟩
      · go_roundw
        case rel => exact ⟨k + 1, by go_num, by omega, ⟨_, rfl⟩, z + nq, by simp [World.drewN]⟩
        case measure => simp [intOf]; omega
    · go_wp2
      go_ret
      exact ⟨⟨false, rfl, fun _ => by omega⟩, z, rfl⟩

/-- It answers a bool. -/
def IsBool (e : Ending) : Prop := ∃ b, e = .returned (.bool b)

set_option maxRecDepth 100000 in
set_option maxHeartbeats 1000000 in
theorem zzBytesA_calls (w : World) (a : Option Addr) (n c : Nat) (rs : List R) (h : IsRows w a n rs) (t : Int) (id uri q : ByteArray) :
    Calls Try.prog 5 #[.slice a n c, .int .i64 t, .string id, .string uri, .string q] w fun e w' => IsBool e ∧ w' = w := by
  have hm := h.max
  unfold maxLen at hm
  have E : Hid (rs.length = n) := h.len
  go_enter Try.func5, Try.ntmps5
  go_wp2
  · go_ret
    exact ⟨⟨_, rfl⟩, rfl⟩
  · go_loop [11, 12] (fun t i => ∃ k : Nat, k ≤ n ∧ i = .int .i64 k ∧ ∃ q, t = .int .i64 q) (fun _ i => n - (intOf i).toNat)
    case atStart => exact ⟨0, Nat.zero_le _, rfl, _, rfl⟩
    case round =>
      obtain ⟨k, hk, rfl, z, rfl⟩ := hrel
      by_cases hlt : k < n
      · obtain ⟨x, hx⟩ : ∃ x, rs[k]? = some x := ⟨_, List.getElem?_eq_getElem (by have := E.out; omega)⟩
        obtain ⟨b, off, rfl, _, hs1, hs2⟩ := h.cell k x hx
        clear hx
        go_wp2
        · go_ret
          exact ⟨⟨_, rfl⟩, rfl⟩
        · go_ret
          exact ⟨⟨_, rfl⟩, rfl⟩
        · go_ret
          exact ⟨⟨_, rfl⟩, rfl⟩
        · go_ret
          exact ⟨⟨_, rfl⟩, rfl⟩
        · go_round
          case rel => exact ⟨k + 1, by omega, by go_num, _, rfl⟩
          case measure => simp [intOf]; omega
      · go_wp2
        all_goals
          go_ret
          exact ⟨⟨_, rfl⟩, rfl⟩

set_option maxRecDepth 100000 in
set_option maxHeartbeats 1000000 in
theorem zzBytesB_calls (w : World) (a : Option Addr) (n c : Nat) (rs : List R) (h : IsRows w a n rs) (t : Int) (q : ByteArray) :
    Calls Try.prog 9 #[.slice a n c, .int .i64 t, .string q] w fun e w' => IsBool e ∧ w' = w := by
  have hm := h.max
  unfold maxLen at hm
  have E : Hid (rs.length = n) := h.len
  go_enter Try.func9, Try.ntmps9
  go_wp2
  · go_ret
    exact ⟨⟨_, rfl⟩, rfl⟩
  · go_loop [7, 8] (fun t i => ∃ k : Nat, k ≤ n ∧ i = .int .i64 k ∧ ∃ q, t = .int .i64 q) (fun _ i => n - (intOf i).toNat)
    case atStart => exact ⟨0, Nat.zero_le _, rfl, _, rfl⟩
    case round =>
      obtain ⟨k, hk, rfl, z, rfl⟩ := hrel
      by_cases hlt : k < n
      · obtain ⟨x, hx⟩ : ∃ x, rs[k]? = some x := ⟨_, List.getElem?_eq_getElem (by have := E.out; omega)⟩
        obtain ⟨b, off, rfl, _, hs1, hs2⟩ := h.cell k x hx
        clear hx
        go_wp2
        · go_ret
          exact ⟨⟨_, rfl⟩, rfl⟩
        · go_ret
          exact ⟨⟨_, rfl⟩, rfl⟩
        · go_ret
          exact ⟨⟨_, rfl⟩, rfl⟩
        · go_ret
          exact ⟨⟨_, rfl⟩, rfl⟩
        · go_round
          case rel => exact ⟨k + 1, by omega, by go_num, _, rfl⟩
          case measure => simp [intOf]; omega
      · go_wp2
        all_goals
          go_ret
          exact ⟨⟨_, rfl⟩, rfl⟩
end Go.Proofs.Qxb6614171a
