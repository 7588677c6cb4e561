/-
  WALKS of seat b6614095a: the makers and readers of members, zzb1Members.
-/
import Derived.Test.Qxb6614095aObjB
import Derived.Deep.RegionWith
namespace Go.Proofs.Qxb6614095a
open Go.RowKit

set_option maxHeartbeats 400000 in
theorem member_calls (w : World) (k : ByteArray) (v : Int) :
    Calls Try.prog 12 #[.string k, .int .i64 v] w fun e w' => e = .returned (.agg #[.string k, .iface 2 (.int .i64 v)]) ∧ w' = w.alloc (.cells #[.string k, .iface 2 (.int .i64 v)] 31) := by
  go_enter Try.func12, Try.ntmps12
  go_wp2
  exact bodyPost_ret (v := .agg #[.string k, .iface 2 (.int .i64 v)]) (by simp [results, Try.results12, go_sem]) rfl ⟨rfl, rfl⟩

theorem as2 (v : Value) (w : World) : (Instr.typeAssert (.iface 2 v) 20 2 true).run Try.prog w = .ok (.tuple #[v, .bool true]) w := by kernel_rfl

set_option maxHeartbeats 400000 in
theorem intOf_calls (w : World) (k : ByteArray) (v : Int) :
    Calls Try.prog 9 #[.agg #[.string k, .iface 2 (.int .i64 v)]] w fun e w' => e = .returned (.tuple #[.int .i64 v, .bool true]) ∧ w' = w.alloc (.cells #[.string k, .iface 2 (.int .i64 v)] 31) := by
  have h := as2
  go_enter Try.func9, Try.ntmps9
  go_wp2
  go_ret2
  exact ⟨rfl, rfl⟩

set_option maxHeartbeats 400000 in
theorem isNil_calls (w : World) (k : ByteArray) :
    Calls Try.prog 10 #[.agg #[.string k, .nilIface]] w fun e w' => e = .returned (.bool true) ∧ w' = w.alloc (.cells #[.string k, .nilIface] 31) := by
  go_enter Try.func10, Try.ntmps10
  go_wp2
  go_ret
  exact ⟨rfl, rfl⟩

/-- What the walk is told of a slice of strings that came in. -/
structure IsStrs (w : World) (a : Option Addr) (n : Nat) (ks : List ByteArray) : Prop where
  len : ks.length = n
  max : n ≤ maxLen
  cell : ∀ k x, ks[k]? = some x → ∃ b off, a = some ⟨b, off, none⟩ ∧ b < w.heap.size ∧ w.cell? ⟨b, off + k, none⟩ = some (.string x)
structure IsInts (w : World) (a : Option Addr) (n : Nat) (vs : List Int) : Prop where
  len : vs.length = n
  max : n ≤ maxLen
  cell : ∀ k x, vs[k]? = some x → ∃ b off, a = some ⟨b, off, none⟩ ∧ b < w.heap.size ∧ w.cell? ⟨b, off + k, none⟩ = some (.int .i64 x)
theorem IsStrs.below {w w' : World} {a : Option Addr} {n : Nat} {ks : List ByteArray} (h : IsStrs w a n ks) (hb : Below w.heap.size w w') : IsStrs w' a n ks :=
  ⟨h.len, h.max, fun k x hk => by
    obtain ⟨b, off, h1, h2, h3⟩ := h.cell k x hk
    exact ⟨b, off, h1, Nat.lt_of_lt_of_le h2 hb.size, by rw [hb.cell (p := ⟨b, off + k, none⟩) h2]; exact h3⟩⟩
theorem IsInts.below {w w' : World} {a : Option Addr} {n : Nat} {ks : List Int} (h : IsInts w a n ks) (hb : Below w.heap.size w w') : IsInts w' a n ks :=
  ⟨h.len, h.max, fun k x hk => by
    obtain ⟨b, off, h1, h2, h3⟩ := h.cell k x hk
    exact ⟨b, off, h1, Nat.lt_of_lt_of_le h2 hb.size, by rw [hb.cell (p := ⟨b, off + k, none⟩) h2]; exact h3⟩⟩

theorem info31 : (Try.prog.info? 31).map (fun i => (i.zero, i.size, i.bytes)) = some (some (.agg #[.string ⟨#[]⟩, .nilIface]), 2, 32) := by kernel_rfl

theorem made_two (k : Nat) : madeCells #[.string ⟨#[]⟩, .nilIface] (k * 2) = (zers k).toArray := by
  apply Array.toList_inj.1
  apply List.ext_getElem?
  intro i
  rw [zers_get]
  by_cases h : i < k * 2
  · rw [if_pos h]
    have h2 : i % 2 = 0 ∨ i % 2 = 1 := by omega
    rcases h2 with h2 | h2 <;> simp [madeCells, h, h2]
  · rw [if_neg h]
    simp [madeCells]; omega

/-- 'make([]Member, n)'. -/
theorem run_make_members (w : World) (n : Nat) (hn : n ≤ 1099511627776) :
    (Instr.makeSlice 26 (.int .i64 n) (.int .i64 n)).run Try.prog w = .ok (.slice (some ⟨w.heap.size, 0, none⟩) n n) (w.alloc (.cells (zers n).toArray 31)) := by
  obtain ⟨i, hi, hz, hs, hb⟩ := info_parts info31
  have h := run_make (P := Try.prog) w 26 31 i _ Try.underlying26 hi hz .i64 .i64 n n (by omega) (by omega) (by rw [hb]; omega) (by omega)
  rw [hs] at h
  simp only [Int.toNat_natCast] at h
  rw [h, ← made_two]
  rfl

theorem enc_zers_set {l : List M} {z : Nat} {m : M} : ((enc l ++ zers (z + 1)).set (l.length * 2) (.string m.1)).set (l.length * 2 + 1) (.iface 2 (.int .i64 m.2)) = enc (l ++ [m]) ++ zers z := by
  have h : l.length * 2 = (enc l).length := (enc_length l).symm
  rw [h, enc_append]
  simp [zers, enc]

set_option maxRecDepth 100000 in
set_option maxHeartbeats 1000000 in
theorem members_calls (w : World) (a c : Option Addr) (n ca cc : Nat) (ks : List ByteArray) (vs : List Int) (hk : IsStrs w a n ks) (hv : IsInts w c n vs) (hb40 : n ≤ 1000000) :
    Calls Try.prog 7 #[.slice a n ca, .slice c n cc] w fun e w' => e = .returned (.slice (some ⟨w.heap.size, 0, none⟩) n n) ∧ Grew w.heap.size (enc (ks.zip vs)) (w.alloc (.cells (zers n).toArray 31)) w' := by
  have hmk := run_make_members w n (by omega)
  have hg0 : Grew w.heap.size (enc [] ++ zers n) (w.alloc (.cells (zers n).toArray 31)) (w.alloc (.cells (zers n).toArray 31)) :=
    ⟨rfl, rfl, rfl, Nat.le_refl _, fun _ _ _ => rfl, by show (w.heap.push _)[w.heap.size]? = _; simp [enc]⟩
  go_enter Try.func7, Try.ntmps7
  go_wp2
  go_loopw [6] (fun i w' => ∃ (k : Nat), i = .int .i64 k ∧ k ≤ n ∧ Grew w.heap.size (enc ((ks.zip vs).take k) ++ zers (n - k)) (w.alloc (.cells (zers n).toArray 31)) w') (fun i _ => n - (intOf i).toNat)
  case atStart => exact ⟨0, rfl, by omega, by simpa using hg0⟩
  case round =>
    obtain ⟨k, rfl, hkn, hg⟩ := hrel
    have hz : (ks.zip vs).length = n := by simp [hk.len, hv.len]
    by_cases hlt : (k : Int) < n
    · obtain ⟨x, hx⟩ : ∃ x, ks[k]? = some x := ⟨_, List.getElem?_eq_getElem (by have := hk.len; omega)⟩
      obtain ⟨v, hv'⟩ : ∃ v, vs[k]? = some v := ⟨_, List.getElem?_eq_getElem (by have := hv.len; omega)⟩
      have hbel : Below w.heap.size w wr := ((Below.refl _ _).alloc (Nat.le_refl _) _).trans (hg.below (by simp))
      obtain ⟨b1, o1, rfl, hb1, hc1⟩ := (hk.below hbel).cell k x hx
      obtain ⟨b2, o2, rfl, hb2, hc2⟩ := (hv.below hbel).cell k v hv'
      have hBl := hg.lt
      have hfr := hg.thawed
      have hlen : ((ks.zip vs).take k).length = k := by simp [hz]; omega
      have hd1 := hg.cell (o := k * 2) (u := .string ⟨#[]⟩) (by rw [List.getElem?_append_right (by rw [enc_length, hlen]; omega), zers_get, enc_length, hlen]; simp; omega)
      have hd2 := hg.cell (o := k * 2 + 1) (u := .nilIface) (by rw [List.getElem?_append_right (by rw [enc_length, hlen]; omega), zers_get, enc_length, hlen]; simp; omega)
      have hfin : Grew w.heap.size (enc ((ks.zip vs).take (k + 1)) ++ zers (n - (k + 1))) (w.alloc (.cells (zers n).toArray 31)) ((((wr.setCell ⟨w.heap.size, k * 2, none⟩ (.string x)).setCell ⟨w.heap.size, k * 2 + 1, none⟩ (.iface 2 (.int .i64 v))).alloc (.cells #[.string x, .iface 2 (.int .i64 v)] 31)).drew) := by
        have h1 := (hg.put (k * 2) (.string x) (.iface 2 (.int .i64 v))).alloc (.cells #[.string x, .iface 2 (.int .i64 v)] 31)
        have h2 := enc_zers_set (l := (ks.zip vs).take k) (z := n - (k + 1)) (m := (x, v))
        rw [hlen, show n - (k + 1) + 1 = n - k from by omega] at h2
        rw [h2] at h1
        have h3 : (ks.zip vs).take (k + 1) = (ks.zip vs).take k ++ [(x, v)] := by
          rw [List.take_succ_eq_append_getElem (by omega)]
          congr 1
          simp [(List.getElem?_eq_some_iff.1 hx).2, (List.getElem?_eq_some_iff.1 hv').2]
        rw [h3]
        exact h1.drew
      have HF : Hid (Grew w.heap.size (enc ((ks.zip vs).take (k + 1)) ++ zers (n - (k + 1))) (w.alloc (.cells (zers n).toArray 31)) ((((wr.setCell ⟨w.heap.size, k * 2, none⟩ (.string x)).setCell ⟨w.heap.size, k * 2 + 1, none⟩ (.iface 2 (.int .i64 v))).alloc (.cells #[.string x, .iface 2 (.int .i64 v)] 31)).drew)) := hfin
      clear hfin hmk hg0 hz hx hv' hlen
      go_wp2
      go_region_with (go_at_call 12; refine (member_calls _ _ _).mono ?_; rintro e w' ⟨rfl, rfl⟩)
      all_goals
        go_wp2
        go_roundw
        case rel => exact ⟨k + 1, by go_num, by omega, HF.out⟩
        case measure => simp [intOf]; omega
    · go_wp2
      go_ret
      refine ⟨rfl, ?_⟩
      rw [List.take_of_length_le (by omega), show n - k = 0 from by omega] at hg
      simpa [zers] using hg
end Go.Proofs.Qxb6614095a
