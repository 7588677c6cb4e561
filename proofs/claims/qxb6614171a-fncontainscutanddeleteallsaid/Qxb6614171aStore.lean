/-
  WALKS of seat b6614171a: toStore.
-/
import Derived.Test.Qxb6614171aLeaf
namespace Go.Proofs.Qxb6614171a
open Go.RowKit

theorem take_snoc {l : List R} {i : Nat} {m : R} (h : l[i]? = some m) : l.take (i + 1) = l.take i ++ [m] := by
  obtain ⟨hi, rfl⟩ := List.getElem?_eq_some_iff.1 h
  exact List.take_succ_eq_append_getElem hi

set_option maxRecDepth 100000 in
set_option maxHeartbeats 1000000 in
theorem toStore_calls (w : World) (a : Option Addr) (n c : Nat) (rs : List R) (h : IsRows w a n rs) (hn : n ≤ 65536) :
    Calls Try.prog 7 #[.slice a n c] w fun e w' => e = .returned (.slice (some ⟨w.heap.size, 0, none⟩) n n) ∧ Grew w.heap.size (enc2 rs) (w.alloc (.cells (zer2 n).toArray 31)) w' := by
  have E : Hid (rs.length = n) := h.len
  have hmk := run_make_rows w n (by omega)
  have hst := Grew.start w n
  go_enter Try.func7, Try.ntmps7
  go_wp2
  clear hmk
  go_loopw [3, 4] (fun o i w' => ∃ k : Nat, i = .int .i64 k ∧ k ≤ n ∧ o = .slice (some ⟨w.heap.size, 0, none⟩) k n ∧ Grew w.heap.size (enc2 (rs.take k) ++ zer2 (n - k)) (w.alloc (.cells (zer2 n).toArray 31)) w') (fun _ i _ => n - (intOf i).toNat)
  case atStart => exact ⟨0, rfl, by omega, rfl, by simpa using hst⟩
  case round =>
    clear hst
    obtain ⟨k, rfl, hkn, rfl, hg⟩ := hrel
    have hbel : Below w.heap.size w wr := ((Below.refl _ _).alloc (Nat.le_refl _) _).trans (hg.below (by simp))
    by_cases hlt : (k : Int) < n
    · obtain ⟨x, hx⟩ : ∃ x, rs[k]? = some x := ⟨_, List.getElem?_eq_getElem (by have := E.out; omega)⟩
      obtain ⟨bb, off, rfl, hbb, h1, h2⟩ := (h.below hbel).cell k x hx
      have hl : (rs.take k).length = k := by rw [List.length_take]; have := E.out; omega
      have hd1 := hg.here.cell (fill_fst hl (by omega))
      have hd2 := hg.here.cell (fill_snd hl (by omega))
      have hfr := hg.here.thawed
      have hBl := hg.lt
      have hroom : k + 1 ≤ n := by omega
      have hfin : Hid (Grew w.heap.size (enc2 (rs.take (k + 1)) ++ zer2 (n - (k + 1))) (w.alloc (.cells (zer2 n).toArray 31)) ((((wr.setCell ⟨w.heap.size, k * 2, none⟩ (.string x.1)).setCell ⟨w.heap.size, k * 2 + 1, none⟩ (.string x.2)).alloc (.cells #[.string x.1, .string x.2] 31)).drew)) := by
        rw [show n - k = (n - (k + 1)) + 1 from by omega] at hg
        have h1 := (((hg.fill (r := x) hl).alloc (.cells #[.string x.1, .string x.2] 31)).drew)
        rw [← take_snoc hx] at h1
        exact h1
      clear hx hl hbel
      go_wp2
      go_region
      all_goals
        go_wp2
        go_roundw
        case rel => exact ⟨k + 1, by go_num, by omega, rfl, hfin.out⟩
        case measure => simp [intOf]; omega
    · go_wp2
      go_ret
      have hk : k = n := by omega
      subst hk
      rw [List.take_of_length_le (by have := E.out; omega), Nat.sub_self] at hg
      exact ⟨rfl, by simpa [zer2] using hg⟩
end Go.Proofs.Qxb6614171a
