/-
  WALKS of seat b6614347a: asciiLower.
-/
import Derived.Test.Qxb6614347aRows
import Derived.WalkKit
import Derived.WalkSpells
import Derived.WalkLawsBesides
import Derived.Laws.IdiomStrings
import Derived.Lib.Strings

namespace Go.Proofs.Qxb6614347a
open Go.RowKit

/-- An ASCII upper-case letter lowered. -/
def lowB (c : UInt8) : UInt8 := if 65 ≤ c.toNat ∧ c.toNat ≤ 90 then UInt8.ofNat (c.toNat + 32) else c
theorem lowB_up {c : UInt8} (h : 65 ≤ c.toNat ∧ c.toNat ≤ 90) : (lowB c).toNat = c.toNat + 32 := by
  unfold lowB
  rw [if_pos h]
  simp
  omega
theorem lowB_id {c : UInt8} (h : ¬ (65 ≤ c.toNat ∧ c.toNat ≤ 90)) : lowB c = c := by unfold lowB; rw [if_neg h]

/-- Block B's first cells are these bytes, none of them frozen. -/
def Bytes (w : World) (B : Nat) (l : List UInt8) : Prop := ∀ j x, l[j]? = some x → w.cell? ⟨B, j, none⟩ = some (.int .u8 x.toNat) ∧ w.frozen? ⟨B, j, none⟩ = false

theorem Bytes.set {w : World} {B : Nat} {l : List UInt8} (h : Bytes w B l) {k : Nat} (hk : k < l.length) (y : UInt8) : Bytes (w.setCell ⟨B, k, none⟩ (.int .u8 y.toNat)) B (l.set k y) := by
  intro j x hx
  by_cases hjk : k = j
  · subst hjk
    have : x = y := by simp [hk] at hx; exact hx.symm
    subst this
    obtain ⟨h1, h2⟩ := h k l[k] (List.getElem?_eq_getElem hk)
    exact ⟨World.cell?_setCell_same _ _ _ (by rw [h1]), by rw [World.frozen?_setCell]; exact h2⟩
  · rw [List.getElem?_set_ne hjk] at hx
    obtain ⟨h1, h2⟩ := h j x hx
    exact ⟨by rw [World.cell?_setCell_other _ _ _ _ (fun e => hjk (by simpa using congrArg Addr.off e))]; exact h1, by rw [World.frozen?_setCell]; exact h2⟩

theorem set_same {α : Type} {l : List α} {p : Nat} {x : α} (h : l[p]? = some x) : l.set p x = l := by
  obtain ⟨hp, rfl⟩ := List.getElem?_eq_some_iff.1 h
  simp
theorem bytes_fresh (w : World) (s : ByteArray) (cap : Nat) : Bytes ((w.alloc (.cells (bytesRow s cap) 5 ((bytesRow s cap).size, (bytesRow s cap).size + 1))).drew) w.heap.size s.data.toList := by
  intro j x hx
  have hj : j < s.data.size := by have := (List.getElem?_eq_some_iff.1 hx).1; simpa using this
  have hxe : x = s.data[j] := by
    obtain ⟨h1, h2⟩ := List.getElem?_eq_some_iff.1 hx
    rw [← h2]; simp
  subst hxe
  have hrow := bytesRow_at s cap j hj
  have hsz : j < (bytesRow s cap).size := (Array.getElem?_eq_some_iff.1 hrow).1
  have hh : ((w.alloc (.cells (bytesRow s cap) 5 ((bytesRow s cap).size, (bytesRow s cap).size + 1))).drew).heap[w.heap.size]? = some (.cells (bytesRow s cap) 5 ((bytesRow s cap).size, (bytesRow s cap).size + 1)) := by
    show (w.heap.push _)[w.heap.size]? = _
    exact Array.getElem?_push_size
  constructor
  · simp only [World.cell?, hh]
    simpa using hrow
  · simp only [World.frozen?, hh]
    simp; omega

set_option maxHeartbeats 1000000 in
theorem low_calls (s : ByteArray) (w : World) (hs : s.size ≤ 1000000) :
    Calls Try.prog 11 #[.string s] w fun e w' => e = .returned (.string ⟨(s.data.toList.map lowB).toArray⟩) ∧ Below w.heap.size w w' := by
  have hcv := run_bytes_of_string (P := Try.prog) w 9 26 5 s Try.underlying9 Try.underlying26 Try.underlying5
  have hb0 := bytes_fresh w s (grownCap w s.size 0 5)
  have hbel0 : Below w.heap.size w ((w.alloc (.cells (bytesRow s (grownCap w s.size 0 5)) 5 ((bytesRow s (grownCap w s.size 0 5)).size, (bytesRow s (grownCap w s.size 0 5)).size + 1))).drew) := ((Below.refl _ _).alloc (Nat.le_refl _) _).drew
  have E : Hid (s.data.toList.length = s.size) := (Lib.size_eq s).symm
  go_enter Try.func11, Try.ntmps11
  go_wp2
  clear hcv
  go_loopw [4, 5, 10] (fun _ _ i w' => ∃ k : Nat, i = .int .i64 k ∧ k ≤ s.size ∧ Bytes w' w.heap.size ((s.data.toList.take k).map lowB ++ s.data.toList.drop k) ∧ Below w.heap.size w w') (fun _ _ i _ => s.size - (intOf i).toNat)
  case atStart => exact ⟨0, rfl, by omega, by simpa using hb0, hbel0⟩
  case round =>
    clear hb0 hbel0
    obtain ⟨k, rfl, hkn, hb, hbel⟩ := hrel
    by_cases hlt : k < s.size
    · obtain ⟨x, hx⟩ : ∃ x, s.data.toList[k]? = some x := ⟨_, List.getElem?_eq_getElem (by have := E.out; omega)⟩
      have hl : ((s.data.toList.take k).map lowB).length = k := by have := E.out; simp; omega
      have hxk : ((s.data.toList.take k).map lowB ++ s.data.toList.drop k)[k]? = some x := by
        rw [List.getElem?_append_right (by omega), hl, Nat.sub_self, List.getElem?_drop]; simpa using hx
      obtain ⟨c1, c2⟩ := hb k x hxk
      have hnext : (s.data.toList.take (k + 1)).map lowB ++ s.data.toList.drop (k + 1) = ((s.data.toList.take k).map lowB ++ s.data.toList.drop k).set k (lowB x) := by
        obtain ⟨hk, rfl⟩ := List.getElem?_eq_some_iff.1 hx
        rw [List.take_succ_eq_append_getElem hk]
        have e := List.drop_eq_getElem_cons hk
        rw [e, List.map_append]
        conv => rhs; arg 2; rw [← hl]
        rw [List.set_append_right _ _ (Nat.le_refl _), Nat.sub_self]
        simp
      have HN : Hid ((s.data.toList.take (k + 1)).map lowB ++ s.data.toList.drop (k + 1) = ((s.data.toList.take k).map lowB ++ s.data.toList.drop k).set k (lowB x)) := hnext
      have hx255 : x.toNat < 256 := x.toNat_lt
      have hlen : k < ((s.data.toList.take k).map lowB ++ s.data.toList.drop k).length := (List.getElem?_eq_some_iff.1 hxk).1
      have HX : Hid (((s.data.toList.take k).map lowB ++ s.data.toList.drop k).set k x = (s.data.toList.take k).map lowB ++ s.data.toList.drop k) := set_same hxk
      clear hnext hx hl hxk
      by_cases hup : 65 ≤ x.toNat ∧ x.toNat ≤ 90
      · obtain ⟨u1, u2⟩ := hup
        have u1' : (65 : Int) ≤ x.toNat := by omega
        have u2' : (x.toNat : Int) ≤ 90 := by omega
        go_wp2
        go_roundw
        case rel =>
          have e : ((x.toNat : Int) + 97 - 65) = ((lowB x).toNat : Int) := by rw [lowB_up ⟨u1, u2⟩]; omega
          refine ⟨k + 1, by go_num, by omega, ?_, hbel.setCell (p := ⟨w.heap.size, k, none⟩) (Nat.le_refl _) _⟩
          rw [HN.out, e]
          exact hb.set hlen (lowB x)
        case measure => simp [intOf]; omega
      · have hkeep : Bytes wr w.heap.size ((s.data.toList.take (k + 1)).map lowB ++ s.data.toList.drop (k + 1)) := by
          rw [HN.out, lowB_id hup]
          rw [HX.out]; exact hb
        by_cases u1 : 65 ≤ x.toNat
        · have u1' : (65 : Int) ≤ x.toNat := by omega
          have u2' : ¬ (x.toNat : Int) ≤ 90 := by omega
          go_wp2
          go_roundw
          case rel => exact ⟨k + 1, by go_num, by omega, hkeep, hbel⟩
          case measure => simp [intOf]; omega
        · have u1' : decide ((65 : Int) ≤ x.toNat) = false := by simp; omega
          go_wp2
          go_roundw
          case rel => exact ⟨k + 1, by go_num, by omega, hkeep, hbel⟩
          case measure => simp [intOf]; omega
    · have hk : k = s.size := by omega
      have hb' : Bytes wr w.heap.size (s.data.toList.map lowB) := by
        rw [hk, List.take_of_length_le (by have := E.out; omega), List.drop_eq_nil_of_le (by have := E.out; omega)] at hb
        simpa using hb
      have hcv := run_convert_bytes_back (P := Try.prog) wr 26 9 5 ⟨w.heap.size, 0, none⟩ (grownCap w s.size 0 5) (s.data.toList.map lowB) Try.underlying26 Try.underlying5 Try.underlying9 (by
        intro j hj
        have := (hb' j _ (List.getElem?_eq_getElem hj)).1
        rw [show (⟨w.heap.size, 0, none⟩ : Addr).add j = ⟨w.heap.size, j, none⟩ from by unfold Addr.add; split <;> simp_all]
        exact this)
      rw [List.length_map, E.out] at hcv
      clear hb hk
      go_wp2
      go_ret
      exact ⟨rfl, hbel⟩
end Go.Proofs.Qxb6614347a
