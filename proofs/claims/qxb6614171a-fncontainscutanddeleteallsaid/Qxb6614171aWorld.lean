/-
  Seat b6614171a: rows of two strings in memory; plain laws of 'contains'.
-/
import Derived.Test.Qxb6614171aRows
import Derived.WalkKit
import Derived.WalkSpells
import Derived.WalkLawsBesides
import Derived.Lib.Strings
namespace Go.Proofs.Qxb6614171a
open Go.RowKit

/-- A row: its id, its URI. -/
abbrev R := ByteArray × ByteArray

/-- Is q the URI of one of them? -/
def has (rs : List R) (q : ByteArray) : Bool := rs.any fun r => r.2.toList == q.toList

theorem has_nil (q : ByteArray) : has [] q = false := rfl
theorem has_cons (r : R) (rs : List R) (q : ByteArray) : has (r :: rs) q = ((r.2.toList == q.toList) || has rs q) := rfl
theorem has_append (a b : List R) (q : ByteArray) : has (a ++ b) q = (has a q || has b q) := by simp [has]
theorem has_mem {rs : List R} {r : R} (h : r ∈ rs) : has rs r.2 = true := by
  simp only [has, List.any_eq_true]; exact ⟨r, h, by simp⟩

def enc2 : List R → List Value
  | [] => []
  | r :: l => .string r.1 :: .string r.2 :: enc2 l
theorem enc2_length : ∀ l : List R, (enc2 l).length = l.length * 2
  | [] => rfl
  | _ :: l => by simp [enc2, enc2_length l]; omega
theorem enc2_append : ∀ a b : List R, enc2 (a ++ b) = enc2 a ++ enc2 b
  | [], _ => rfl
  | _ :: a, b => by simp [enc2, enc2_append a b]
theorem enc2_fst : ∀ (l : List R) (i : Nat) (r : R), l[i]? = some r → (enc2 l)[i * 2]? = some (.string r.1)
  | [], _, _, h => by simp at h
  | a :: l, 0, m, h => by simp at h; subst h; rfl
  | a :: l, i + 1, m, h => by
    simp at h
    rw [show (i + 1) * 2 = i * 2 + 1 + 1 from by omega]; simpa [enc2] using enc2_fst l i m h
theorem enc2_snd : ∀ (l : List R) (i : Nat) (r : R), l[i]? = some r → (enc2 l)[i * 2 + 1]? = some (.string r.2)
  | [], _, _, h => by simp at h
  | a :: l, 0, m, h => by simp at h; subst h; rfl
  | a :: l, i + 1, m, h => by
    simp at h
    rw [show (i + 1) * 2 + 1 = i * 2 + 1 + 1 + 1 from by omega]; simpa [enc2] using enc2_snd l i m h

/-- z empty rows. -/
def zer2 : Nat → List Value
  | 0 => []
  | z + 1 => .string ⟨#[]⟩ :: .string ⟨#[]⟩ :: zer2 z
theorem zer2_length : ∀ z, (zer2 z).length = z * 2
  | 0 => rfl
  | z + 1 => by simp [zer2, zer2_length z]; omega
theorem zer2_get : ∀ (k i : Nat), (zer2 k)[i]? = if i < k * 2 then some (.string ⟨#[]⟩) else none
  | 0, i => by simp [zer2]
  | k + 1, 0 => by simp [zer2]
  | k + 1, 1 => by simp [zer2]; omega
  | k + 1, i + 2 => by
    rw [show (zer2 (k + 1))[i + 2]? = (zer2 k)[i]? from by simp [zer2], zer2_get k i]
    by_cases h : i < k * 2
    · rw [if_pos h, if_pos (by omega : i + 2 < (k + 1) * 2)]
    · rw [if_neg h, if_neg (by omega)]
theorem fill2 {l : List R} {z : Nat} {r : R} : ((enc2 l ++ zer2 (z + 1)).set (l.length * 2) (.string r.1)).set (l.length * 2 + 1) (.string r.2) = enc2 (l ++ [r]) ++ zer2 z := by
  have h : l.length * 2 = (enc2 l).length := (enc2_length l).symm
  rw [h, enc2_append]
  simp [zer2, enc2]

/-- Block B is just these cells. -/
def Has (w : World) (B : Nat) (e : TypeId) (cs : List Value) : Prop := w.heap[B]? = some (.cells cs.toArray e)
theorem lt_of_block {w : World} {B : Nat} {o : Obj} (h : w.heap[B]? = some o) : B < w.heap.size := by
  rcases Nat.lt_or_ge B w.heap.size with h2 | h2
  · exact h2
  · rw [Array.getElem?_eq_none h2] at h; cases h
section
variable {w : World} {B : Nat} {e : TypeId} {cs : List Value}
theorem Has.cell (h : Has w B e cs) {o : Nat} {u : Value} (hu : cs[o]? = some u) : w.cell? ⟨B, o, none⟩ = some u := by simp [World.cell?, show w.heap[B]? = _ from h, hu]
theorem Has.thawed (h : Has w B e cs) (o : Nat) : w.frozen? ⟨B, o, none⟩ = false := by simp [World.frozen?, show w.heap[B]? = _ from h]
theorem Has.lt (h : Has w B e cs) : B < w.heap.size := lt_of_block h
theorem Has.alloc (h : Has w B e cs) (o : Obj) : Has (w.alloc o) B e cs := by unfold Has; rw [Below.heap_alloc _ _ _ h.lt]; exact h
theorem Has.set (h : Has w B e cs) (o : Nat) (u : Value) : Has (w.setCell ⟨B, o, none⟩ u) B e (cs.set o u) := by
  have h' : w.heap[B]? = _ := h
  simp only [Has, World.setCell, Array.getElem?_modify]
  simp [h']
theorem Has.set_other (h : Has w B e cs) {p : Addr} (hp : p.block ≠ B) (u : Value) : Has (w.setCell p u) B e cs := by
  unfold Has; rw [Below.heap_setCell _ _ _ _ (Ne.symm hp)]; exact h
end
theorem Has.fresh (w : World) (e : TypeId) (cs : List Value) : Has (w.alloc (.cells cs.toArray e)) w.heap.size e cs := by
  show (w.heap.push _)[w.heap.size]? = _
  exact Array.getElem?_push_size

/-- Block B holds these rows now (room for n); every other block that was there is as it was. -/
structure Grew (B : Nat) (cs : List Value) (w w' : World) : Prop where
  os : w'.os = w.os
  tape : w'.tape = w.tape
  output : w'.output = w.output
  size : w.heap.size ≤ w'.heap.size
  block : ∀ k, k < w.heap.size → k ≠ B → w'.heap[k]? = w.heap[k]?
  here : Has w' B 31 cs
theorem Grew.drew {B : Nat} {c : List Value} {x y : World} (h : Grew B c x y) : Grew B c x y.drew := ⟨h.os, h.tape, h.output, h.size, h.block, h.here⟩
theorem Grew.lt {B : Nat} {c : List Value} {x y : World} (h : Grew B c x y) : B < y.heap.size := lt_of_block h.here
theorem Grew.alloc {B : Nat} {c : List Value} {x y : World} (h : Grew B c x y) (o : Obj) : Grew B c x (y.alloc o) :=
  ⟨h.os, h.tape, h.output, by have := h.size; simp; omega, fun k hk hb => by rw [Below.heap_alloc _ _ _ (Nat.lt_of_lt_of_le hk h.size)]; exact h.block k hk hb, h.here.alloc o⟩
theorem Grew.set {B : Nat} {c : List Value} {x y : World} (h : Grew B c x y) (o : Nat) (u : Value) : Grew B (c.set o u) x (y.setCell ⟨B, o, none⟩ u) :=
  ⟨h.os, h.tape, h.output, by have := h.size; simp [World.setCell]; omega, fun k hk hb => by rw [Below.heap_setCell _ _ _ _ hb]; exact h.block k hk hb, h.here.set o u⟩
theorem Grew.fill {B : Nat} {l : List R} {z i : Nat} {r : R} {x y : World} (h : Grew B (enc2 l ++ zer2 (z + 1)) x y) (hl : l.length = i) :
    Grew B (enc2 (l ++ [r]) ++ zer2 z) x ((y.setCell ⟨B, i * 2, none⟩ (.string r.1)).setCell ⟨B, i * 2 + 1, none⟩ (.string r.2)) := by
  subst hl
  rw [← fill2]
  exact (h.set _ _).set _ _
theorem Grew.below {B : Nat} {c : List Value} {x y : World} (h : Grew B c x y) (hB : B < x.heap.size) : Below B x y :=
  ⟨h.os, h.tape, h.output, h.size, fun k hk => h.block k (by omega) (by omega)⟩
theorem Grew.has {B B' : Nat} {e' : TypeId} {cs cs' : List Value} {w w' : World} (h : Grew B cs w w') (h' : Has w B' e' cs') (hne : B' ≠ B) : Has w' B' e' cs' :=
  (h.block B' h'.lt hne).trans h'
theorem Grew.start (w : World) (z : Nat) : Grew w.heap.size (enc2 [] ++ zer2 z) (w.alloc (.cells (zer2 z).toArray 31)) (w.alloc (.cells (zer2 z).toArray 31)) :=
  ⟨rfl, rfl, rfl, Nat.le_refl _, fun _ _ _ => rfl, Has.fresh _ _ _⟩
theorem fill_fst {l : List R} {z i : Nat} (hl : l.length = i) (hz : 0 < z) : (enc2 l ++ zer2 z)[i * 2]? = some (.string ⟨#[]⟩) := by
  subst hl
  rw [List.getElem?_append_right (by rw [enc2_length]; omega), zer2_get, enc2_length, if_pos (by omega)]
theorem fill_snd {l : List R} {z i : Nat} (hl : l.length = i) (hz : 0 < z) : (enc2 l ++ zer2 z)[i * 2 + 1]? = some (.string ⟨#[]⟩) := by
  subst hl
  rw [List.getElem?_append_right (by rw [enc2_length]; omega), zer2_get, enc2_length, if_pos (by omega)]
theorem has_below {B B' : Nat} {e' : TypeId} {cs' : List Value} {w w' : World} (h : Below B w w') (h' : Has w B' e' cs') (hlt : B' < B) : Has w' B' e' cs' :=
  (h.block B' hlt).trans h'

theorem info31 : (Try.prog.info? 31).map (fun i => (i.zero, i.size, i.bytes)) = some (some (.agg #[.string ⟨#[]⟩, .string ⟨#[]⟩]), 2, 32) := by kernel_rfl
theorem made_two (k : Nat) : madeCells #[.string ⟨#[]⟩, .string ⟨#[]⟩] (k * 2) = (zer2 k).toArray := by
  apply Array.toList_inj.1
  apply List.ext_getElem?
  intro i
  rw [zer2_get]
  by_cases h : i < k * 2
  · rw [if_pos h]
    have h2 : i % 2 = 0 ∨ i % 2 = 1 := by omega
    rcases h2 with h2 | h2 <;> simp [madeCells, h, h2]
  · rw [if_neg h]
    simp [madeCells]; omega
/-- 'make(store.RegisteredURIs, 0, n)'. -/
theorem run_make_rows (w : World) (n : Nat) (hn : n ≤ 1099511627776) :
    (Instr.makeSlice 26 (.int .i64 0) (.int .i64 n)).run Try.prog w = .ok (.slice (some ⟨w.heap.size, 0, none⟩) 0 n) (w.alloc (.cells (zer2 n).toArray 31)) := by
  obtain ⟨i, hi, hz, hs, hb⟩ := info_parts info31
  have h := run_make (P := Try.prog) w 26 31 i _ Try.underlying26 hi hz .i64 .i64 0 n (by omega) (by omega) (by rw [hb]; omega) (by omega)
  rw [hs] at h
  simp only [Int.toNat_natCast, Int.toNat_zero] at h
  rw [h, ← made_two]
  rfl

/-- What the walk is told of a slice of rows (of the law's type or of the store's). -/
structure IsRows (w : World) (a : Option Addr) (n : Nat) (rs : List R) : Prop where
  len : rs.length = n
  max : n ≤ maxLen
  cell : ∀ k x, rs[k]? = some x → ∃ b off, a = some ⟨b, off, none⟩ ∧ b < w.heap.size ∧ w.cell? ⟨b, off + k * 2, none⟩ = some (.string x.1) ∧ w.cell? ⟨b, off + k * 2 + 1, none⟩ = some (.string x.2)
theorem IsRows.below {w w' : World} {a : Option Addr} {n : Nat} {rs : List R} (h : IsRows w a n rs) (hb : Below w.heap.size w w') : IsRows w' a n rs :=
  ⟨h.len, h.max, fun k x hk => by
    obtain ⟨b, off, h1, h2, h3, h4⟩ := h.cell k x hk
    exact ⟨b, off, h1, Nat.lt_of_lt_of_le h2 hb.size, by rw [hb.cell (p := ⟨b, off + k * 2, none⟩) h2]; exact h3, by rw [hb.cell (p := ⟨b, off + k * 2 + 1, none⟩) h2]; exact h4⟩⟩
/-- A part of a block of rows. -/
theorem Has.rows {w : World} {B n i : Nat} {A rs : List R} {rest : List Value} (h : Has w B 31 (enc2 (A ++ rs) ++ rest)) (hA : A.length * 2 = i) (hn : rs.length = n) (hm : n ≤ maxLen) : IsRows w (some ⟨B, i, none⟩) n rs :=
  ⟨hn, hm, fun k x hk => by
    have hkl := (List.getElem?_eq_some_iff.1 hk).1
    have hk' : (A ++ rs)[A.length + k]? = some x := by rw [List.getElem?_append_right (by omega), show A.length + k - A.length = k from by omega]; exact hk
    have hl : (A.length + k) * 2 + 1 < (enc2 (A ++ rs)).length := by rw [enc2_length, List.length_append]; omega
    refine ⟨B, i, rfl, h.lt, h.cell ?_, h.cell ?_⟩
    · rw [← hA, show A.length * 2 + k * 2 = (A.length + k) * 2 from by omega, List.getElem?_append_left (by omega)]; exact enc2_fst _ _ _ hk'
    · rw [← hA, show A.length * 2 + k * 2 + 1 = (A.length + k) * 2 + 1 from by omega, List.getElem?_append_left hl]; exact enc2_snd _ _ _ hk'⟩
theorem rows_none (w : World) (a : Option Addr) : IsRows w a 0 [] := ⟨rfl, Nat.zero_le _, fun k x hk => by simp at hk⟩
end Go.Proofs.Qxb6614171a
