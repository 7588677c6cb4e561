/-
  THE WORLD's SIDE of seat b6614095a, continued: a block whose content is told cell by cell while other blocks are laid; 'clear' on members.
-/
import Derived.Test.Qxb6614095aWorld
import Derived.Laws.IdiomCopy
namespace Go.Proofs.Qxb6614095a
open Go.RowKit

/-- z cleared members. -/
def zers : Nat → List Value
  | 0 => []
  | z + 1 => .string ⟨#[]⟩ :: .nilIface :: zers z
theorem zers_length : ∀ z, (zers z).length = z * 2
  | 0 => rfl
  | z + 1 => by simp [zers, zers_length z]; omega

/-- Block B holds these cells now; every other block that was there is as it was. -/
structure Grew (B : Nat) (cs : List Value) (w w' : World) : Prop where
  os : w'.os = w.os
  tape : w'.tape = w.tape
  output : w'.output = w.output
  size : w.heap.size ≤ w'.heap.size
  block : ∀ k, k < w.heap.size → k ≠ B → w'.heap[k]? = w.heap[k]?
  here : w'.heap[B]? = some (.cells cs.toArray 31)

theorem lt_of_block {w : World} {B : Nat} {o : Obj} (h : w.heap[B]? = some o) : B < w.heap.size := by
  rcases Nat.lt_or_ge B w.heap.size with h2 | h2
  · exact h2
  · rw [Array.getElem?_eq_none h2] at h; cases h

theorem Moved.grew {B : Nat} {ms : List M} {w w' : World} (h : Moved B ms w w') : Grew B (enc ms) w w' :=
  ⟨h.os, h.tape, h.output, by rw [h.size]; exact Nat.le_refl _, fun k _ hk => h.block k hk, h.here⟩
theorem Grew.trans {B : Nat} {c d : List Value} {x y z : World} (h : Grew B c x y) (k : Grew B d y z) : Grew B d x z :=
  ⟨k.os.trans h.os, k.tape.trans h.tape, k.output.trans h.output, Nat.le_trans h.size k.size, fun i hi hb => (k.block i (Nat.lt_of_lt_of_le hi h.size) hb).trans (h.block i hi hb), k.here⟩
theorem Grew.drewN {B : Nat} {c : List Value} {x y : World} (h : Grew B c x y) (n : Nat) : Grew B c x (y.drewN n) := ⟨h.os, h.tape, h.output, h.size, h.block, h.here⟩
theorem Grew.drew {B : Nat} {c : List Value} {x y : World} (h : Grew B c x y) : Grew B c x y.drew := ⟨h.os, h.tape, h.output, h.size, h.block, h.here⟩
theorem Grew.lt {B : Nat} {c : List Value} {x y : World} (h : Grew B c x y) : B < y.heap.size := lt_of_block h.here
theorem Grew.alloc {B : Nat} {c : List Value} {x y : World} (h : Grew B c x y) (o : Obj) : Grew B c x (y.alloc o) :=
  ⟨h.os, h.tape, h.output, by have := h.size; simp; omega, fun k hk hb => by rw [Below.heap_alloc _ _ _ (Nat.lt_of_lt_of_le hk h.size)]; exact h.block k hk hb, by rw [Below.heap_alloc _ _ _ h.lt]; exact h.here⟩
/-- A store into a block that was not there. -/
theorem Grew.setNew {B : Nat} {c : List Value} {x y : World} (h : Grew B c x y) {p : Addr} (hp : x.heap.size ≤ p.block) (hB : p.block ≠ B) (u : Value) : Grew B c x (y.setCell p u) :=
  ⟨h.os, h.tape, h.output, by have := h.size; simp [World.setCell]; omega, fun k hk hb => by rw [Below.heap_setCell _ _ _ _ (by omega)]; exact h.block k hk hb, by rw [Below.heap_setCell _ _ _ _ (Ne.symm hB)]; exact h.here⟩
theorem Grew.below {B : Nat} {c : List Value} {x y : World} (h : Grew B c x y) (hB : B < x.heap.size) : Below B x y :=
  ⟨h.os, h.tape, h.output, h.size, fun k hk => h.block k (by omega) (by omega)⟩

/-- One store into block B. -/
theorem Grew.set {B : Nat} {c : List Value} {x y : World} (h : Grew B c x y) (o : Nat) (u : Value) : Grew B (c.set o u) x (y.setCell ⟨B, o, none⟩ u) := by
  refine ⟨h.os, h.tape, h.output, by have := h.size; simp [World.setCell]; omega, fun k hk hb => by rw [Below.heap_setCell _ _ _ _ hb]; exact h.block k hk hb, ?_⟩
  have h' := h.here
  simp only [World.setCell, Array.getElem?_modify]
  simp [h']
theorem Grew.put {B : Nat} {c : List Value} {x y : World} (h : Grew B c x y) (o : Nat) (u v : Value) : Grew B ((c.set o u).set (o + 1) v) x ((y.setCell ⟨B, o, none⟩ u).setCell ⟨B, o + 1, none⟩ v) := (h.set o u).set (o + 1) v

theorem Grew.cell {B : Nat} {c : List Value} {x y : World} (h : Grew B c x y) {o : Nat} {u : Value} (hu : c[o]? = some u) : y.cell? ⟨B, o, none⟩ = some u := by
  simp [World.cell?, h.here, hu]
theorem Grew.thawed {B : Nat} {c : List Value} {x y : World} (h : Grew B c x y) (o : Nat) : y.frozen? ⟨B, o, none⟩ = false := by
  simp [World.frozen?, h.here]

theorem Grew.setAll {B : Nat} : ∀ (vs : List Value) (c : List Value) (x y : World) (o : Nat), Grew B c x y → o + vs.length = c.length → Grew B (c.take o ++ vs) x (y.setCells B o vs)
  | [], c, x, y, o, h, hl => by
    have : c.take o = c := List.take_of_length_le (by simp at hl; omega)
    simpa [World.setCells, this] using h
  | v :: vs, c, x, y, o, h, hl => by
    have := Grew.setAll vs (c.set o v) x (y.setCell ⟨B, o, none⟩ v) (o + 1) (h.set o v) (by simp at hl ⊢; omega)
    have e : (c.set o v).take (o + 1) ++ vs = c.take o ++ v :: vs := by
      have ho : o < c.length := by simp at hl; omega
      rw [List.take_succ_eq_append_getElem (by simpa using ho)]
      simp [List.take_set_of_le]
    rw [e] at this
    exact this

theorem zero31 (w : World) : (zeroValue 31).run Try.prog w = .ok (.agg #[.string ⟨#[]⟩, .nilIface]) w := by kernel_rfl

theorem zers_get : ∀ (k i : Nat), (zers k)[i]? = if i < k * 2 then some (if i % 2 = 0 then .string ⟨#[]⟩ else .nilIface) else none
  | 0, i => by simp [zers]
  | k + 1, 0 => by simp [zers]
  | k + 1, 1 => by simp [zers]; omega
  | k + 1, i + 2 => by
    rw [show (zers (k + 1))[i + 2]? = (zers k)[i]? from by simp [zers], zers_get k i]
    by_cases h : i < k * 2
    · rw [if_pos h, show (i + 2) % 2 = i % 2 from by omega, if_pos (by omega : i + 2 < (k + 1) * 2)]
    · rw [if_neg h, if_neg (by omega)]

theorem zeroCells_two (k : Nat) : (Builtin.zeroCells #[.string ⟨#[]⟩, .nilIface] k).toList = zers k := by
  apply List.ext_getElem?
  intro i
  rw [zers_get]
  by_cases h : i < k * 2
  · rw [if_pos h]
    have h2 : i % 2 = 0 ∨ i % 2 = 1 := by omega
    rcases h2 with h2 | h2 <;> simp [Builtin.zeroCells, h, h2]
  · rw [if_neg h]
    simp [Builtin.zeroCells]; omega

theorem zers_one : ∀ k, ∀ v ∈ zers k, v.oneCell' = true
  | 0, v, h => by cases h
  | k + 1, v, h => by
    rcases List.mem_cons.1 h with rfl | h
    · rfl
    · rcases List.mem_cons.1 h with rfl | h
      · rfl
      · exact zers_one k v h

/-- 'clear' on a row of members. -/
theorem run_clear (w : World) (ty : TypeId) (B o k c : Nat) (hk : 0 < k) (hc : ∀ j, j < k * 2 → (w.cell? ⟨B, o + j, none⟩).isSome = true) (hf : ∀ j, w.frozen? ⟨B, j, none⟩ = false) :
    (Builtin.clear_ #[26] ty #[.slice (some ⟨B, o, none⟩) k c]).run Try.prog w = .ok (.tuple #[]) (w.setCells B o (zers k)) := by
  have hst := run_storeCells_cells (P := Try.prog) B o (zers k) 0 w (by rw [zers_length]; simpa using hc) (fun j _ => hf _) (zers_one k)
  simp only [Nat.add_zero] at hst
  obtain ⟨m, rfl⟩ : ∃ m, k = m + 1 := ⟨k - 1, by omega⟩
  have hz : (Value.agg #[.string ⟨#[]⟩, .nilIface]).cells = #[.string ⟨#[]⟩, .nilIface] := rfl
  simp [Builtin.clear_, run_underlying Try.underlying26]
  rw [hz, zeroCells_two, hst]
  rfl
theorem run_clear_none (w : World) (ty : TypeId) (a : Option Addr) (c : Nat) : (Builtin.clear_ #[26] ty #[.slice a 0 c]).run Try.prog w = .ok (.tuple #[]) w := by
  cases a <;> simp [Builtin.clear_, run_underlying Try.underlying26]
end Go.Proofs.Qxb6614095a
