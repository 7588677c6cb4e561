/-
  THE WORLD's SIDE of seat b6614095a: a block that holds members, two cells each.
-/
import Derived.Test.Qxb6614095aPlain
import Derived.Test.Qxb6614095aRows
import Derived.WalkKit
import Derived.WalkSpells
import Derived.WalkLawsBesides
namespace Go.Proofs.Qxb6614095a
open Go.RowKit

def enc : List M → List Value
  | [] => []
  | m :: l => .string m.1 :: .iface 2 (.int .i64 m.2) :: enc l

theorem enc_length : ∀ l : List M, (enc l).length = l.length * 2
  | [] => rfl
  | _ :: l => by simp [enc, enc_length l]; omega
theorem enc_append : ∀ a b : List M, enc (a ++ b) = enc a ++ enc b
  | [], _ => rfl
  | _ :: a, b => by simp [enc, enc_append a b]
theorem enc_key : ∀ (l : List M) (i : Nat) (m : M), l[i]? = some m → (enc l)[i * 2]? = some (.string m.1)
  | [], _, _, h => by simp at h
  | a :: l, 0, m, h => by simp at h; subst h; rfl
  | a :: l, i + 1, m, h => by
    simp at h
    have e : (i + 1) * 2 = i * 2 + 1 + 1 := by omega
    rw [e]; simpa [enc] using enc_key l i m h
theorem enc_val : ∀ (l : List M) (i : Nat) (m : M), l[i]? = some m → (enc l)[i * 2 + 1]? = some (.iface 2 (.int .i64 m.2))
  | [], _, _, h => by simp at h
  | a :: l, 0, m, h => by simp at h; subst h; rfl
  | a :: l, i + 1, m, h => by
    simp at h
    have e : (i + 1) * 2 + 1 = i * 2 + 1 + 1 + 1 := by omega
    rw [e]; simpa [enc] using enc_val l i m h
theorem enc_set : ∀ (l : List M) (i : Nat) (m : M), enc (l.set i m) = ((enc l).set (i * 2) (.string m.1)).set (i * 2 + 1) (.iface 2 (.int .i64 m.2))
  | [], _, _ => rfl
  | a :: l, 0, m => rfl
  | a :: l, i + 1, m => by
    have e : (i + 1) * 2 = i * 2 + 1 + 1 := by omega
    rw [e]; simp [enc, enc_set l i m]

/-- Block B is the row of these members, and nothing else. -/
def Holds (w : World) (B : Nat) (ms : List M) : Prop := w.heap[B]? = some (.cells (enc ms).toArray 31)

theorem Holds.key {w : World} {B : Nat} {ms : List M} (h : Holds w B ms) {i : Nat} {m : M} (hi : ms[i]? = some m) : w.cell? ⟨B, i * 2, none⟩ = some (.string m.1) := by
  simp [World.cell?, show w.heap[B]? = _ from h, enc_key ms i m hi]
theorem Holds.val {w : World} {B : Nat} {ms : List M} (h : Holds w B ms) {i : Nat} {m : M} (hi : ms[i]? = some m) : w.cell? ⟨B, i * 2 + 1, none⟩ = some (.iface 2 (.int .i64 m.2)) := by
  simp [World.cell?, show w.heap[B]? = _ from h, enc_val ms i m hi]
theorem Holds.thawed {w : World} {B : Nat} {ms : List M} (h : Holds w B ms) (o : Nat) : w.frozen? ⟨B, o, none⟩ = false := by
  simp [World.frozen?, show w.heap[B]? = _ from h]

/-- Block B holds ms' now; all else is as it was (but for the tape's place). -/
structure Moved (B : Nat) (ms' : List M) (w w' : World) : Prop where
  os : w'.os = w.os
  tape : w'.tape = w.tape
  output : w'.output = w.output
  size : w'.heap.size = w.heap.size
  block : ∀ k, k ≠ B → w'.heap[k]? = w.heap[k]?
  here : Holds w' B ms'

theorem Moved.refl {B : Nat} {ms : List M} {w : World} (h : Holds w B ms) : Moved B ms w w := ⟨rfl, rfl, rfl, rfl, fun _ _ => rfl, h⟩
theorem Moved.trans {B : Nat} {ms ms' : List M} {a b c : World} (h : Moved B ms a b) (k : Moved B ms' b c) : Moved B ms' a c :=
  ⟨k.os.trans h.os, k.tape.trans h.tape, k.output.trans h.output, k.size.trans h.size, fun i hi => (k.block i hi).trans (h.block i hi), k.here⟩
theorem Moved.drewN {B : Nat} {ms : List M} {a b : World} (h : Moved B ms a b) (n : Nat) : Moved B ms a (b.drewN n) :=
  ⟨h.os, h.tape, h.output, h.size, h.block, h.here⟩

theorem Holds.put {w : World} {B : Nat} {ms : List M} (h : Holds w B ms) (i : Nat) (m : M) :
    Moved B (ms.set i m) w ((w.setCell ⟨B, i * 2, none⟩ (.string m.1)).setCell ⟨B, i * 2 + 1, none⟩ (.iface 2 (.int .i64 m.2))) := by
  have hB : B < w.heap.size := by
    have h' : w.heap[B]? = _ := h
    rcases Nat.lt_or_ge B w.heap.size with h2 | h2
    · exact h2
    · rw [Array.getElem?_eq_none h2] at h'; cases h'
  refine ⟨rfl, rfl, rfl, by simp [World.setCell], fun k hk => ?_, ?_⟩
  · rw [Below.heap_setCell _ _ _ _ hk, Below.heap_setCell _ _ _ _ hk]
  · have h' : w.heap[B]? = _ := h
    simp only [Holds, World.setCell, Array.getElem?_modify]
    simp [h', enc_set]

theorem set_set_moved {w : World} {B : Nat} {ms : List M} (h : Holds w B ms) (i j : Nat) (m m' : M) :
    Moved B ((ms.set i m).set j m') w ((((w.setCell ⟨B, i * 2, none⟩ (.string m.1)).setCell ⟨B, i * 2 + 1, none⟩ (.iface 2 (.int .i64 m.2))).setCell ⟨B, j * 2, none⟩ (.string m'.1)).setCell ⟨B, j * 2 + 1, none⟩ (.iface 2 (.int .i64 m'.2))).drew :=
  ((h.put i m).trans ((h.put i m).here.put j m')).drewN 1
end Go.Proofs.Qxb6614095a
