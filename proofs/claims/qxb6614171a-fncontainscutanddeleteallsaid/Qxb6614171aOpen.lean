/-
  Seat b6614171a: a slice of rows that came in, opened for the walks.
-/
import Derived.Test.Qxb6614171aWorld
import Derived.Deep.SlicePairs
import Derived.ProofKit
import Derived.OpenShut
import Derived.ShutString
import Derived.ChangeOld
import Derived.Below
namespace Go.Proofs.Qxb6614171a
open Go.ChangeShapes Go.WideShapes Go.ChangeAt Go.RowKit

theorem own : ownKnob Try.prog.godebug = none := by kernel_rfl
theorem laidOut : laidOutB Try.prog = true := by kernel_rfl

theorem lt_of_cell {w : World} {a : Addr} {v : Value} (h : w.cell? a = some v) : a.block < w.heap.size := by
  rcases Nat.lt_or_ge a.block w.heap.size with h' | h'
  · exact h'
  · simp [World.cell?, Array.getElem?_eq_none h'] at h

theorem rows_opened {H : Type} {enc : TypeId × Value → H} {W : World} {a : Option Addr} {len cap : Nat} {d : DataW H} {ps : List MemPlace}
    (h : DataW.Trod enc Try.prog W 0 (fun _ => true) true 22 (.slice a len cap) d ps) : ∃ rs, IsRows W a len rs := by
  obtain ⟨fuel, hf⟩ := h
  rcases Deep.open_slice_pairs Try.underlying22 Try.underlying29 (by kernel_rfl) rfl rfl (by kernel_rfl) (by kernel_rfl) hf with ⟨hcs, _⟩ | ⟨x, l, c, m, n, V0, V1, D0, D1, P0, P1, hcs, _, hl, hm, hmm, _, hcell⟩
  · simp [Value.cells] at hcs
    obtain ⟨rfl, rfl, rfl⟩ := hcs
    exact ⟨[], rows_none _ _⟩
  · simp [Value.cells] at hcs
    obtain ⟨rfl, rfl, rfl⟩ := hcs
    have hm' : m = cap := by simpa using hmm
    have hs : ∀ i, i < len → ∃ r : R, W.cell? (x.add (i * 2)) = some (.string r.1) ∧ W.cell? (x.add (i * 2 + 1)) = some (.string r.2) := by
      intro i hi
      obtain ⟨c0, c1, t0, t1⟩ := hcell i (by omega)
      obtain ⟨s0, e0, _, _⟩ := DataW.trod_string (P := Try.prog) Try.underlying9 t0
      obtain ⟨s1, e1, _, _⟩ := DataW.trod_string (P := Try.prog) Try.underlying9 t1
      simp at e0 e1
      exact ⟨(s0, s1), by rw [c0, e0], by rw [c1, e1]⟩
    obtain ⟨f, hfs⟩ := Deep.choose_lt hs
    refine ⟨(List.range len).map f, by simp, by omega, fun k y hk => ?_⟩
    have hkl : k < len := by have := (List.getElem?_eq_some_iff.1 hk).1; simpa using this
    have hy : y = f k := by simp [hkl] at hk; exact hk.symm
    subst hy
    obtain ⟨q0, q1⟩ := hfs k hkl
    obtain ⟨z0, _⟩ := hfs 0 (by omega)
    obtain ⟨b, off, spot⟩ := x
    have hspot : spot = none := by simpa [Addr.add] using World.cell?_spot z0
    subst hspot
    have e1 : ∀ j, (⟨b, off, none⟩ : Addr).add j = ⟨b, off + j, none⟩ := by intro j; unfold Addr.add; split <;> simp_all
    rw [e1] at q0 q1
    exact ⟨b, off, rfl, lt_of_cell q0, q0, by rw [Nat.add_assoc]; exact q1⟩
end Go.Proofs.Qxb6614171a
