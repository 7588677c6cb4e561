/-
  PLAIN LAWS of seat b6614095a: a member put into a sorted table.
-/
import Derived.Test.Qxb6614095aPlainE
namespace Go.Proofs.Qxb6614095a

theorem asc_append {a b : List M} : Asc (a ++ b) ↔ Asc a ∧ Asc b ∧ ∀ x ∈ a, ∀ y ∈ b, lt x y = true := List.pairwise_append

/-- The key is there: its value is replaced. -/
theorem norm_replace {l A C : List M} {m x : M} (h : Norm l (A ++ m :: C)) (hk : m.1 = x.1) : Norm (l ++ [x]) (A ++ x :: C) := by
  obtain ⟨h1, h2⟩ := h
  obtain ⟨a1, a2, a3⟩ := asc_append.1 h1
  obtain ⟨c1, c2⟩ := List.pairwise_cons.1 a2
  constructor
  · refine asc_append.2 ⟨a1, List.pairwise_cons.2 ⟨fun y hy => ?_, c2⟩, fun y hy z hz => ?_⟩
    · have := c1 y hy
      unfold lt at this ⊢; rw [← hk]; exact this
    · rcases List.mem_cons.1 hz with rfl | hz
      · have := a3 y hy m List.mem_cons_self
        unfold lt at this ⊢; rw [← hk]; exact this
      · exact a3 y hy z (List.mem_cons_of_mem _ hz)
  · intro k
    have e := h2 k
    rw [val_append, val_cons] at e ⊢
    rw [val_append l, val_one]
    by_cases hx : x.1 = k
    · have hC : val C k = none := val_none fun y hy e => by
        have := c1 y hy
        rw [lt, e, hk, hx, klt_irrefl] at this; cases this
      simp [hC, hx]
    · rw [hk, if_neg hx] at e
      simpa [hx] using e

/-- The key is new: it is put between the lesser and the greater ones. -/
theorem norm_insert {l A C : List M} {x : M} (h : Norm l (A ++ C)) (hA : ∀ m ∈ A, lt m x = true) (hC : ∀ m ∈ C, lt x m = true) : Norm (l ++ [x]) (A ++ x :: C) := by
  obtain ⟨h1, h2⟩ := h
  obtain ⟨a1, a2, a3⟩ := asc_append.1 h1
  constructor
  · refine asc_append.2 ⟨a1, List.pairwise_cons.2 ⟨hC, a2⟩, fun y hy z hz => ?_⟩
    rcases List.mem_cons.1 hz with rfl | hz
    · exact hA y hy
    · exact a3 y hy z hz
  · intro k
    have e := h2 k
    rw [val_append] at e
    rw [val_append, val_cons, val_append l, val_one, ← e]
    by_cases hx : x.1 = k
    · have hC' : val C k = none := val_none fun y hy e => by
        have := hC y hy
        rw [lt, e, hx, klt_irrefl] at this; cases this
      simp [hC', hx]
    · simp [hx]

/-- Behind the first that is not less all are greater. -/
theorem asc_rest {C : List M} {m x : M} (h : Asc (m :: C)) (hm : lt m x = false) (hne : m.1 ≠ x.1) : ∀ y ∈ m :: C, lt x y = true := by
  have hxm : lt x m = true := by
    cases hc : lt x m with
    | true => rfl
    | false => exact absurd (klt_total hm hc) hne
  intro y hy
  rcases List.mem_cons.1 hy with rfl | hy
  · exact hxm
  · exact klt_trans hxm ((List.pairwise_cons.1 h).1 y hy)
end Go.Proofs.Qxb6614095a
