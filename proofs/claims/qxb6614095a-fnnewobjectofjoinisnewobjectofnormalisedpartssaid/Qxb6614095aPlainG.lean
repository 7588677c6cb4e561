/-
  PLAIN LAWS of seat b6614095a: which keys a suffix of the list has settled; the table of two tables.
-/
import Derived.Test.Qxb6614095aPlainF
namespace Go.Proofs.Qxb6614095a

/-- Of each member of the table: does its key occur from place j on? -/
def fxOf (L r : List M) (j : Nat) : List Bool := r.map fun m => (val (L.drop j) m.1).isSome

theorem fxOf_length (L r : List M) (j : Nat) : (fxOf L r j).length = r.length := by simp [fxOf]
theorem fxOf_end (L r : List M) : fxOf L r L.length = List.replicate r.length false := by
  unfold fxOf
  rw [List.drop_length]
  simp [val_nil, List.map_const']
theorem fxOf_zero {L r : List M} (h : Norm L r) : fxOf L r 0 = List.replicate r.length true := by
  unfold fxOf
  rw [List.drop_zero]
  apply List.ext_getElem
  · simp
  · intro i h1 h2
    simp only [List.getElem_map, List.getElem_replicate]
    have hi : i < r.length := by simpa using h1
    rw [← h.2, h.1.val_mem (List.getElem_mem hi)]
    rfl

theorem cut_at {L : List M} {j : Nat} {x : M} (hx : L[j]? = some x) : L = L.take j ++ x :: L.drop (j + 1) := by
  obtain ⟨hj, rfl⟩ := List.getElem?_eq_some_iff.1 hx
  rw [← List.drop_eq_getElem_cons hj, List.take_append_drop]
theorem drop_at {L : List M} {j : Nat} {x : M} (hx : L[j]? = some x) : L.drop j = x :: L.drop (j + 1) := by
  obtain ⟨hj, rfl⟩ := List.getElem?_eq_some_iff.1 hx
  exact List.drop_eq_getElem_cons hj
theorem asc_inj {r : List M} (h : Asc r) {p q : Nat} {x y : M} (hp : r[p]? = some x) (hq : r[q]? = some y) (hk : x.1 = y.1) : p = q := by
  obtain ⟨hpl, rfl⟩ := List.getElem?_eq_some_iff.1 hp
  obtain ⟨hql, rfl⟩ := List.getElem?_eq_some_iff.1 hq
  rcases Nat.lt_trichotomy p q with h1 | h1 | h1
  · have := List.pairwise_iff_getElem.1 h p q hpl hql h1
    rw [lt, hk, klt_irrefl] at this; cases this
  · exact h1
  · have := List.pairwise_iff_getElem.1 h q p hql hpl h1
    rw [lt, hk, klt_irrefl] at this; cases this

theorem settle_step {L r : List M} {j : Nat} {x : M} (h : Norm L r) (hx : L[j]? = some x) :
    ∃ p m, r[p]? = some m ∧ m.1 = x.1 ∧ ((fxOf L r (j + 1))[p]? = some true ∨ m.2 = x.2) ∧ fxOf L r j = (fxOf L r (j + 1)).set p true := by
  obtain ⟨m, hm⟩ := val_of_mem (List.mem_of_getElem? hx)
  have hm' : val r x.1 = some m := by rw [h.2]; exact hm
  obtain ⟨hk, hmem⟩ := val_key hm'
  obtain ⟨p, hp⟩ := List.getElem?_of_mem hmem
  have hd := drop_at hx
  refine ⟨p, m, hp, hk, ?_, ?_⟩
  · cases hs : (val (L.drop (j + 1)) m.1).isSome with
    | true => left; simp [fxOf, hp, hs]
    | false =>
      right
      have hn : val (L.drop (j + 1)) x.1 = none := by rw [← hk]; simpa using hs
      have e := cut_at hx
      have e2 : val L x.1 = val (L.take j ++ x :: L.drop (j + 1)) x.1 := by rw [← e]
      rw [e2, val_append, val_cons, hn] at hm
      simp at hm
      rw [← hm]
  · apply List.ext_getElem?
    intro q
    rw [List.getElem?_set]
    by_cases hq : p = q
    · subst hq
      have hl := (List.getElem?_eq_some_iff.1 hp).1
      rw [if_pos rfl, if_pos (by rw [fxOf_length]; exact hl)]
      unfold fxOf
      rw [List.getElem?_map, hp, hd]
      simp only [Option.map_some, val_cons, hk, if_true]
      simp
    · rw [if_neg hq]
      unfold fxOf
      rw [List.getElem?_map, List.getElem?_map]
      cases hrq : r[q]? with
      | none => rfl
      | some y =>
        have hne : x.1 ≠ y.1 := fun e => hq (asc_inj h.1 hp hrq (hk.trans e))
        rw [hd]
        simp only [Option.map_some, val_cons, if_neg hne]
        simp

/-- The table of two tables is the table of the two lists. -/
theorem norm_join {A B ra rb rj rw' : List M} (ha : Norm A ra) (hb : Norm B rb) (hj : Norm (ra ++ rb) rj) (hw : Norm (A ++ B) rw') : rj = rw' :=
  norm_unique hj hw fun k => by rw [val_append, val_append, ha.2, hb.2]
end Go.Proofs.Qxb6614095a
