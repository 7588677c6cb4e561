/-
  PLAIN LAWS of seat b6614095a, continued.
-/
import Derived.Test.Qxb6614095aPlain
namespace Go.Proofs.Qxb6614095a

/-- In a sorted row an earlier member is not greater. -/
theorem Srt.get {l : List M} (h : Srt l) {s t : Nat} {x y : M} (hst : s ≤ t) (hx : l[s]? = some x) (hy : l[t]? = some y) : lt y x = false := by
  rcases Nat.lt_or_ge s t with h1 | h1
  · obtain ⟨hs, rfl⟩ := List.getElem?_eq_some_iff.1 hx
    obtain ⟨ht, rfl⟩ := List.getElem?_eq_some_iff.1 hy
    exact List.pairwise_iff_getElem.1 h s t hs ht h1
  · have : s = t := by omega
    subst this
    rw [hx] at hy; cases hy; exact klt_irrefl _

theorem mem_take_get {α : Type} {l : List α} {i : Nat} {y : α} (h : y ∈ l.take i) : ∃ t, t < i ∧ l[t]? = some y := by
  obtain ⟨t, ht⟩ := List.mem_iff_getElem?.1 h
  rw [List.getElem?_take] at ht
  split at ht
  · exact ⟨t, by assumption, ht⟩
  · cases ht
theorem mem_drop_get {α : Type} {l : List α} {i : Nat} {y : α} (h : y ∈ l.drop i) : ∃ t, i ≤ t ∧ l[t]? = some y := by
  obtain ⟨t, ht⟩ := List.mem_iff_getElem?.1 h
  rw [List.getElem?_drop] at ht
  exact ⟨i + t, by omega, ht⟩

/-- One member ahead of a sorted row, put to its place. -/
theorem one_left {x : M} {Y1 Y2 : List M} (hs : Srt (Y1 ++ Y2)) (h1 : ∀ y ∈ Y1, lt y x = true) (h2 : ∀ y ∈ Y2, lt y x = false) :
    Srt (Y1 ++ x :: Y2) ∧ Same (x :: (Y1 ++ Y2)) (Y1 ++ x :: Y2) := by
  obtain ⟨s1, s2, s3⟩ := srt_append.1 hs
  constructor
  · refine srt_append.2 ⟨s1, List.pairwise_cons.2 ⟨h2, s2⟩, ?_⟩
    intro y hy z hz
    rcases List.mem_cons.1 hz with rfl | hz
    · exact klt_asymm (h1 y hy)
    · exact s3 y hy z hz
  · have := Same.append (Same.exchange (a := [x]) (b := Y1) (by intro z hz y hy; simp at hz; subst hz; exact h1 y hy)) (Same.refl Y2)
    simpa using this

/-- One member behind a sorted row, put to its place. -/
theorem one_right {y : M} {X1 X2 : List M} (hs : Srt (X1 ++ X2)) (h1 : ∀ x ∈ X1, lt y x = false) (h2 : ∀ x ∈ X2, lt y x = true) :
    Srt (X1 ++ y :: X2) ∧ Same ((X1 ++ X2) ++ [y]) (X1 ++ y :: X2) := by
  obtain ⟨s1, s2, s3⟩ := srt_append.1 hs
  constructor
  · refine srt_append.2 ⟨s1, List.pairwise_cons.2 ⟨fun z hz => klt_asymm (h2 z hz), s2⟩, ?_⟩
    intro x hx z hz
    rcases List.mem_cons.1 hz with rfl | hz
    · exact h1 x hx
    · exact s3 x hx z hz
  · have := Same.append (Same.refl X1) (Same.exchange (a := X2) (b := [y]) (by intro z hz x hx; simp at hx; subst hx; exact h2 z hz))
    simpa using this


end Go.Proofs.Qxb6614095a
