/-
  PLAIN LAWS of seat b6614095a: rows that are sorted block by block.
-/
import Derived.Test.Qxb6614095aPlainC
namespace Go.Proofs.Qxb6614095a

/-- Each block of bs members is sorted. -/
def BS (bs : Nat) (l : List M) : Prop := ∀ t, Srt ((l.drop (t * bs)).take bs)

theorem bs_nil (bs : Nat) : BS bs [] := fun t => by simpa using srt_nil
theorem bs_append {bs t : Nat} {D Z : List M} (hD : D.length = t * bs) (h : BS bs D) (hZ : Srt Z) : BS bs (D ++ Z) := by
  intro s
  rcases Nat.lt_or_ge s t with hs | hs
  · have h1 : (s + 1) * bs ≤ t * bs := Nat.mul_le_mul_right _ hs
    have h2 : s * bs + bs ≤ D.length := by rw [hD]; rw [Nat.succ_mul] at h1; exact h1
    rw [List.drop_append_of_le_length (by omega), List.take_append_of_le_length (by simp; omega)]
    exact h s
  · have h1 : t * bs ≤ s * bs := Nat.mul_le_mul_right _ hs
    rw [List.drop_append, List.drop_eq_nil_of_le (by omega), List.nil_append]
    exact (hZ.drop _).take _
theorem bs_drop {bs : Nat} {R : List M} (h : BS bs R) : BS bs (R.drop bs) := by
  intro t
  have := h (t + 1)
  rw [List.drop_drop, show bs + t * bs = (t + 1) * bs from by rw [Nat.succ_mul]; omega]
  exact this
theorem bs_first {bs : Nat} {R : List M} (h : BS bs R) : Srt (R.take bs) := by simpa using h 0
theorem bs_whole {bs : Nat} {R : List M} (h : BS bs R) (hl : R.length ≤ bs) : Srt R := by
  have := bs_first h
  rwa [List.take_of_length_le hl] at this
end Go.Proofs.Qxb6614095a
