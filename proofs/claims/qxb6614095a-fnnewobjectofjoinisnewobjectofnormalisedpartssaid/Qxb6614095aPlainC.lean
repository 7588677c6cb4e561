/-
  PLAIN LAWS of seat b6614095a: where symMerge cuts two sorted rows.
-/
import Derived.Test.Qxb6614095aPlainB
namespace Go.Proofs.Qxb6614095a

/-- The test of the search is monotone. -/
theorem sym_mono_low {X Y : List M} (hX : Srt X) (hY : Srt Y) {d c t : Nat} {x y x' y' : M} (hc : c < d) (htc : t ≤ c)
    (hx : X[c]? = some x) (hy : Y[d - 1 - c]? = some y) (h : lt y x = false) (hx' : X[t]? = some x') (hy' : Y[d - 1 - t]? = some y') : lt y' x' = false :=
  kle_trans (kle_trans (hX.get htc hx' hx) h) (hY.get (by omega) hy hy')
theorem sym_mono_high {X Y : List M} (hX : Srt X) (hY : Srt Y) {d c t : Nat} {x y x' y' : M} (ht : t < d) (htc : c ≤ t)
    (hx : X[c]? = some x) (hy : Y[d - 1 - c]? = some y) (h : lt y x = true) (hx' : X[t]? = some x') (hy' : Y[d - 1 - t]? = some y') : lt y' x' = true :=
  klt_of_lt_of_le (klt_of_le_of_lt (hY.get (by omega) hy' hy) h) (hX.get htc hx hx')

theorem sym_split {X Y : List M} (hX : Srt X) (hY : Srt Y) {d i i0 j0 : Nat} (h0 : i0 ≤ i) (h1 : i ≤ j0) (hjl : j0 ≤ X.length) (hjd : j0 ≤ d) (hj : j0 = X.length ∨ j0 = d) (hi0 : i0 = 0 ∨ i0 + Y.length = d) (hi0d : d ≤ i0 + Y.length)
    (low : ∀ t x y, i0 ≤ t → t < i → X[t]? = some x → Y[d - 1 - t]? = some y → lt y x = false)
    (high : ∀ t x y, i ≤ t → t < j0 → X[t]? = some x → Y[d - 1 - t]? = some y → lt y x = true) :
    (∀ x ∈ X.drop i, ∀ y ∈ Y.take (d - i), lt y x = true) ∧ (∀ x ∈ X.take i, ∀ y ∈ Y.drop (d - i), lt y x = false) := by
  constructor
  · intro x hx y hy
    obtain ⟨s, hs, hxs⟩ := mem_drop_get hx
    obtain ⟨t, ht, hyt⟩ := mem_take_get hy
    have hsl := (List.getElem?_eq_some_iff.1 hxs).1
    have htl := (List.getElem?_eq_some_iff.1 hyt).1
    have hij : i < j0 := by omega
    obtain ⟨x', hx'⟩ : ∃ x', X[i]? = some x' := ⟨_, List.getElem?_eq_getElem (by omega)⟩
    obtain ⟨y', hy'⟩ : ∃ y', Y[d - 1 - i]? = some y' := ⟨_, List.getElem?_eq_getElem (by omega)⟩
    have := high i x' y' (Nat.le_refl _) hij hx' hy'
    exact klt_of_lt_of_le (klt_of_le_of_lt (hY.get (by omega) hyt hy') this) (hX.get hs hx' hxs)
  · intro x hx y hy
    obtain ⟨s, hs, hxs⟩ := mem_take_get hx
    obtain ⟨t, ht, hyt⟩ := mem_drop_get hy
    have hsl := (List.getElem?_eq_some_iff.1 hxs).1
    have htl := (List.getElem?_eq_some_iff.1 hyt).1
    have hii : i0 < i := by omega
    obtain ⟨x', hx'⟩ : ∃ x', X[i - 1]? = some x' := ⟨_, List.getElem?_eq_getElem (by omega)⟩
    obtain ⟨y', hy'⟩ : ∃ y', Y[d - 1 - (i - 1)]? = some y' := ⟨_, List.getElem?_eq_getElem (by omega)⟩
    have := low (i - 1) x' y' (by omega) (by omega) hx' hy'
    exact kle_trans (kle_trans (hX.get (by omega) hxs hx') this) (hY.get (by omega) hy' hyt)
end Go.Proofs.Qxb6614095a
