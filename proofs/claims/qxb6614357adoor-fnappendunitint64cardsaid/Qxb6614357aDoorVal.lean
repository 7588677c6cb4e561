/-
  PLAIN LAWS of seat b6614357aD: a decimal numeral and its value.
-/
import Derived.Test.Qxb6614357aDoorDec
namespace Go.Proofs.Qxb6614357aDoor

/-- The value of a row of digits. -/
def val (l : List UInt8) : Nat := l.foldl (fun v d => v * 10 + (d.toNat - 48)) 0
theorem val_nil : val [] = 0 := rfl
theorem val_snoc (l : List UInt8) (d : UInt8) : val (l ++ [d]) = val l * 10 + (d.toNat - 48) := by simp [val]

theorem byte_dig (m : Nat) : (UInt8.ofNat (48 + m % 10)).toNat = 48 + m % 10 := by simp; omega
theorem val_digits (m : Nat) : val (Lib.decDigits m) = m := by
  induction m using Nat.strongRecOn with
  | _ m ih =>
    by_cases h : m / 10 = 0
    · rw [dig_stop h]
      show 0 * 10 + ((UInt8.ofNat (48 + m % 10)).toNat - 48) = m
      rw [byte_dig]; omega
    · rw [dig_more h, val_snoc, ih (m / 10) (by omega), byte_dig]; omega
theorem dig_range (m : Nat) : ∀ x ∈ Lib.decDigits m, 48 ≤ x.toNat ∧ x.toNat ≤ 57 := by
  induction m using Nat.strongRecOn with
  | _ m ih =>
    intro x hx
    by_cases h : m / 10 = 0
    · rw [dig_stop h] at hx
      have : x = UInt8.ofNat (48 + m % 10) := by simpa using hx
      rw [this, byte_dig]; omega
    · rw [dig_more h, List.mem_append] at hx
      rcases hx with hx | hx
      · exact ih (m / 10) (by omega) x hx
      · have : x = UInt8.ofNat (48 + m % 10) := by simpa using hx
        rw [this, byte_dig]; omega
theorem dig_head (m : Nat) (h1 : 1 ≤ m) : ∃ x t, Lib.decDigits m = x :: t ∧ x.toNat ≠ 48 := by
  induction m using Nat.strongRecOn with
  | _ m ih =>
    by_cases h : m / 10 = 0
    · refine ⟨_, [], dig_stop h, ?_⟩
      rw [byte_dig]; omega
    · obtain ⟨x, t, e, hx⟩ := ih (m / 10) (by omega) (by omega)
      exact ⟨x, t ++ [UInt8.ofNat (48 + m % 10)], by rw [dig_more h, e]; rfl, hx⟩

theorem val_take_succ {l : List UInt8} {j : Nat} {x : UInt8} (h : l[j]? = some x) : val (l.take (j + 1)) = val (l.take j) * 10 + (x.toNat - 48) := by
  rw [List.take_add_one, h]
  exact val_snoc _ _
theorem val_take_mono (l : List UInt8) (i j : Nat) (h : i ≤ j) : val (l.take i) ≤ val (l.take j) := by
  induction j with
  | zero => have : i = 0 := by omega
            subst this; exact Nat.le_refl _
  | succ j ih =>
    by_cases e : i = j + 1
    · subst e; exact Nat.le_refl _
    · refine Nat.le_trans (ih (by omega)) ?_
      cases hx : l[j]? with
      | none => rw [List.take_add_one, hx]; simp
      | some x => rw [val_take_succ hx]; omega

/-- The text of a number: its sign, its digits. -/
structure Numeral (k : Int) (neg : Bool) (D : List UInt8) : Prop where
  text : Lib.itoa k = if neg then 45 :: D else D
  value : k = if neg then -(val D : Int) else val D
  small : val D ≤ 9007199254740992
  range : ∀ x ∈ D, 48 ≤ x.toNat ∧ x.toNat ≤ 57
  len1 : 1 ≤ D.length
  len2 : D.length ≤ 20
  head : 1 < D.length → ∃ x, D[0]? = some x ∧ x.toNat ≠ 48
theorem numeral_of (k : Int) (h1 : -9007199254740992 ≤ k) (h2 : k ≤ 9007199254740992) : ∃ neg D, Numeral k neg D := by
  have hh : ∀ u : Nat, 1 < (Lib.decDigits u).length → ∃ x, (Lib.decDigits u)[0]? = some x ∧ x.toNat ≠ 48 := by
    intro u hu
    by_cases h : 1 ≤ u
    · obtain ⟨x, t, e, hx⟩ := dig_head u h
      exact ⟨x, by rw [e]; rfl, hx⟩
    · have : u = 0 := by omega
      subst this
      rw [dig_stop (by omega)] at hu
      simp at hu
  by_cases h : k < 0
  · obtain ⟨u, rfl⟩ : ∃ u : Nat, k = -(u : Int) := ⟨k.natAbs, by omega⟩
    refine ⟨true, Lib.decDigits u, by rw [Lib.itoa_neg u (by omega)]; rfl, by rw [val_digits]; rfl, by rw [val_digits]; omega, dig_range u, dig_pos u, dig_le (by omega), hh u⟩
  · obtain ⟨u, rfl⟩ : ∃ u : Nat, k = u := ⟨k.toNat, by omega⟩
    refine ⟨false, Lib.decDigits u, by rw [Lib.itoa_nonneg]; rfl, by rw [val_digits]; rfl, by rw [val_digits]; omega, dig_range u, dig_pos u, dig_le (by omega), hh u⟩
theorem Numeral.dig {k : Int} {neg : Bool} {D : List UInt8} (h : Numeral k neg D) {j : Nat} (hj : j < D.length) : ∃ x, D[j]? = some x ∧ 48 ≤ x.toNat ∧ x.toNat ≤ 57 :=
  ⟨_, List.getElem?_eq_getElem hj, h.range _ (List.getElem_mem hj)⟩
end Go.Proofs.Qxb6614357aDoor
