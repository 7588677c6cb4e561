/-
  PLAIN LAWS of seat b6614357aD: which float64 is a whole number of magnitude at most 2^53, told twice.
-/
import Derived.Test.Qxb6614357aDoorRows
import Derived.WalkKit
import Derived.WalkLawsBesides
import Derived.Laws.BitsAllLaws

namespace Go.Proofs.Qxb6614357aDoor
open Go.RowKit Ieee

/-- 2^53, and its opposite, as words. -/
def limW : Nat := 4845873199050653696
def nlimW : Nat := 14069245235905429504
theorem read_lim : double.read 4845873199050653696 = .number false 4503599627370496 1 := by decide +kernel
theorem read_nlim : double.read 14069245235905429504 = .number true 4503599627370496 1 := by decide +kernel
theorem read_zero (s : Bool) : double.read (double.word s 0) = .number s 0 (-1074) := by cases s <;> decide +kernel

theorem cmpI (x y : Int) : compare x y = if x < y then .lt else if x = y then .eq else .gt := rfl

/-- The magnitude's word. -/
def absW (b : Nat) : Nat := b % 9223372036854775808
def absD : Datum → Datum
  | .number _ m i => .number false m i
  | .infinity _ => .infinity false
  | .nan _ t => .nan false t
theorem sw : double.signWeight = 9223372036854775808 := by decide +kernel
theorem read_abs (b : Nat) : double.read (absW b) = absD (double.read b) := by
  unfold Format.read absW
  simp only [sw]
  have h1 : b % 9223372036854775808 % 9223372036854775808 = b % 9223372036854775808 := Nat.mod_mod _ _
  have h2 : (b % 9223372036854775808 / 9223372036854775808 % 2 == 1) = false := by
    rw [beq_eq_false_iff_ne]; omega
  rw [h1, h2]
  split
  · rfl
  · split
    · rfl
    · split <;> rfl
theorem read_mag (b : Nat) {s m i} (h : double.read b = .number s m i) : m < 9007199254740992 := by
  unfold Format.read at h
  have hb : double.binade = 4503599627370496 := by decide +kernel
  simp only [hb] at h
  split at h
  · cases h; omega
  · split at h
    · cases h; have := Nat.mod_lt (b % double.signWeight) (show 0 < 4503599627370496 by decide); omega
    · split at h <;> cases h

theorem order_symm (x y : Datum) : (x.order y == some .eq) = (y.order x == some .eq) := by
  cases x <;> cases y <;> simp only [Datum.order] <;> try rfl
  · rename_i s m i t n j
    rw [Int.min_comm j i, cmpI, cmpI]
    generalize signed s m _ = X
    generalize signed t n _ = Y
    by_cases h : X = Y
    · subst h; simp
    · rcases Int.lt_trichotomy X Y with h1 | h1 | h1
      · rw [if_pos h1, if_neg (by omega), if_neg (by omega)]; rfl
      · exact absurd h1 h
      · rw [if_neg (by omega), if_neg h, if_pos h1]; rfl
  · split <;> rfl
  · split <;> rfl
  · rename_i s t; cases s <;> cases t <;> rfl

/-- A word that is no NaN equals itself; a NaN does not. -/
theorem order_self (b : Nat) : (double.order b b != some .eq) = (double.read b).isNaN := by
  unfold Format.order
  cases double.read b with
  | number s m i => simp only [Datum.order, cmpI]; rw [if_neg (by omega), if_pos trivial]; rfl
  | infinity s => cases s <;> rfl
  | nan s t => rfl

/-- Within ±2^53. -/
def inR (b : Nat) : Bool := (double.order b 14069245235905429504 == some .gt || double.order b 14069245235905429504 == some .eq) && (double.order b 4845873199050653696 == some .lt || double.order b 4845873199050653696 == some .eq)

theorem inR_number {b : Nat} {s m i} (h : double.read b = .number s m i) :
    inR b = decide (m <<< (i - min i 1).toNat ≤ 4503599627370496 <<< (1 - min i 1).toNat) := by
  unfold inR Format.order
  rw [h, read_lim, read_nlim]
  simp only [Datum.order, cmpI]
  generalize (i - min i 1).toNat = u
  generalize (1 - min i 1).toNat = v
  generalize hA : m <<< u = A
  generalize hL : 4503599627370496 <<< v = L
  have s1 : ∀ t, signed t m u = if t then -(A : Int) else A := by intro t; unfold signed; rw [hA]
  have s2 : ∀ t, signed t 4503599627370496 v = if t then -(L : Int) else L := by intro t; unfold signed; rw [hL]
  rw [s1, s2, s2]
  by_cases hle : A ≤ L
  · rw [decide_eq_true hle]
    cases s
    · simp only [Bool.false_eq_true, if_false, if_true]
      rcases Nat.lt_or_ge A L with h1 | h1
      · rw [if_neg (by omega), if_pos (show (A : Int) < L by omega)]
        split <;> rfl
      · have : A = L := by omega
        subst this
        rw [if_neg (by omega), if_neg (show ¬ (A : Int) < A by omega), if_pos rfl]
        split <;> rfl
    · simp only [if_true, Bool.false_eq_true, if_false]
      rcases Nat.lt_or_ge A L with h1 | h1
      · rw [if_neg (by omega), if_neg (by omega), if_pos (show -(A : Int) < L by omega)]
        rfl
      · have : A = L := by omega
        subst this
        rw [if_neg (by omega), if_pos rfl]
        by_cases h0 : -(A : Int) < A
        · rw [if_pos h0]; rfl
        · rw [if_neg h0, if_pos (by omega)]; rfl
  · rw [decide_eq_false hle]
    cases s
    · simp only [Bool.false_eq_true, if_false, if_true]
      rw [if_neg (show ¬ (A : Int) < L by omega), if_neg (show ¬ (A : Int) = L by omega)]
      exact Bool.and_false _
    · simp only [if_true, Bool.false_eq_true, if_false]
      rw [if_pos (show -(A : Int) < -L by omega)]
      rfl
theorem abs_number {b : Nat} {s m i} (h : double.read b = .number s m i) :
    (double.order (absW b) 4845873199050653696 == some .gt) = !decide (m <<< (i - min i 1).toNat ≤ 4503599627370496 <<< (1 - min i 1).toNat) := by
  unfold Format.order
  rw [read_abs, h, read_lim]
  simp only [absD, Datum.order, cmpI]
  generalize (i - min i 1).toNat = u
  generalize (1 - min i 1).toNat = v
  generalize hA : m <<< u = A
  generalize hL : 4503599627370496 <<< v = L
  have s1 : signed false m u = A := by unfold signed; rw [hA]; rfl
  have s2 : signed false 4503599627370496 v = L := by unfold signed; rw [hL]; rfl
  rw [s1, s2]
  by_cases hle : A ≤ L
  · rw [decide_eq_true hle]
    rcases Nat.lt_or_ge A L with h1 | h1
    · rw [if_pos (by omega)]; rfl
    · rw [if_neg (by omega), if_pos (by omega)]; rfl
  · rw [decide_eq_false hle, if_neg (by omega), if_neg (by omega)]; rfl

/-- P1: the two tests of the range are one. -/
theorem range_same (b : Nat) (h : (double.read b).isNaN = false) : (double.order (absW b) 4845873199050653696 == some .gt) = !inR b := by
  cases hd : double.read b with
  | number s m i => rw [abs_number hd, inR_number hd]
  | infinity s =>
    unfold inR Format.order
    rw [read_abs, hd, read_lim, read_nlim]
    cases s <;> rfl
  | nan s t => rw [hd] at h; cases h
theorem range_nan (b : Nat) (h : (double.read b).isNaN = true) : inR b = false := by
  cases hd : double.read b with
  | number s m i => rw [hd] at h; cases h
  | infinity s => rw [hd] at h; cases h
  | nan s t => unfold inR Format.order; rw [hd]; rfl
theorem range_inf (b : Nat) {s} (hd : double.read b = .infinity s) : inR b = false := by
  unfold inR Format.order
  rw [hd, read_lim, read_nlim]
  cases s <;> rfl

/-- The whole part's magnitude. -/
def whole (m : Nat) (i : Int) : Nat := Toward.zero.cut false (m <<< i.toNat) (-i).toNat
theorem cut_zero (s : Bool) (n d : Nat) : Toward.zero.cut s n d = Toward.zero.cut false n d := rfl
theorem whole_le {m : Nat} {i : Int} (hm : m < 9007199254740992) (h : m <<< (i - min i 1).toNat ≤ 4503599627370496 <<< (1 - min i 1).toNat) : whole m i ≤ 9007199254740992 := by
  unfold whole Toward.cut
  simp only [Bool.toNat_false, Nat.add_zero]
  by_cases hi : i ≤ 0
  · have : i.toNat = 0 := by omega
    rw [this, Nat.shiftLeft_zero]
    exact Nat.le_trans (Nat.div_le_self _ _) (by omega)
  · obtain ⟨k, hk⟩ : ∃ k : Nat, i = (k : Int) + 1 := ⟨(i - 1).toNat, by omega⟩
    have hmin : min i 1 = 1 := by omega
    rw [hmin] at h
    have e1 : (i - 1).toNat = k := by omega
    have e2 : i.toNat = k + 1 := by omega
    have e3 : ((1 : Int) - 1).toNat = 0 := by decide
    rw [e1, e3, Nat.shiftLeft_zero] at h
    rw [e2]
    refine Nat.le_trans (Nat.div_le_self _ _) ?_
    rw [Nat.shiftLeft_succ]
    omega

/-- Trunc's word, of a word that is no NaN. -/
def truncW (b : Nat) : Nat := double.write ((double.read b).integral .zero)

/-- P2: int64(f) is fixed, small, and the two tests of wholeness are one. -/
theorem whole_same (b : Nat) (h : inR b = true) : ∃ n : Int, floatToIntVal .f64 b .i64 = some n ∧ -9007199254740992 ≤ n ∧ n ≤ 9007199254740992 ∧
    (double.order (floatOfInt .f64 n) b == some .eq) = (double.order b (truncW b) == some .eq) := by
  cases hd : double.read b with
  | infinity s => rw [range_inf b hd] at h; cases h
  | nan s t => rw [range_nan b (by rw [hd]; rfl)] at h; cases h
  | number s m i =>
    have hr := inR_number hd
    rw [h] at hr
    have hle := of_decide_eq_true hr.symm
    have hm := read_mag b hd
    have hN := whole_le hm hle
    have hint : (double.read b).integral .zero = .number s (whole m i) 0 := by rw [hd]; rfl
    generalize hNN : whole m i = N at hN hint
    have htr : truncW b = double.nearest s N 0 := by unfold truncW; rw [hint]; rfl
    have hto : (FloatKind.f64.decode b).toInt .zero = some (signed s N 0) := by
      show (double.read b).toInt .zero = _
      unfold Datum.toInt; rw [hint]
    have hs : signed s N 0 = if s then -(N : Int) else N := by unfold signed; rw [Nat.shiftLeft_zero]
    refine ⟨signed s N 0, ?_, ?_, ?_, ?_⟩
    · unfold floatToIntVal
      rw [hto]
      simp only
      rw [if_pos]
      rw [hs]
      have e1 : IntKind.i64.min = -9223372036854775808 := by decide
      have e2 : IntKind.i64.max = 9223372036854775807 := by decide
      rw [e1, e2]
      cases s <;> simp <;> omega
    · rw [hs]; cases s <;> simp <;> omega
    · rw [hs]; cases s <;> simp <;> omega
    · have hf : floatOfInt .f64 (signed s N 0) = double.nearest (decide (signed s N 0 < 0)) (signed s N 0).natAbs 0 := rfl
      rw [hf, htr, hs]
      unfold Format.order
      rw [order_symm (double.read b)]
      cases s with
      | false =>
        simp only [Bool.false_eq_true, if_false]
        rw [decide_eq_false (by omega), Int.natAbs_natCast]
      | true =>
        simp only [if_true]
        by_cases h0 : N = 0
        · subst h0
          have z1 : double.nearest (decide (-((0 : Nat) : Int) < 0)) (-((0 : Nat) : Int)).natAbs 0 = double.word false 0 := rfl
          have z2 : double.nearest true 0 0 = double.word true 0 := rfl
          rw [z1, z2, read_zero, read_zero, hd]
          simp only [Datum.order]
          have z : ∀ t u, signed t 0 u = 0 := by intro t u; unfold signed; rw [Nat.zero_shiftLeft]; cases t <;> rfl
          rw [z, z]
        · rw [decide_eq_true (by omega), Int.natAbs_neg, Int.natAbs_natCast]
end Go.Proofs.Qxb6614357aDoor
