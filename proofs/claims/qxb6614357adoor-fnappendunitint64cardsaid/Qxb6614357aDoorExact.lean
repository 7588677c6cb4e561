/-
  PLAIN LAWS of seat b6614357aD: the float64 of a whole number of magnitude at most 2^53 is that number.
-/
import Derived.Test.Qxb6614357aDoorFloat
namespace Go.Proofs.Qxb6614357aDoor
open Go.RowKit Ieee

theorem dbinade : double.binade = 4503599627370496 := by decide +kernel
theorem dinf : double.infRung = 9218868437227405312 := by decide +kernel
theorem dleast : double.leastPlace = -1074 := by decide +kernel
theorem dfrac : double.fractionBits = 52 := rfl

theorem read_word (s : Bool) (r : Nat) (h : r < 9223372036854775808) :
    double.read (double.word s r) = if r < 4503599627370496 then .number s r (-1074) else if r < 9218868437227405312 then .number s (4503599627370496 + r % 4503599627370496) (-1074 + (r / 4503599627370496 - 1 : Nat)) else if r = 9218868437227405312 then .infinity s else .nan s (r - 9218868437227405312) := by
  unfold Format.read Format.word
  simp only [sw, dbinade, dinf, dleast]
  cases s with
  | false =>
    have h2 : (r / 9223372036854775808 % 2 == 1) = false := by rw [beq_eq_false_iff_ne]; omega
    have h3 : r % 9223372036854775808 = r := Nat.mod_eq_of_lt h
    simp only [Bool.false_eq_true, if_false]
    rw [h2, h3]
  | true =>
    have h2 : ((9223372036854775808 + r) / 9223372036854775808 % 2 == 1) = true := by rw [beq_iff_eq]; omega
    have h3 : (9223372036854775808 + r) % 9223372036854775808 = r := by omega
    simp only [if_true]
    rw [h2, h3]

theorem cut_none (s : Bool) (n : Nat) : Toward.even.cut s n 0 = n := by
  unfold Toward.cut
  simp [Nat.mod_one]

/-- A whole number of at most 53 digits, as a double. -/
theorem read_nearest (s : Bool) (N L : Nat) (hL : L ≤ 52) (h1 : 2 ^ L ≤ N) (h2 : N < 2 ^ (L + 1)) :
    double.read (double.nearest s N 0) = .number s (N * 2 ^ (52 - L)) (-(52 - L : Nat)) := by
  have h0 : N ≠ 0 := by have := Nat.two_pow_pos L; omega
  have hlog : N.log2 = L := by
    rw [Nat.log2_eq_iff h0]; exact ⟨h1, h2⟩
  have hK : double.nearest s N 0 = double.word s ((L + 1022) * 4503599627370496 + N * 2 ^ (52 - L)) := by
    unfold Format.nearest
    rw [if_neg h0]
    simp only [hlog, dfrac, dleast, dbinade, dinf]
    have e1 : max ((0 : Int) + (L : Int) - (52 : Nat)) (-1074) = -((52 - L : Nat) : Int) := by omega
    rw [e1]
    have e2 : (0 - -((52 - L : Nat) : Int)).toNat = 52 - L := by omega
    have e3 : (-((52 - L : Nat) : Int) - 0).toNat = 0 := by omega
    have e4 : (-((52 - L : Nat) : Int) - -1074).toNat = L + 1022 := by omega
    rw [e2, e3, e4, cut_none, Nat.shiftLeft_eq]
    have hb : N * 2 ^ (52 - L) < 9007199254740992 := by
      have : N * 2 ^ (52 - L) < 2 ^ (L + 1) * 2 ^ (52 - L) := (Nat.mul_lt_mul_right (Nat.two_pow_pos _)).2 h2
      rw [← Nat.pow_add, show L + 1 + (52 - L) = 53 by omega] at this
      exact this
    rw [Nat.min_eq_left (by omega)]
  have hlo : 4503599627370496 ≤ N * 2 ^ (52 - L) := by
    have : 2 ^ L * 2 ^ (52 - L) ≤ N * 2 ^ (52 - L) := Nat.mul_le_mul_right _ h1
    rw [← Nat.pow_add, show L + (52 - L) = 52 by omega] at this
    exact this
  have hb : N * 2 ^ (52 - L) < 9007199254740992 := by
    have : N * 2 ^ (52 - L) < 2 ^ (L + 1) * 2 ^ (52 - L) := (Nat.mul_lt_mul_right (Nat.two_pow_pos _)).2 h2
    rw [← Nat.pow_add, show L + 1 + (52 - L) = 53 by omega] at this
    exact this
  generalize N * 2 ^ (52 - L) = K at hK hlo hb
  rw [hK, read_word _ _ (by omega), if_neg (by omega), if_pos (by omega)]
  congr 1 <;> omega

theorem nearest_zero : double.nearest false 0 0 = 0 := by decide +kernel
theorem nearest_top (s : Bool) : double.read (double.nearest s 9007199254740992 0) = .number s 4503599627370496 1 := by cases s <;> decide +kernel

theorem exact_read (s : Bool) (N : Nat) (h1 : 1 ≤ N) (h2 : N ≤ 9007199254740992) :
    ∃ m i, double.read (double.nearest s N 0) = .number s m i ∧ whole m i = N ∧ m <<< (i - min i 1).toNat ≤ 4503599627370496 <<< (1 - min i 1).toNat := by
  by_cases ht : N = 9007199254740992
  · subst ht
    exact ⟨_, _, nearest_top s, by decide +kernel, by decide +kernel⟩
  · have h0 : N ≠ 0 := by omega
    have hl := (Nat.log2_eq_iff h0).1 (rfl : N.log2 = N.log2)
    have hL : N.log2 ≤ 52 := by
      have : N.log2 < 53 := (Nat.log2_lt h0).2 (by omega)
      omega
    refine ⟨_, _, read_nearest s N N.log2 hL hl.1 hl.2, ?_, ?_⟩
    · generalize N.log2 = L at hL hl
      have hb : N * 2 ^ (52 - L) < 9007199254740992 := by
        have : N * 2 ^ (52 - L) < 2 ^ (L + 1) * 2 ^ (52 - L) := (Nat.mul_lt_mul_right (Nat.two_pow_pos _)).2 hl.2
        rw [← Nat.pow_add, show L + 1 + (52 - L) = 53 by omega] at this
        exact this
      have hlo : 4503599627370496 ≤ N * 2 ^ (52 - L) := by
        have : 2 ^ L * 2 ^ (52 - L) ≤ N * 2 ^ (52 - L) := Nat.mul_le_mul_right _ hl.1
        rw [← Nat.pow_add, show L + (52 - L) = 52 by omega] at this
        exact this
      have hlg : (N * 2 ^ (52 - L)).log2 = 52 := by
        rw [Nat.log2_eq_iff (by omega)]; exact ⟨hlo, hb⟩
      unfold whole Toward.cut
      have e1 : (-((52 - L : Nat) : Int)).toNat = 0 := by omega
      have e2 : (- -((52 - L : Nat) : Int)).toNat = 52 - L := by omega
      rw [e1, e2, Nat.shiftLeft_zero, hlg, Nat.min_eq_left (by omega), Nat.shiftLeft_eq, Nat.one_mul]
      show N * 2 ^ (52 - L) / 2 ^ (52 - L) + 0 = N
      rw [Nat.mul_div_cancel _ (Nat.two_pow_pos _), Nat.add_zero]
    · generalize N.log2 = L at hL hl
      have hb : N * 2 ^ (52 - L) < 9007199254740992 := by
        have : N * 2 ^ (52 - L) < 2 ^ (L + 1) * 2 ^ (52 - L) := (Nat.mul_lt_mul_right (Nat.two_pow_pos _)).2 hl.2
        rw [← Nat.pow_add, show L + 1 + (52 - L) = 53 by omega] at this
        exact this
      have e0 : min (-((52 - L : Nat) : Int)) 1 = -((52 - L : Nat) : Int) := by omega
      rw [e0]
      have e1 : (-((52 - L : Nat) : Int) - -((52 - L : Nat) : Int)).toNat = 0 := by omega
      have e2 : ((1 : Int) - -((52 - L : Nat) : Int)).toNat = (52 - L) + 1 := by omega
      rw [e1, e2, Nat.shiftLeft_zero, Nat.shiftLeft_eq, Nat.pow_succ]
      have := Nat.two_pow_pos (52 - L)
      omega

/-- What the walks ask of float64(i). -/
theorem exact_all (i : Int) (h1 : -9007199254740992 ≤ i) (h2 : i ≤ 9007199254740992) :
    (double.read (floatOfInt .f64 i)).isNaN = false ∧ inR (floatOfInt .f64 i) = true ∧ (double.order (floatOfInt .f64 i) (truncW (floatOfInt .f64 i)) == some .eq) = true ∧
      floatToIntVal .f64 (floatOfInt .f64 i) .i64 = some i ∧ floatOfInt .f64 i < 18446744073709551616 := by
  have hf : floatOfInt .f64 i = double.nearest (decide (i < 0)) i.natAbs 0 := rfl
  have hlt : floatOfInt .f64 i < 18446744073709551616 := by rw [hf]; exact double.nearest_lt _ _ _
  by_cases h0 : i = 0
  · subst h0
    exact ⟨by decide +kernel, by decide +kernel, by decide +kernel, by decide +kernel, by decide +kernel⟩
  · obtain ⟨m, p, hr, hw, hle⟩ := exact_read (decide (i < 0)) i.natAbs (by omega) (by omega)
    rw [← hf] at hr
    have hn : (double.read (floatOfInt .f64 i)).isNaN = false := by rw [hr]; rfl
    have hin : inR (floatOfInt .f64 i) = true := by rw [inR_number hr]; exact decide_eq_true hle
    have hint : (double.read (floatOfInt .f64 i)).integral .zero = .number (decide (i < 0)) i.natAbs 0 := by
      rw [hr, ← hw]; rfl
    have htr : truncW (floatOfInt .f64 i) = floatOfInt .f64 i := by unfold truncW; rw [hint]; rfl
    refine ⟨hn, hin, ?_, ?_, hlt⟩
    · rw [htr]
      have := order_self (floatOfInt .f64 i)
      rw [hn] at this
      simpa [bne] using this
    · have hs : signed (decide (i < 0)) i.natAbs 0 = i := by
        unfold signed; rw [Nat.shiftLeft_zero]
        by_cases hi : i < 0
        · rw [decide_eq_true hi]; simp; omega
        · rw [decide_eq_false hi]; simp; omega
      have hto : (FloatKind.f64.decode (floatOfInt .f64 i)).toInt .zero = some i := by
        show (double.read (floatOfInt .f64 i)).toInt .zero = _
        unfold Datum.toInt; rw [hint]; simp only [hs]
      unfold floatToIntVal
      rw [hto]
      simp only
      rw [if_pos]
      have e1 : IntKind.i64.min = -9223372036854775808 := by decide
      have e2 : IntKind.i64.max = 9223372036854775807 := by decide
      rw [e1, e2]
      omega
end Go.Proofs.Qxb6614357aDoor
