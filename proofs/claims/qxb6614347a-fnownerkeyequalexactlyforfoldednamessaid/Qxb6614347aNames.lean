/-
  namesMatch: it answers whether the two keys are the same.
-/
import Derived.Test.Qxb6614347aPlain
import Derived.Laws.BitsAllLaws
namespace Go.Proofs.Qxb6614347a
open Go.RowKit

def lowN (n : Nat) : Nat := if 65 ≤ n ∧ n ≤ 90 then n + 32 else n
theorem lowN_low (c : UInt8) : (lowB c).toNat = lowN c.toNat := by
  unfold lowN
  by_cases h : 65 ≤ c.toNat ∧ c.toNat ≤ 90
  · rw [lowB_up h, if_pos h]
  · rw [lowB_id h, if_neg h]
theorem fold_all : ∀ c < 256, ∀ d < 256, (lowN c = lowN d ↔ c = d ∨ (c ^^^ d = 32 ∧ 97 ≤ c ||| 32 ∧ c ||| 32 ≤ 122)) := by
  decide +kernel
theorem fold_eq (c d : UInt8) : lowB c = lowB d ↔ c.toNat = d.toNat ∨ (c.toNat ^^^ d.toNat = 32 ∧ 97 ≤ c.toNat ||| 32 ∧ c.toNat ||| 32 ≤ 122) := by
  rw [← fold_all _ c.toNat_lt _ d.toNat_lt, ← lowN_low, ← lowN_low, UInt8.toNat_inj]
theorem okey_get (s : ByteArray) (i : Nat) (h : i < (okey s).size) (h' : i < s.size) : (okey s).data.toList[i]? = some (lowB s[i]) := by
  have hs := okey_size s
  have g := get_data s i h'
  rw [okey_data, List.getElem?_map]
  cases hd : endsDot s with
  | true =>
    rw [hd, if_pos rfl] at hs
    rw [if_pos rfl, List.dropLast_eq_take, List.getElem?_take, if_pos (by rw [← Lib.size_eq]; omega), g]; rfl
  | false => rw [if_neg (by decide), g]; rfl
/-- The two keys are the same. -/
def same (x y : ByteArray) : Bool := (okey x).toList == (okey y).toList
theorem same_size (x y : ByteArray) (h : (okey x).size ≠ (okey y).size) : same x y = false := by
  unfold same
  rw [beq_eq_false_iff_ne]
  intro e
  rw [Lib.toList_data, Lib.toList_data] at e
  exact h (by rw [Lib.size_eq, Lib.size_eq, e])
theorem same_at (x y : ByteArray) (i : Nat) (h : i < (okey x).size) (hx : i < x.size) (k : i < (okey y).size) (hy : i < y.size) (hne : ¬ lowB x[i] = lowB y[i]) : same x y = false := by
  unfold same
  rw [beq_eq_false_iff_ne]
  intro e
  rw [Lib.toList_data, Lib.toList_data] at e
  have h1 := okey_get x i h hx
  rw [e, okey_get y i k hy] at h1
  exact hne (Option.some.inj h1).symm
theorem same_all (x y : ByteArray) (h : (okey x).size = (okey y).size) (hx : (okey x).size ≤ x.size) (hy : (okey y).size ≤ y.size)
    (ha : ∀ i (h1 : i < x.size) (h2 : i < y.size), i < (okey x).size → lowB x[i] = lowB y[i]) : same x y = true := by
  unfold same
  rw [beq_iff_eq, Lib.toList_data, Lib.toList_data]
  apply List.ext_getElem?
  intro i
  by_cases hi : i < (okey x).size
  · rw [okey_get x i hi (by omega), okey_get y i (by omega) (by omega), ha i (by omega) (by omega) hi]
  · rw [List.getElem?_eq_none (by rw [← Lib.size_eq]; omega), List.getElem?_eq_none (by rw [← Lib.size_eq]; omega)]

/-- What the walk of namesMatch knows. -/
structure Two (x y : ByteArray) (n m : Nat) : Prop where
  en : n = (okey x).size
  em : m = (okey y).size
  lx : n ≤ x.size
  ly : m ≤ y.size

set_option maxHeartbeats 1000000 in
theorem match_tt (x y : ByteArray) (w : World) (hsx : x.size ≤ 65536) (hsy : y.size ≤ 65536) (hx : endsDot x = true) (hy : endsDot y = true) :
    Calls Try.prog 7 #[.string x, .string y] w fun e w' => e = .returned (.bool (same x y)) ∧ w' = w := by
  have ex := okey_size x
  have ey := okey_size y
  rw [hx] at ex
  rw [hy] at ey
  rw [if_pos rfl] at ex
  rw [if_pos rfl] at ey
  have px : 1 ≤ x.size := by
    rcases Nat.lt_or_ge x.size 1 with h | h
    · unfold endsDot at hx
      rw [List.eq_nil_of_length_eq_zero (l := x.data.toList) (by rw [← Lib.size_eq]; omega)] at hx
      cases hx
    · exact h
  have py : 1 ≤ y.size := by
    rcases Nat.lt_or_ge y.size 1 with h | h
    · unfold endsDot at hy
      rw [List.eq_nil_of_length_eq_zero (l := y.data.toList) (by rw [← Lib.size_eq]; omega)] at hy
      cases hy
    · exact h
  obtain ⟨n, hn⟩ : ∃ n, n = (okey x).size := ⟨_, rfl⟩
  obtain ⟨m, hm⟩ : ∃ m, m = (okey y).size := ⟨_, rfl⟩
  have F : Hid (Two x y n m) := ⟨hn, hm, by omega, by omega⟩
  obtain ⟨S, hS⟩ : ∃ S, S = same x y := ⟨_, rfl⟩
  rw [← hS]
  have HS : Hid (S = same x y) := hS
  clear hS
  have qx : (x.size : Int) - 1 = (n : Int) := by omega
  have qy : (y.size : Int) - 1 = (m : Int) := by omega
  have Qx : Hid ((x.size : Int) - 1 = (n : Int)) := qx
  have Qy : Hid ((y.size : Int) - 1 = (m : Int)) := qy
  clear qx qy ex ey hn hm
  by_cases hnm : n = m
  · subst hnm
    have q : (((x.size : Int) - 1) != ((y.size : Int) - 1)) = false := by
      have := Qx.out; have := Qy.out
      rw [bne_eq_false_iff_eq]; omega
    go_enter Try.func7, Try.ntmps7
    go_wp2_with fail
    refine (endsDot_calls x w (by omega)).mono ?_
    rintro e w1 ⟨rfl, rfl⟩
    rw [hx]
    go_wp2_with fail
    refine (endsDot_calls y w1 (by omega)).mono ?_
    rintro e w2 ⟨rfl, rfl⟩
    rw [hy]
    go_wp2_with fail
    rw [Qx.out]
    clear q
    go_loopw [7] (fun i w' => ∃ k : Nat, i = .int .i64 k ∧ k ≤ n ∧ w' = w2 ∧ ∀ j (h1 : j < x.size) (h2 : j < y.size), j < k → lowB x[j] = lowB y[j]) (fun i _ => n - (intOf i).toNat)
    case atStart => exact ⟨0, rfl, by omega, rfl, fun j _ _ h => absurd h (Nat.not_lt_zero j)⟩
    case round =>
      obtain ⟨k, rfl, hkn, rfl, hall⟩ := hrel
      by_cases hk : k < n
      · have hk' : (k : Int) < n := by omega
        have kx : k < x.size := by have := F.out.lx; omega
        have ky : k < y.size := by have := F.out.ly; omega
        have kx' : (k : Int) < x.size := by omega
        have ky' : (k : Int) < y.size := by omega
        have hf := fold_eq x[k] y[k]
        have hc : x[k].toNat < 256 := x[k].toNat_lt
        have hd : y[k].toNat < 256 := y[k].toNat_lt
        have hxor := u8_xor_nat x[k].toNat y[k].toNat hc hd
        have hor : bits .or .u8 (x[k].toNat : Int) 32 = ((x[k].toNat ||| 32 : Nat) : Int) := u8_or_nat x[k].toNat 32 hc (by decide)
        have hnext : Hid (lowB x[k] = lowB y[k] → ∀ j (h1 : j < x.size) (h2 : j < y.size), j < k + 1 → lowB x[j] = lowB y[j]) := by
          intro he j h1 h2 h
          by_cases hjk : j = k
          · subst hjk; exact he
          · exact hall j h1 h2 (by omega)
        have hbad : Hid (¬ lowB x[k] = lowB y[k] → S = false) := by
          intro he
          rw [HS.out]
          exact same_at x y k (by rw [← F.out.en]; exact hk) kx (by rw [← F.out.em]; exact hk) ky he
        clear hall
        generalize hX : x[k].toNat ^^^ y[k].toNat = X at hxor hf
        generalize hO : x[k].toNat ||| 32 = O at hor hf
        have HF : Hid (lowB x[k] = lowB y[k] ↔ x[k].toNat = y[k].toNat ∨ (X = 32 ∧ 97 ≤ O ∧ O ≤ 122)) := hf
        clear hf hX hO
        by_cases hcd : x[k].toNat = y[k].toNat
        · have hcd' : ((x[k].toNat : Int) == (y[k].toNat : Int)) = true := by rw [hcd]; exact beq_self_eq_true _
          have hcd2 : (x[k].toNat : Int) = (y[k].toNat : Int) := by omega
          have Hcd : Hid (x[k].toNat = y[k].toNat) := hcd
          clear hcd hxor hor
          go_wp2
          go_roundw
          case rel => exact ⟨k + 1, by go_num, by omega, trivial, hnext.out (HF.out.2 (Or.inl Hcd.out))⟩
          case measure => simp [intOf]; omega
        · have hcd' : ((x[k].toNat : Int) == (y[k].toNat : Int)) = false := by rw [beq_eq_false_iff_ne]; omega
          by_cases hX : X = 32
          · have hX' : ((X : Int) != 32) = false := by rw [hX]; rfl
            by_cases hO1 : O < 97
            · have hO1' : (O : Int) < 97 := by omega
              have hs : S = false := hbad.out (fun h => by have := HF.out.1 h; omega)
              subst hs
              go_wp2
              go_ret
              exact ⟨rfl, rfl⟩
            · have hO1' : decide ((O : Int) < 97) = false := decide_eq_false (by omega)
              by_cases hO2 : 122 < O
              · have hO2' : (122 : Int) < O := by omega
                have hs : S = false := hbad.out (fun h => by have := HF.out.1 h; omega)
                subst hs
                go_wp2
                go_ret
                exact ⟨rfl, rfl⟩
              · have hO2' : decide ((122 : Int) < O) = false := decide_eq_false (by omega)
                have Hok : Hid (X = 32 ∧ 97 ≤ O ∧ O ≤ 122) := by refine ⟨hX, ?_, ?_⟩ <;> omega
                go_wp2
                go_roundw
                case rel => exact ⟨k + 1, by go_num, by omega, trivial, hnext.out (HF.out.2 (Or.inr Hok.out))⟩
                case measure => simp [intOf]; omega
          · have hX' : ((X : Int) != 32) = true := by rw [bne_iff_ne]; omega
            have hs : S = false := hbad.out (fun h => by have := HF.out.1 h; omega)
            subst hs
            go_wp2
            go_ret
            exact ⟨rfl, rfl⟩
      · have hkn' : k = n := by omega
        subst hkn'
        have hs : S = true := by
          rw [HS.out]
          exact same_all x y (by rw [← F.out.en, ← F.out.em]) (by rw [← F.out.en]; exact F.out.lx) (by rw [← F.out.em]; exact F.out.ly) (fun i h1 h2 h => hall i h1 h2 (by rw [F.out.en]; exact h))
        clear hall
        subst hs
        go_wp2
        go_ret
        exact ⟨rfl, rfl⟩
  · have q : (((x.size : Int) - 1) != ((y.size : Int) - 1)) = true := by
      have := Qx.out; have := Qy.out
      rw [bne_iff_ne]; omega
    have hs : S = false := by
      rw [HS.out]; exact same_size x y (by rw [← F.out.en, ← F.out.em]; exact hnm)
    subst hs
    go_enter Try.func7, Try.ntmps7
    go_wp2_with fail
    refine (endsDot_calls x w (by omega)).mono ?_
    rintro e w1 ⟨rfl, rfl⟩
    rw [hx]
    go_wp2_with fail
    refine (endsDot_calls y w1 (by omega)).mono ?_
    rintro e w2 ⟨rfl, rfl⟩
    rw [hy]
    go_wp2
    go_ret
    exact ⟨rfl, rfl⟩

set_option maxHeartbeats 1000000 in
theorem match_tf (x y : ByteArray) (w : World) (hsx : x.size ≤ 65536) (hsy : y.size ≤ 65536) (hx : endsDot x = true) (hy : endsDot y = false) :
    Calls Try.prog 7 #[.string x, .string y] w fun e w' => e = .returned (.bool (same x y)) ∧ w' = w := by
  have ex := okey_size x
  have ey := okey_size y
  rw [hx] at ex
  rw [hy] at ey
  rw [if_pos rfl] at ex
  rw [if_neg (by decide)] at ey
  have px : 1 ≤ x.size := by
    rcases Nat.lt_or_ge x.size 1 with h | h
    · unfold endsDot at hx
      rw [List.eq_nil_of_length_eq_zero (l := x.data.toList) (by rw [← Lib.size_eq]; omega)] at hx
      cases hx
    · exact h
  skip
  obtain ⟨n, hn⟩ : ∃ n, n = (okey x).size := ⟨_, rfl⟩
  obtain ⟨m, hm⟩ : ∃ m, m = (okey y).size := ⟨_, rfl⟩
  have F : Hid (Two x y n m) := ⟨hn, hm, by omega, by omega⟩
  obtain ⟨S, hS⟩ : ∃ S, S = same x y := ⟨_, rfl⟩
  rw [← hS]
  have HS : Hid (S = same x y) := hS
  clear hS
  have qx : (x.size : Int) - 1 = (n : Int) := by omega
  have qy : (y.size : Int) = (m : Int) := by omega
  have Qx : Hid ((x.size : Int) - 1 = (n : Int)) := qx
  have Qy : Hid ((y.size : Int) = (m : Int)) := qy
  clear qx qy ex ey hn hm
  by_cases hnm : n = m
  · subst hnm
    have q : (((x.size : Int) - 1) != ((y.size : Int))) = false := by
      have := Qx.out; have := Qy.out
      rw [bne_eq_false_iff_eq]; omega
    go_enter Try.func7, Try.ntmps7
    go_wp2_with fail
    refine (endsDot_calls x w (by omega)).mono ?_
    rintro e w1 ⟨rfl, rfl⟩
    rw [hx]
    go_wp2_with fail
    refine (endsDot_calls y w1 (by omega)).mono ?_
    rintro e w2 ⟨rfl, rfl⟩
    rw [hy]
    go_wp2_with fail
    rw [Qx.out]
    clear q
    go_loopw [7] (fun i w' => ∃ k : Nat, i = .int .i64 k ∧ k ≤ n ∧ w' = w2 ∧ ∀ j (h1 : j < x.size) (h2 : j < y.size), j < k → lowB x[j] = lowB y[j]) (fun i _ => n - (intOf i).toNat)
    case atStart => exact ⟨0, rfl, by omega, rfl, fun j _ _ h => absurd h (Nat.not_lt_zero j)⟩
    case round =>
      obtain ⟨k, rfl, hkn, rfl, hall⟩ := hrel
      by_cases hk : k < n
      · have hk' : (k : Int) < n := by omega
        have kx : k < x.size := by have := F.out.lx; omega
        have ky : k < y.size := by have := F.out.ly; omega
        have kx' : (k : Int) < x.size := by omega
        have ky' : (k : Int) < y.size := by omega
        have hf := fold_eq x[k] y[k]
        have hc : x[k].toNat < 256 := x[k].toNat_lt
        have hd : y[k].toNat < 256 := y[k].toNat_lt
        have hxor := u8_xor_nat x[k].toNat y[k].toNat hc hd
        have hor : bits .or .u8 (x[k].toNat : Int) 32 = ((x[k].toNat ||| 32 : Nat) : Int) := u8_or_nat x[k].toNat 32 hc (by decide)
        have hnext : Hid (lowB x[k] = lowB y[k] → ∀ j (h1 : j < x.size) (h2 : j < y.size), j < k + 1 → lowB x[j] = lowB y[j]) := by
          intro he j h1 h2 h
          by_cases hjk : j = k
          · subst hjk; exact he
          · exact hall j h1 h2 (by omega)
        have hbad : Hid (¬ lowB x[k] = lowB y[k] → S = false) := by
          intro he
          rw [HS.out]
          exact same_at x y k (by rw [← F.out.en]; exact hk) kx (by rw [← F.out.em]; exact hk) ky he
        clear hall
        generalize hX : x[k].toNat ^^^ y[k].toNat = X at hxor hf
        generalize hO : x[k].toNat ||| 32 = O at hor hf
        have HF : Hid (lowB x[k] = lowB y[k] ↔ x[k].toNat = y[k].toNat ∨ (X = 32 ∧ 97 ≤ O ∧ O ≤ 122)) := hf
        clear hf hX hO
        by_cases hcd : x[k].toNat = y[k].toNat
        · have hcd' : ((x[k].toNat : Int) == (y[k].toNat : Int)) = true := by rw [hcd]; exact beq_self_eq_true _
          have hcd2 : (x[k].toNat : Int) = (y[k].toNat : Int) := by omega
          have Hcd : Hid (x[k].toNat = y[k].toNat) := hcd
          clear hcd hxor hor
          go_wp2
          go_roundw
          case rel => exact ⟨k + 1, by go_num, by omega, trivial, hnext.out (HF.out.2 (Or.inl Hcd.out))⟩
          case measure => simp [intOf]; omega
        · have hcd' : ((x[k].toNat : Int) == (y[k].toNat : Int)) = false := by rw [beq_eq_false_iff_ne]; omega
          by_cases hX : X = 32
          · have hX' : ((X : Int) != 32) = false := by rw [hX]; rfl
            by_cases hO1 : O < 97
            · have hO1' : (O : Int) < 97 := by omega
              have hs : S = false := hbad.out (fun h => by have := HF.out.1 h; omega)
              subst hs
              go_wp2
              go_ret
              exact ⟨rfl, rfl⟩
            · have hO1' : decide ((O : Int) < 97) = false := decide_eq_false (by omega)
              by_cases hO2 : 122 < O
              · have hO2' : (122 : Int) < O := by omega
                have hs : S = false := hbad.out (fun h => by have := HF.out.1 h; omega)
                subst hs
                go_wp2
                go_ret
                exact ⟨rfl, rfl⟩
              · have hO2' : decide ((122 : Int) < O) = false := decide_eq_false (by omega)
                have Hok : Hid (X = 32 ∧ 97 ≤ O ∧ O ≤ 122) := by refine ⟨hX, ?_, ?_⟩ <;> omega
                go_wp2
                go_roundw
                case rel => exact ⟨k + 1, by go_num, by omega, trivial, hnext.out (HF.out.2 (Or.inr Hok.out))⟩
                case measure => simp [intOf]; omega
          · have hX' : ((X : Int) != 32) = true := by rw [bne_iff_ne]; omega
            have hs : S = false := hbad.out (fun h => by have := HF.out.1 h; omega)
            subst hs
            go_wp2
            go_ret
            exact ⟨rfl, rfl⟩
      · have hkn' : k = n := by omega
        subst hkn'
        have hs : S = true := by
          rw [HS.out]
          exact same_all x y (by rw [← F.out.en, ← F.out.em]) (by rw [← F.out.en]; exact F.out.lx) (by rw [← F.out.em]; exact F.out.ly) (fun i h1 h2 h => hall i h1 h2 (by rw [F.out.en]; exact h))
        clear hall
        subst hs
        go_wp2
        go_ret
        exact ⟨rfl, rfl⟩
  · have q : (((x.size : Int) - 1) != ((y.size : Int))) = true := by
      have := Qx.out; have := Qy.out
      rw [bne_iff_ne]; omega
    have hs : S = false := by
      rw [HS.out]; exact same_size x y (by rw [← F.out.en, ← F.out.em]; exact hnm)
    subst hs
    go_enter Try.func7, Try.ntmps7
    go_wp2_with fail
    refine (endsDot_calls x w (by omega)).mono ?_
    rintro e w1 ⟨rfl, rfl⟩
    rw [hx]
    go_wp2_with fail
    refine (endsDot_calls y w1 (by omega)).mono ?_
    rintro e w2 ⟨rfl, rfl⟩
    rw [hy]
    go_wp2
    go_ret
    exact ⟨rfl, rfl⟩

set_option maxHeartbeats 1000000 in
theorem match_ft (x y : ByteArray) (w : World) (hsx : x.size ≤ 65536) (hsy : y.size ≤ 65536) (hx : endsDot x = false) (hy : endsDot y = true) :
    Calls Try.prog 7 #[.string x, .string y] w fun e w' => e = .returned (.bool (same x y)) ∧ w' = w := by
  have ex := okey_size x
  have ey := okey_size y
  rw [hx] at ex
  rw [hy] at ey
  rw [if_neg (by decide)] at ex
  rw [if_pos rfl] at ey
  skip
  have py : 1 ≤ y.size := by
    rcases Nat.lt_or_ge y.size 1 with h | h
    · unfold endsDot at hy
      rw [List.eq_nil_of_length_eq_zero (l := y.data.toList) (by rw [← Lib.size_eq]; omega)] at hy
      cases hy
    · exact h
  obtain ⟨n, hn⟩ : ∃ n, n = (okey x).size := ⟨_, rfl⟩
  obtain ⟨m, hm⟩ : ∃ m, m = (okey y).size := ⟨_, rfl⟩
  have F : Hid (Two x y n m) := ⟨hn, hm, by omega, by omega⟩
  obtain ⟨S, hS⟩ : ∃ S, S = same x y := ⟨_, rfl⟩
  rw [← hS]
  have HS : Hid (S = same x y) := hS
  clear hS
  have qx : (x.size : Int) = (n : Int) := by omega
  have qy : (y.size : Int) - 1 = (m : Int) := by omega
  have Qx : Hid ((x.size : Int) = (n : Int)) := qx
  have Qy : Hid ((y.size : Int) - 1 = (m : Int)) := qy
  clear qx qy ex ey hn hm
  by_cases hnm : n = m
  · subst hnm
    have q : (((x.size : Int)) != ((y.size : Int) - 1)) = false := by
      have := Qx.out; have := Qy.out
      rw [bne_eq_false_iff_eq]; omega
    go_enter Try.func7, Try.ntmps7
    go_wp2_with fail
    refine (endsDot_calls x w (by omega)).mono ?_
    rintro e w1 ⟨rfl, rfl⟩
    rw [hx]
    go_wp2_with fail
    refine (endsDot_calls y w1 (by omega)).mono ?_
    rintro e w2 ⟨rfl, rfl⟩
    rw [hy]
    go_wp2_with fail
    rw [Qx.out]
    clear q
    go_loopw [7] (fun i w' => ∃ k : Nat, i = .int .i64 k ∧ k ≤ n ∧ w' = w2 ∧ ∀ j (h1 : j < x.size) (h2 : j < y.size), j < k → lowB x[j] = lowB y[j]) (fun i _ => n - (intOf i).toNat)
    case atStart => exact ⟨0, rfl, by omega, rfl, fun j _ _ h => absurd h (Nat.not_lt_zero j)⟩
    case round =>
      obtain ⟨k, rfl, hkn, rfl, hall⟩ := hrel
      by_cases hk : k < n
      · have hk' : (k : Int) < n := by omega
        have kx : k < x.size := by have := F.out.lx; omega
        have ky : k < y.size := by have := F.out.ly; omega
        have kx' : (k : Int) < x.size := by omega
        have ky' : (k : Int) < y.size := by omega
        have hf := fold_eq x[k] y[k]
        have hc : x[k].toNat < 256 := x[k].toNat_lt
        have hd : y[k].toNat < 256 := y[k].toNat_lt
        have hxor := u8_xor_nat x[k].toNat y[k].toNat hc hd
        have hor : bits .or .u8 (x[k].toNat : Int) 32 = ((x[k].toNat ||| 32 : Nat) : Int) := u8_or_nat x[k].toNat 32 hc (by decide)
        have hnext : Hid (lowB x[k] = lowB y[k] → ∀ j (h1 : j < x.size) (h2 : j < y.size), j < k + 1 → lowB x[j] = lowB y[j]) := by
          intro he j h1 h2 h
          by_cases hjk : j = k
          · subst hjk; exact he
          · exact hall j h1 h2 (by omega)
        have hbad : Hid (¬ lowB x[k] = lowB y[k] → S = false) := by
          intro he
          rw [HS.out]
          exact same_at x y k (by rw [← F.out.en]; exact hk) kx (by rw [← F.out.em]; exact hk) ky he
        clear hall
        generalize hX : x[k].toNat ^^^ y[k].toNat = X at hxor hf
        generalize hO : x[k].toNat ||| 32 = O at hor hf
        have HF : Hid (lowB x[k] = lowB y[k] ↔ x[k].toNat = y[k].toNat ∨ (X = 32 ∧ 97 ≤ O ∧ O ≤ 122)) := hf
        clear hf hX hO
        by_cases hcd : x[k].toNat = y[k].toNat
        · have hcd' : ((x[k].toNat : Int) == (y[k].toNat : Int)) = true := by rw [hcd]; exact beq_self_eq_true _
          have hcd2 : (x[k].toNat : Int) = (y[k].toNat : Int) := by omega
          have Hcd : Hid (x[k].toNat = y[k].toNat) := hcd
          clear hcd hxor hor
          go_wp2
          go_roundw
          case rel => exact ⟨k + 1, by go_num, by omega, trivial, hnext.out (HF.out.2 (Or.inl Hcd.out))⟩
          case measure => simp [intOf]; omega
        · have hcd' : ((x[k].toNat : Int) == (y[k].toNat : Int)) = false := by rw [beq_eq_false_iff_ne]; omega
          by_cases hX : X = 32
          · have hX' : ((X : Int) != 32) = false := by rw [hX]; rfl
            by_cases hO1 : O < 97
            · have hO1' : (O : Int) < 97 := by omega
              have hs : S = false := hbad.out (fun h => by have := HF.out.1 h; omega)
              subst hs
              go_wp2
              go_ret
              exact ⟨rfl, rfl⟩
            · have hO1' : decide ((O : Int) < 97) = false := decide_eq_false (by omega)
              by_cases hO2 : 122 < O
              · have hO2' : (122 : Int) < O := by omega
                have hs : S = false := hbad.out (fun h => by have := HF.out.1 h; omega)
                subst hs
                go_wp2
                go_ret
                exact ⟨rfl, rfl⟩
              · have hO2' : decide ((122 : Int) < O) = false := decide_eq_false (by omega)
                have Hok : Hid (X = 32 ∧ 97 ≤ O ∧ O ≤ 122) := by refine ⟨hX, ?_, ?_⟩ <;> omega
                go_wp2
                go_roundw
                case rel => exact ⟨k + 1, by go_num, by omega, trivial, hnext.out (HF.out.2 (Or.inr Hok.out))⟩
                case measure => simp [intOf]; omega
          · have hX' : ((X : Int) != 32) = true := by rw [bne_iff_ne]; omega
            have hs : S = false := hbad.out (fun h => by have := HF.out.1 h; omega)
            subst hs
            go_wp2
            go_ret
            exact ⟨rfl, rfl⟩
      · have hkn' : k = n := by omega
        subst hkn'
        have hs : S = true := by
          rw [HS.out]
          exact same_all x y (by rw [← F.out.en, ← F.out.em]) (by rw [← F.out.en]; exact F.out.lx) (by rw [← F.out.em]; exact F.out.ly) (fun i h1 h2 h => hall i h1 h2 (by rw [F.out.en]; exact h))
        clear hall
        subst hs
        go_wp2
        go_ret
        exact ⟨rfl, rfl⟩
  · have q : (((x.size : Int)) != ((y.size : Int) - 1)) = true := by
      have := Qx.out; have := Qy.out
      rw [bne_iff_ne]; omega
    have hs : S = false := by
      rw [HS.out]; exact same_size x y (by rw [← F.out.en, ← F.out.em]; exact hnm)
    subst hs
    go_enter Try.func7, Try.ntmps7
    go_wp2_with fail
    refine (endsDot_calls x w (by omega)).mono ?_
    rintro e w1 ⟨rfl, rfl⟩
    rw [hx]
    go_wp2_with fail
    refine (endsDot_calls y w1 (by omega)).mono ?_
    rintro e w2 ⟨rfl, rfl⟩
    rw [hy]
    go_wp2
    go_ret
    exact ⟨rfl, rfl⟩

set_option maxHeartbeats 1000000 in
theorem match_ff (x y : ByteArray) (w : World) (hsx : x.size ≤ 65536) (hsy : y.size ≤ 65536) (hx : endsDot x = false) (hy : endsDot y = false) :
    Calls Try.prog 7 #[.string x, .string y] w fun e w' => e = .returned (.bool (same x y)) ∧ w' = w := by
  have ex := okey_size x
  have ey := okey_size y
  rw [hx] at ex
  rw [hy] at ey
  rw [if_neg (by decide)] at ex
  rw [if_neg (by decide)] at ey
  skip
  skip
  obtain ⟨n, hn⟩ : ∃ n, n = (okey x).size := ⟨_, rfl⟩
  obtain ⟨m, hm⟩ : ∃ m, m = (okey y).size := ⟨_, rfl⟩
  have F : Hid (Two x y n m) := ⟨hn, hm, by omega, by omega⟩
  obtain ⟨S, hS⟩ : ∃ S, S = same x y := ⟨_, rfl⟩
  rw [← hS]
  have HS : Hid (S = same x y) := hS
  clear hS
  have qx : (x.size : Int) = (n : Int) := by omega
  have qy : (y.size : Int) = (m : Int) := by omega
  have Qx : Hid ((x.size : Int) = (n : Int)) := qx
  have Qy : Hid ((y.size : Int) = (m : Int)) := qy
  clear qx qy ex ey hn hm
  by_cases hnm : n = m
  · subst hnm
    have q : (((x.size : Int)) != ((y.size : Int))) = false := by
      have := Qx.out; have := Qy.out
      rw [bne_eq_false_iff_eq]; omega
    go_enter Try.func7, Try.ntmps7
    go_wp2_with fail
    refine (endsDot_calls x w (by omega)).mono ?_
    rintro e w1 ⟨rfl, rfl⟩
    rw [hx]
    go_wp2_with fail
    refine (endsDot_calls y w1 (by omega)).mono ?_
    rintro e w2 ⟨rfl, rfl⟩
    rw [hy]
    go_wp2_with fail
    rw [Qx.out]
    clear q
    go_loopw [7] (fun i w' => ∃ k : Nat, i = .int .i64 k ∧ k ≤ n ∧ w' = w2 ∧ ∀ j (h1 : j < x.size) (h2 : j < y.size), j < k → lowB x[j] = lowB y[j]) (fun i _ => n - (intOf i).toNat)
    case atStart => exact ⟨0, rfl, by omega, rfl, fun j _ _ h => absurd h (Nat.not_lt_zero j)⟩
    case round =>
      obtain ⟨k, rfl, hkn, rfl, hall⟩ := hrel
      by_cases hk : k < n
      · have hk' : (k : Int) < n := by omega
        have kx : k < x.size := by have := F.out.lx; omega
        have ky : k < y.size := by have := F.out.ly; omega
        have kx' : (k : Int) < x.size := by omega
        have ky' : (k : Int) < y.size := by omega
        have hf := fold_eq x[k] y[k]
        have hc : x[k].toNat < 256 := x[k].toNat_lt
        have hd : y[k].toNat < 256 := y[k].toNat_lt
        have hxor := u8_xor_nat x[k].toNat y[k].toNat hc hd
        have hor : bits .or .u8 (x[k].toNat : Int) 32 = ((x[k].toNat ||| 32 : Nat) : Int) := u8_or_nat x[k].toNat 32 hc (by decide)
        have hnext : Hid (lowB x[k] = lowB y[k] → ∀ j (h1 : j < x.size) (h2 : j < y.size), j < k + 1 → lowB x[j] = lowB y[j]) := by
          intro he j h1 h2 h
          by_cases hjk : j = k
          · subst hjk; exact he
          · exact hall j h1 h2 (by omega)
        have hbad : Hid (¬ lowB x[k] = lowB y[k] → S = false) := by
          intro he
          rw [HS.out]
          exact same_at x y k (by rw [← F.out.en]; exact hk) kx (by rw [← F.out.em]; exact hk) ky he
        clear hall
        generalize hX : x[k].toNat ^^^ y[k].toNat = X at hxor hf
        generalize hO : x[k].toNat ||| 32 = O at hor hf
        have HF : Hid (lowB x[k] = lowB y[k] ↔ x[k].toNat = y[k].toNat ∨ (X = 32 ∧ 97 ≤ O ∧ O ≤ 122)) := hf
        clear hf hX hO
        by_cases hcd : x[k].toNat = y[k].toNat
        · have hcd' : ((x[k].toNat : Int) == (y[k].toNat : Int)) = true := by rw [hcd]; exact beq_self_eq_true _
          have hcd2 : (x[k].toNat : Int) = (y[k].toNat : Int) := by omega
          have Hcd : Hid (x[k].toNat = y[k].toNat) := hcd
          clear hcd hxor hor
          go_wp2
          go_roundw
          case rel => exact ⟨k + 1, by go_num, by omega, trivial, hnext.out (HF.out.2 (Or.inl Hcd.out))⟩
          case measure => simp [intOf]; omega
        · have hcd' : ((x[k].toNat : Int) == (y[k].toNat : Int)) = false := by rw [beq_eq_false_iff_ne]; omega
          by_cases hX : X = 32
          · have hX' : ((X : Int) != 32) = false := by rw [hX]; rfl
            by_cases hO1 : O < 97
            · have hO1' : (O : Int) < 97 := by omega
              have hs : S = false := hbad.out (fun h => by have := HF.out.1 h; omega)
              subst hs
              go_wp2
              go_ret
              exact ⟨rfl, rfl⟩
            · have hO1' : decide ((O : Int) < 97) = false := decide_eq_false (by omega)
              by_cases hO2 : 122 < O
              · have hO2' : (122 : Int) < O := by omega
                have hs : S = false := hbad.out (fun h => by have := HF.out.1 h; omega)
                subst hs
                go_wp2
                go_ret
                exact ⟨rfl, rfl⟩
              · have hO2' : decide ((122 : Int) < O) = false := decide_eq_false (by omega)
                have Hok : Hid (X = 32 ∧ 97 ≤ O ∧ O ≤ 122) := by refine ⟨hX, ?_, ?_⟩ <;> omega
                go_wp2
                go_roundw
                case rel => exact ⟨k + 1, by go_num, by omega, trivial, hnext.out (HF.out.2 (Or.inr Hok.out))⟩
                case measure => simp [intOf]; omega
          · have hX' : ((X : Int) != 32) = true := by rw [bne_iff_ne]; omega
            have hs : S = false := hbad.out (fun h => by have := HF.out.1 h; omega)
            subst hs
            go_wp2
            go_ret
            exact ⟨rfl, rfl⟩
      · have hkn' : k = n := by omega
        subst hkn'
        have hs : S = true := by
          rw [HS.out]
          exact same_all x y (by rw [← F.out.en, ← F.out.em]) (by rw [← F.out.en]; exact F.out.lx) (by rw [← F.out.em]; exact F.out.ly) (fun i h1 h2 h => hall i h1 h2 (by rw [F.out.en]; exact h))
        clear hall
        subst hs
        go_wp2
        go_ret
        exact ⟨rfl, rfl⟩
  · have q : (((x.size : Int)) != ((y.size : Int))) = true := by
      have := Qx.out; have := Qy.out
      rw [bne_iff_ne]; omega
    have hs : S = false := by
      rw [HS.out]; exact same_size x y (by rw [← F.out.en, ← F.out.em]; exact hnm)
    subst hs
    go_enter Try.func7, Try.ntmps7
    go_wp2_with fail
    refine (endsDot_calls x w (by omega)).mono ?_
    rintro e w1 ⟨rfl, rfl⟩
    rw [hx]
    go_wp2_with fail
    refine (endsDot_calls y w1 (by omega)).mono ?_
    rintro e w2 ⟨rfl, rfl⟩
    rw [hy]
    go_wp2
    go_ret
    exact ⟨rfl, rfl⟩

theorem names_calls (x y : ByteArray) (w : World) (hsx : x.size ≤ 65536) (hsy : y.size ≤ 65536) :
    Calls Try.prog 7 #[.string x, .string y] w fun e w' => e = .returned (.bool (same x y)) ∧ w' = w := by
  cases hx : endsDot x with
  | true =>
    cases hy : endsDot y with
    | true => exact match_tt x y w hsx hsy hx hy
    | false => exact match_tf x y w hsx hsy hx hy
  | false =>
    cases hy : endsDot y with
    | true => exact match_ft x y w hsx hsy hx hy
    | false => exact match_ff x y w hsx hsy hx hy
end Go.Proofs.Qxb6614347a
