/-
  The law FnOwnerKeySplitsAtAnyCut walked.
-/
import Derived.Test.Qxb6614347aPlain
import Derived.Deep.RegionWith
namespace Go.Proofs.Qxb6614347a
open Go.RowKit

/-- What the keys of a cut text are. -/
structure CutFacts (a b W D : ByteArray) (d : Bool) : Prop where
  W : W = okey (a ++ b)
  D : D = okey (a ++ ⟨#[95]⟩)
  d : d = endsDot (a ++ b)

theorem cut_facts (a b W D : ByteArray) (d : Bool) (F : CutFacts a b W D d) :
    D.size = a.size + 1 ∧ (∀ h : a.size < D.size, D[a.size] = 95) ∧ (∀ i (h : i < W.size), ¬ (65 ≤ W[i].toNat ∧ W[i].toNat ≤ 90)) ∧
    W.size = (if d then a.size + b.size - 1 else a.size + b.size) ∧ (d = true → 1 ≤ a.size + b.size) := by
  obtain ⟨rfl, rfl, rfl⟩ := F
  refine ⟨head_size a, head_last a _ (head_data a), okey_not (a ++ b), ?_, ?_⟩
  · rw [okey_size, app_size]
  · intro e
    rcases Nat.lt_or_ge (a.size + b.size) 1 with h | h
    · have hs : (a ++ b).size = 0 := by rw [app_size]; omega
      unfold endsDot at e
      rw [List.eq_nil_of_length_eq_zero (l := (a ++ b).data.toList) (by rw [← Lib.size_eq]; exact hs)] at e
      cases e
    · exact h

set_option maxRecDepth 100000 in
set_option maxHeartbeats 1000000 in
theorem cut_main (a b W D : ByteArray) (d : Bool) (F0 : CutFacts a b W D d) (w : World) (h1 : a.size ≤ 65536) (h2 : b.size ≤ 65536) :
    Calls Try.prog 4 #[.string a, .string b] w fun e w' => e = .returned (.bool true) ∧ Below w.heap.size w w' := by
  have F : Hid (CutFacts a b W D d) := F0
  have g1 : decide ((65536 : Int) < a.size) = false := decide_eq_false (by omega)
  have g2 : decide ((65536 : Int) < b.size) = false := decide_eq_false (by omega)
  obtain ⟨hDs, hDl, HW0, hWs, hab⟩ := cut_facts a b W D d F0
  have HW : Hid (∀ i (h : i < W.size), ¬ (65 ≤ W[i].toNat ∧ W[i].toNat ≤ 90)) := HW0
  have hlt : a.size < D.size := by omega
  have n3 : ((D[a.size].toNat : Int) != 95) = false := by rw [hDl hlt]; rfl
  have n2 : ((D.size : Int) != (a.size : Int) + 1) = false := by rw [hDs]; simp
  have hlt' : (a.size : Int) < D.size := by omega
  have hu : (a ++ (⟨#[95]⟩ : ByteArray)).size ≤ 1000000 := by rw [low_size]; omega
  have hDl' : Hid (D.size = a.size + 1) := hDs
  clear F0 hDl HW0 hDs
  cases d with
  | true =>
    have hab' := hab rfl
    have n1 : ((W.size : Int) != (a.size : Int) + b.size - 1) = false := by
      rw [hWs]; simp; omega
    have hWs' : Hid (W.size = a.size + b.size - 1) := hWs
    have hWle : W.size ≤ 131072 := by rw [hWs'.out]; omega
    clear hWs hab
    go_enter Try.func4, Try.ntmps4
    go_wp2_with fail
    refine (zzBytesB_calls a b w).mono ?_
    rintro e w1 ⟨⟨b', rfl⟩, rfl⟩
    cases b' with
    | false =>
      go_wp2
      go_ret
      exact ⟨rfl, Below.refl _ _⟩
    | true =>
    go_wp2_with fail
    refine (zzOwnerKey_calls (a ++ b) _ (by rw [app_size]; omega)).mono ?_
    rintro e w2 ⟨rfl, hb2⟩
    rw [← F.out.W]
    go_wp2_with fail
    refine (zzOwnerKey_calls _ _ hu).mono ?_
    rintro e w3 ⟨rfl, hb3⟩
    rw [← F.out.D]
    go_wp2_with fail
    refine (endsDot_calls (a ++ b) _ (by rw [app_size]; omega)).mono ?_
    rintro e w4 ⟨rfl, rfl⟩
    rw [← F.out.d]
    go_wp2_with fail
    go_loopw [8] (fun i w' => ∃ k : Nat, i = .int .i64 k ∧ k ≤ W.size ∧ w' = w4) (fun i _ => W.size - (intOf i).toNat)
    case atStart => exact ⟨0, rfl, by omega, rfl⟩
    case round =>
      obtain ⟨k, rfl, hkn, rfl⟩ := hrel
      by_cases hk : k < W.size
      · have hk' : (k : Int) < W.size := by omega
        have hno := HW.out k hk
        by_cases u1 : 65 ≤ W[k].toNat
        · have u1' : (65 : Int) ≤ W[k].toNat := by omega
          have u2' : ¬ (W[k].toNat : Int) ≤ 90 := by omega
          go_wp2
          go_roundw
          case rel => exact ⟨k + 1, by go_num, by omega, trivial⟩
          case measure => simp [intOf]; omega
        · have u1' : decide ((65 : Int) ≤ W[k].toNat) = false := by simp; omega
          go_wp2
          go_roundw
          case rel => exact ⟨k + 1, by go_num, by omega, trivial⟩
          case measure => simp [intOf]; omega
      · by_cases hb0 : b.size = 0
        · have hb0' : (b.size : Int) = 0 := by omega
          have hle : a.size - 1 ≤ D.size := by omega
          have hle' : ((a.size - 1 : Nat) : Int) ≤ D.size := by omega
          have e7 : ((a.size : Int) + b.size - 1) = ((a.size - 1 : Nat) : Int) := by omega
          rw [e7]
          go_wp2
          go_ret
          refine ⟨congrArg (fun b => Ending.returned (.bool b)) ?_, hb2.trans (hb3.mono hb2.size)⟩
          show (W.toList == (D.extract 0 (a.size - 1)).toList) = true
          rw [beq_iff_eq, F.out.W, F.out.D]
          have := cut_nil a b hb0
          rw [← F.out.d, if_pos rfl] at this
          exact this
        · have hb0' : ((b.size : Int) == 0) = false := by rw [beq_eq_false_iff_ne]; omega
          go_wp2_with fail
          have hb' : b.size ≤ 1000000 := by omega
          have hle : a.size ≤ D.size := by omega
          have hle' : (a.size : Int) ≤ D.size := by omega
          have hadd : (D.extract 0 a.size).size + (okey b).size ≤ 9223372036854775807 := by
            rw [ByteArray.size_extract, okey_size]; split <;> omega
          have hadd2 : ¬ (9223372036854775807 < (D.extract 0 a.size).size + (okey b).size) := by omega
          have hadd3 : ¬ (9223372036854775807 < min a.size D.size + (okey b).size) := by
            rw [okey_size]; split <;> omega
          have hadd4 : ¬ (9223372036854775807 < a.size + (okey b).size) := by
            rw [okey_size]; split <;> omega
          go_region_with (go_at_call 6; refine (zzOwnerKey_calls b wr.drew hb').mono ?_; rintro e w5 ⟨rfl, hb5⟩)
          all_goals
            go_wp2
            go_ret
            refine ⟨congrArg (fun b => Ending.returned (.bool b)) ?_, hb2.trans ((hb3.drew.trans (hb5.mono hb3.size)).mono hb2.size)⟩
            show (W.toList == (D.extract 0 a.size ++ okey b).toList) = true
            rw [beq_iff_eq, F.out.W, F.out.D]
            exact cut_cons a b (by omega)
  | false =>
    have n1 : ((W.size : Int) != (a.size : Int) + b.size) = false := by
      rw [hWs]; simp
    have hWs' : Hid (W.size = a.size + b.size) := hWs
    have hWle : W.size ≤ 131072 := by rw [hWs'.out]; omega
    clear hWs hab
    go_enter Try.func4, Try.ntmps4
    go_wp2_with fail
    refine (zzBytesB_calls a b w).mono ?_
    rintro e w1 ⟨⟨b', rfl⟩, rfl⟩
    cases b' with
    | false =>
      go_wp2
      go_ret
      exact ⟨rfl, Below.refl _ _⟩
    | true =>
    go_wp2_with fail
    refine (zzOwnerKey_calls (a ++ b) _ (by rw [app_size]; omega)).mono ?_
    rintro e w2 ⟨rfl, hb2⟩
    rw [← F.out.W]
    go_wp2_with fail
    refine (zzOwnerKey_calls _ _ hu).mono ?_
    rintro e w3 ⟨rfl, hb3⟩
    rw [← F.out.D]
    go_wp2_with fail
    refine (endsDot_calls (a ++ b) _ (by rw [app_size]; omega)).mono ?_
    rintro e w4 ⟨rfl, rfl⟩
    rw [← F.out.d]
    go_wp2_with fail
    go_loopw [8] (fun i w' => ∃ k : Nat, i = .int .i64 k ∧ k ≤ W.size ∧ w' = w4) (fun i _ => W.size - (intOf i).toNat)
    case atStart => exact ⟨0, rfl, by omega, rfl⟩
    case round =>
      obtain ⟨k, rfl, hkn, rfl⟩ := hrel
      by_cases hk : k < W.size
      · have hk' : (k : Int) < W.size := by omega
        have hno := HW.out k hk
        by_cases u1 : 65 ≤ W[k].toNat
        · have u1' : (65 : Int) ≤ W[k].toNat := by omega
          have u2' : ¬ (W[k].toNat : Int) ≤ 90 := by omega
          go_wp2
          go_roundw
          case rel => exact ⟨k + 1, by go_num, by omega, trivial⟩
          case measure => simp [intOf]; omega
        · have u1' : decide ((65 : Int) ≤ W[k].toNat) = false := by simp; omega
          go_wp2
          go_roundw
          case rel => exact ⟨k + 1, by go_num, by omega, trivial⟩
          case measure => simp [intOf]; omega
      · by_cases hb0 : b.size = 0
        · have hb0' : (b.size : Int) = 0 := by omega
          have hle : a.size ≤ D.size := by omega
          have hle' : (a.size : Int) ≤ D.size := by omega
          have e7 : ((a.size : Int) + b.size) = (a.size : Int) := by omega
          rw [e7]
          go_wp2
          go_ret
          refine ⟨congrArg (fun b => Ending.returned (.bool b)) ?_, hb2.trans (hb3.mono hb2.size)⟩
          show (W.toList == (D.extract 0 (a.size)).toList) = true
          rw [beq_iff_eq, F.out.W, F.out.D]
          have := cut_nil a b hb0
          rw [← F.out.d, if_neg (by decide)] at this
          exact this
        · have hb0' : ((b.size : Int) == 0) = false := by rw [beq_eq_false_iff_ne]; omega
          go_wp2_with fail
          have hb' : b.size ≤ 1000000 := by omega
          have hle : a.size ≤ D.size := by omega
          have hle' : (a.size : Int) ≤ D.size := by omega
          have hadd : (D.extract 0 a.size).size + (okey b).size ≤ 9223372036854775807 := by
            rw [ByteArray.size_extract, okey_size]; split <;> omega
          have hadd2 : ¬ (9223372036854775807 < (D.extract 0 a.size).size + (okey b).size) := by omega
          have hadd3 : ¬ (9223372036854775807 < min a.size D.size + (okey b).size) := by
            rw [okey_size]; split <;> omega
          have hadd4 : ¬ (9223372036854775807 < a.size + (okey b).size) := by
            rw [okey_size]; split <;> omega
          go_region_with (go_at_call 6; refine (zzOwnerKey_calls b wr.drew hb').mono ?_; rintro e w5 ⟨rfl, hb5⟩)
          all_goals
            go_wp2
            go_ret
            refine ⟨congrArg (fun b => Ending.returned (.bool b)) ?_, hb2.trans ((hb3.drew.trans (hb5.mono hb3.size)).mono hb2.size)⟩
            show (W.toList == (D.extract 0 a.size ++ okey b).toList) = true
            rw [beq_iff_eq, F.out.W, F.out.D]
            exact cut_cons a b (by omega)

set_option maxHeartbeats 1000000 in
theorem split_calls (a b : ByteArray) (w : World) :
    Calls Try.prog 4 #[.string a, .string b] w fun e w' => e = .returned (.bool true) ∧ Below w.heap.size w w' := by
  by_cases h1 : a.size ≤ 65536
  · by_cases h2 : b.size ≤ 65536
    · exact cut_main a b _ _ _ ⟨rfl, rfl, rfl⟩ w h1 h2
    · have g1 : decide ((65536 : Int) < a.size) = false := decide_eq_false (by omega)
      have g2 : decide ((65536 : Int) < b.size) = true := decide_eq_true (by omega)
      have g2' : (65536 : Int) < b.size := by omega
      go_enter Try.func4, Try.ntmps4
      go_wp2_with fail
      refine (zzBytesB_calls a b w).mono ?_
      rintro e w1 ⟨⟨b', rfl⟩, rfl⟩
      cases b' with
      | false =>
        go_wp2
        go_ret
        exact ⟨rfl, Below.refl _ _⟩
      | true =>
        go_wp2
        go_ret
        exact ⟨rfl, Below.refl _ _⟩
  · have g1 : (65536 : Int) < a.size := by omega
    go_enter Try.func4, Try.ntmps4
    go_wp2_with fail
    refine (zzBytesB_calls a b w).mono ?_
    rintro e w1 ⟨⟨b', rfl⟩, rfl⟩
    cases b' with
    | false =>
      go_wp2
      go_ret
      exact ⟨rfl, Below.refl _ _⟩
    | true =>
      go_wp2
      go_ret
      exact ⟨rfl, Below.refl _ _⟩
end Go.Proofs.Qxb6614347a
