/-
  WALKS of seat b6614095a: sort.stable, sort.Stable.
-/
import Derived.Test.Qxb6614095aSortF
import Derived.Test.Qxb6614095aPlainD

namespace Go.Proofs.Qxb6614095a
open Go.RowKit

set_option maxRecDepth 100000 in
set_option maxHeartbeats 2000000 in
theorem stable_calls (w : World) (B n : Nat) (L : List M) (H : Holds w B L) (hn : L.length = n) (hb40 : n ≤ 1099511627776) :
    Calls Try.prog 17 #[.iface 42 (.slice (some ⟨B, 0, none⟩) n n), .int .i64 n] w fun e w' => e = .returned (.tuple #[]) ∧ ∃ Z, Srt Z ∧ Same L Z ∧ Moved B Z w w' := by
    have E : Hid (L.length = n) := hn
    clear hn
    go_enter Try.func17, Try.ntmps17
    go_wp2
    go_loopw [5, 6] (fun a b w' => ∃ (k t : Nat) (D R : List M), a = .int .i64 k ∧ b = .int .i64 (k + 20) ∧ k = t * 20 ∧ D.length = k ∧ k + R.length = n ∧ BS 20 D ∧ Same L (D ++ R) ∧ Moved B (D ++ R) w w') (fun a _ _ => n - (intOf a).toNat)
    case atStart => exact ⟨0, 0, [], L, rfl, rfl, rfl, rfl, by have := E.out; omega, bs_nil _, Same.refl _, Moved.refl H⟩
    case round =>
      obtain ⟨k, t, D, R, rfl, rfl, hk, hD, hR, hbs, hsame, hmv⟩ := hrel
      have F : Hid (k = t * 20 ∧ D.length = k ∧ k + R.length = n) := ⟨hk, hD, hR⟩
      have hkn : k ≤ n := by omega
      clear hk hD hR
      by_cases hlt : (k : Int) + 20 ≤ n
      · go_wp2_with fail
        have hR : R = R.take 20 ++ R.drop 20 := by simp
        refine (insertionSort_calls wr B n D (R.take 20) (R.drop 20) _ _ ?_ ?_ (by simpa using hmv.here) ?_ hb40).mono ?_
        · have := F.out; omega
        · have := F.out; simp; omega
        · have := F.out; simp; omega
        rintro e w' ⟨rfl, Z, sZ, mZ, hm2⟩
        clear hR
        go_wp2
        go_roundw
        case rel =>
          obtain ⟨hk, hD, hR⟩ := F.out
          have hZ := same_length mZ
          simp at hZ
          refine ⟨k + 20, t + 1, D ++ Z, R.drop 20, by go_num, by go_num, by omega, by simp; omega, by simp; omega, bs_append (t := t) (by omega) hbs sZ, ?_, by simpa using hmv.trans hm2⟩
          refine hsame.trans ?_
          have h := Same.append (Same.refl D) (Same.append mZ (Same.refl (R.drop 20)))
          simpa using h
        case measure => simp [intOf]; omega
      · go_wp2_with fail
        refine (insertionSort_calls wr B n D R [] _ _ ?_ ?_ (by simpa using hmv.here) ?_ hb40).mono ?_
        · have := F.out; omega
        · have := F.out; omega
        · have := F.out; simp; omega
        rintro e w' ⟨rfl, Z, sZ, mZ, hm2⟩
        obtain ⟨L1, hL1, hbs1, hsame1, hmv1⟩ : ∃ L1 : List M, Hid (L1.length = n) ∧ BS 20 L1 ∧ Same L L1 ∧ Moved B L1 w w' := by
          obtain ⟨hk, hD, hR⟩ := F.out
          have hZ := same_length mZ
          refine ⟨D ++ Z, (by simp; omega : (D ++ Z).length = n), bs_append (t := t) (by omega) hbs sZ, hsame.trans (Same.append (Same.refl D) mZ), by simpa using hmv.trans hm2⟩
        clear F hkn hlt hbs hsame hmv sZ mZ hm2
        go_wp2
        go_loopw [4, 5, 6, 7] (fun bs _ _ _ w' => ∃ (s : Nat) (L1 : List M), bs = .int .i64 s ∧ 20 ≤ s ∧ s ≤ 2 * n + 20 ∧ L1.length = n ∧ BS s L1 ∧ Same L L1 ∧ Moved B L1 w w') (fun bs _ _ _ _ => n - (intOf bs).toNat)
        case atStart => exact ⟨20, L1, rfl, by omega, by omega, hL1.out, hbs1, hsame1, hmv1⟩
        case round =>
          clear hL1 hbs1 hsame1 hmv1
          obtain ⟨s, L2, rfl, hs20, hsn, hL2, hbs2, hsame2, hmv2⟩ := hrel
          have G : Hid (L2.length = n) := hL2
          clear hL2
          by_cases hlt : (s : Int) < n
          · go_wp2
            go_loopw [5, 6] (fun a b w' => ∃ (k t : Nat) (D R : List M), a = .int .i64 k ∧ b = .int .i64 (k + 2 * s) ∧ D.length = t * (2 * s) ∧ D.length = k ∧ k + R.length = n ∧ BS (2 * s) D ∧ BS s R ∧ Same L (D ++ R) ∧ Moved B (D ++ R) w w') (fun a _ _ => n - (intOf a).toNat)
            case atStart => exact ⟨0, 0, [], L2, rfl, by simp, by simp, rfl, by have := G.out; omega, bs_nil _, hbs2, hsame2, hmv2⟩
            case round =>
              clear hbs2 hsame2 hmv2 G
              obtain ⟨k, t, D, R, rfl, rfl, hDt, hD, hR, hbs, hbsR, hsame, hmv⟩ := hrel
              have F : Hid (D.length = t * (2 * s) ∧ D.length = k ∧ k + R.length = n) := ⟨hDt, hD, hR⟩
              have hkn : k ≤ n := by omega
              clear hDt hD hR
              by_cases hlt2 : (k : Int) + 2 * s ≤ n
              · go_wp2_with fail
                refine (symMerge_calls wr B n D (R.take s) ((R.drop s).take s) ((R.drop s).drop s) _ _ _ ?_ ?_ ?_ (bs_first hbsR) (bs_first (bs_drop hbsR)) ?_ ?_ ?_ ?_ hb40).mono ?_
                · have := F.out; omega
                · have := F.out; simp; omega
                · have := F.out; simp; omega
                · have := F.out; simp; omega
                · have := F.out; simp; omega
                · have := hmv.here; rw [List.take_append_drop, List.take_append_drop]; exact this
                · have := F.out; simp; omega
                rintro e w' ⟨rfl, Z, sZ, mZ, hm2⟩
                go_wp2
                go_roundw
                case rel =>
                  obtain ⟨hDt, hD, hR⟩ := F.out
                  have hZ := same_length mZ
                  simp at hZ
                  refine ⟨k + 2 * s, t + 1, D ++ Z, (R.drop s).drop s, by go_num, by go_num, ?_, by simp; omega, by simp; omega, bs_append (t := t) hDt hbs sZ, bs_drop (bs_drop hbsR), ?_, by simpa using hmv.trans hm2⟩
                  · rw [Nat.succ_mul]; simp; omega
                  · refine hsame.trans ?_
                    have h := Same.append (Same.refl D) (Same.append mZ (Same.refl ((R.drop s).drop s)))
                    rw [List.append_assoc, List.take_append_drop, List.take_append_drop] at h
                    simpa using h
                case measure => simp [intOf]; omega
              · by_cases hlt3 : (k : Int) + s < n
                · go_wp2_with fail
                  refine (symMerge_calls wr B n D (R.take s) (R.drop s) [] _ _ _ ?_ ?_ ?_ (bs_first hbsR) (bs_whole (bs_drop hbsR) ?_) ?_ ?_ ?_ ?_ hb40).mono ?_
                  · have := F.out; omega
                  · have := F.out; simp; omega
                  · have := F.out; simp; omega
                  · have := F.out; simp; omega
                  · have := F.out; simp; omega
                  · have := F.out; simp; omega
                  · have := hmv.here; rw [List.append_nil, List.take_append_drop]; exact this
                  · have := F.out; simp; omega
                  rintro e w' ⟨rfl, Z, sZ, mZ, hm2⟩
                  go_wp2
                  go_roundw
                  case rel =>
                    obtain ⟨hDt, hD, hR⟩ := F.out
                    have hZ := same_length mZ
                    simp at hZ
                    refine ⟨s * 2, D ++ Z, by go_num, by omega, by omega, by simp; omega, ?_, ?_, by simpa using hmv.trans hm2⟩
                    · rw [Nat.mul_comm]; exact bs_append (t := t) hDt hbs sZ
                    · refine hsame.trans ?_
                      have h := Same.append (Same.refl D) mZ
                      rw [List.take_append_drop] at h
                      exact h
                  case measure => simp [intOf]; omega
                · go_wp2
                  go_roundw
                  case rel =>
                    obtain ⟨hDt, hD, hR⟩ := F.out
                    refine ⟨s * 2, D ++ R, by go_num, by omega, by omega, by simp; omega, ?_, hsame, hmv⟩
                    rw [Nat.mul_comm]; exact bs_append (t := t) hDt hbs (bs_whole hbsR (by omega))
                  case measure => simp [intOf]; omega
          · go_wp2
            go_end0
            exact ⟨rfl, L2, bs_whole hbs2 (by have := G.out; omega), hsame2, hmv2⟩

set_option maxHeartbeats 400000 in
theorem Stable_calls (w : World) (B n : Nat) (L : List M) (H : Holds w B L) (hn : L.length = n) (hb40 : n ≤ 1099511627776) :
    Calls Try.prog 16 #[.iface 42 (.slice (some ⟨B, 0, none⟩) n n)] w fun e w' => e = .returned (.tuple #[]) ∧ ∃ Z, Srt Z ∧ Same L Z ∧ Moved B Z w w' := by
  have hml := m_len
  go_enter Try.func16, Try.ntmps16
  go_wp2_with fail
  refine (len_calls w B n).mono ?_
  rintro e w' ⟨rfl, rfl⟩
  go_wp2_with fail
  refine (stable_calls _ B n L H hn hb40).mono ?_
  rintro e w1 ⟨rfl, Z, sZ, mZ, hm⟩
  go_wp2
  go_end0
  exact ⟨rfl, Z, sZ, mZ, hm⟩
#print axioms Stable_calls
end Go.Proofs.Qxb6614095a
