/-
  WALKS of seat b6614095a: sort.rotate.
-/
import Derived.Test.Qxb6614095aSortA

namespace Go.Proofs.Qxb6614095a
open Go.RowKit

set_option maxHeartbeats 1000000 in
theorem rotate_calls (w : World) (B n : Nat) (P X Y S : List M) (a m b : Int) (ha : a = P.length) (hm : m = P.length + X.length) (hb : b = P.length + X.length + Y.length) 
    (H : Holds w B (P ++ (X ++ (Y ++ S)))) (hn : (P ++ (X ++ (Y ++ S))).length = n) (hb40 : n ≤ 1099511627776) (hX : 0 < X.length) (hY : 0 < Y.length) :
    Calls Try.prog 20 #[.iface 42 (.slice (some ⟨B, 0, none⟩) n n), .int .i64 a, .int .i64 m, .int .i64 b] w fun e w' => e = .returned (.tuple #[]) ∧ Moved B (P ++ (Y ++ (X ++ S))) w w' := by
    have hn2 : P.length + X.length + Y.length + S.length = n := by simp at hn; omega
    have a0 : 0 ≤ a := by omega
    have a1 : a ≤ m := by omega
    have m1 : m ≤ b := by omega
    have b1 : b ≤ 1099511627776 := by omega
    have E : Hid (a = P.length ∧ m = P.length + X.length ∧ b = P.length + X.length + Y.length ∧ P.length + X.length + Y.length + S.length = n) := ⟨ha, hm, hb, hn2⟩
    clear hn ha hm hb hn2
    go_enter Try.func20, Try.ntmps20
    go_wp2
    go_loopw [8, 9] (fun i j w' => ∃ P' X' Y' S' : List M, P' ++ (Y' ++ (X' ++ S')) = P ++ (Y ++ (X ++ S)) ∧ m = P'.length + X'.length ∧ 0 < X'.length ∧ 0 < Y'.length ∧ P'.length + X'.length + Y'.length + S'.length = n ∧ i = .int .i64 X'.length ∧ j = .int .i64 Y'.length ∧ Moved B (P' ++ (X' ++ (Y' ++ S'))) w w') (fun i j _ => (intOf i).toNat + (intOf j).toNat)
    case atStart =>
      obtain ⟨ha, hm, hb, hn2⟩ := E.out
      exact ⟨P, X, Y, S, rfl, hm, hX, hY, hn2, by congr 1; omega, by congr 1; omega, Moved.refl H⟩
    case round =>
      obtain ⟨P', X', Y', S', hfin, hm', hX', hY', hn', rfl, rfl, hmv⟩ := hrel
      have hl1 : P'.length + X'.length + Y'.length + S'.length ≤ 1099511627776 := by omega
      have F : Hid (P' ++ (Y' ++ (X' ++ S')) = P ++ (Y ++ (X ++ S)) ∧ m = P'.length + X'.length ∧ P'.length + X'.length + Y'.length + S'.length = n) := ⟨hfin, hm', hn'⟩
      have hm2 : (X'.length : Int) ≤ m := by omega
      clear hfin hm' hn'
      by_cases hij : X'.length = Y'.length
      · have hij' : (((X'.length : Nat) : Int) != (Y'.length : Int)) = false := by simp [hij]
        have HIJ : Hid (X'.length = Y'.length) := hij
        clear hij
        go_wp2_with fail
        obtain ⟨hfin, hm', hn'⟩ := F.out
        have hij := HIJ.out
        refine (swapRange_calls wr B n P' X' [] Y' S' _ _ _ (by omega) (by simp; omega) rfl hij (by simpa using hmv.here) (by simp; omega) hb40).mono ?_
        rintro e w' ⟨rfl, hmv'⟩
        simp only [List.nil_append] at hmv'
        rw [hfin] at hmv'
        clear hfin hm' hn' hij
        go_wp2
        go_end0
        exact ⟨rfl, hmv.trans hmv'⟩
      · have hij' : (((X'.length : Nat) : Int) != (Y'.length : Int)) = true := by simp; omega
        by_cases hgt : Y'.length < X'.length
        · have hgt' : ((Y'.length : Nat) : Int) < (X'.length : Int) := by omega
          obtain ⟨X1, X2, hX12, hX1⟩ : ∃ X1 X2, X' = X1 ++ X2 ∧ X1.length = Y'.length := ⟨X'.take Y'.length, X'.drop Y'.length, by simp, by simp; omega⟩
          have HX : Hid (X' = X1 ++ X2 ∧ X1.length = Y'.length ∧ X'.length = X1.length + X2.length) := ⟨hX12, hX1, by rw [hX12]; simp⟩
          clear hX12 hX1
          go_wp2_with fail
          obtain ⟨hfin, hm', hn'⟩ := F.out
          obtain ⟨hX12, hX1, hX3⟩ := HX.out
          refine (swapRange_calls wr B n P' X1 X2 Y' S' _ _ _ (by omega) (by omega) (by omega) hX1 (by have := hmv.here; rw [hX12] at this; simpa using this) (by simp; omega) hb40).mono ?_
          rintro e w' ⟨rfl, hmv'⟩
          clear hfin hm' hn' hX12 hX1 hX3
          go_wp2
          go_roundw
          case rel =>
            obtain ⟨hfin, hm', hn'⟩ := F.out
            obtain ⟨hX12, hX1, hX3⟩ := HX.out
            exact ⟨P' ++ Y', X2, X1, S', by rw [← hfin, hX12]; simp, by simp; omega, by omega, by omega, by simp; omega, by congr 1; omega, by congr 1; omega, by simpa using hmv.trans hmv'⟩
          case measure =>
            obtain ⟨hX12, hX1, hX3⟩ := HX.out
            simp [intOf]; omega
        · have hgt' : ¬ ((Y'.length : Nat) : Int) < (X'.length : Int) := by omega
          obtain ⟨Y1, Y2, hY12, hY2⟩ : ∃ Y1 Y2, Y' = Y1 ++ Y2 ∧ Y2.length = X'.length := ⟨Y'.take (Y'.length - X'.length), Y'.drop (Y'.length - X'.length), by simp, by simp; omega⟩
          have HY : Hid (Y' = Y1 ++ Y2 ∧ Y2.length = X'.length ∧ Y'.length = Y1.length + Y2.length) := ⟨hY12, hY2, by rw [hY12]; simp⟩
          clear hY12 hY2
          go_wp2_with fail
          obtain ⟨hfin, hm', hn'⟩ := F.out
          obtain ⟨hY12, hY2, hY3⟩ := HY.out
          refine (swapRange_calls wr B n P' X' Y1 Y2 S' _ _ _ (by omega) (by omega) (by omega) hY2.symm (by have := hmv.here; rw [hY12] at this; simpa using this) (by simp; omega) hb40).mono ?_
          rintro e w' ⟨rfl, hmv'⟩
          clear hfin hm' hn' hY12 hY2 hY3
          go_wp2
          go_roundw
          case rel =>
            obtain ⟨hfin, hm', hn'⟩ := F.out
            obtain ⟨hY12, hY2, hY3⟩ := HY.out
            exact ⟨P', Y2, Y1, X' ++ S', by rw [← hfin, hY12]; simp, by omega, by omega, by omega, by simp; omega, by congr 1; omega, by congr 1; omega, by simpa using hmv.trans hmv'⟩
          case measure =>
            obtain ⟨hY12, hY2, hY3⟩ := HY.out
            simp [intOf]; omega
end Go.Proofs.Qxb6614095a
