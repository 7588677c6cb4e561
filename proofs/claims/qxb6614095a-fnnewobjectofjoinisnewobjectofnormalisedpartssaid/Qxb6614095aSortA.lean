/-
  WALKS of seat b6614095a: byKey's three methods, sort.swapRange.
-/
import Derived.Test.Qxb6614095aWorld
import Derived.Deep.QuietTactic
import Derived.BigQuiet
import Derived.RegionTactic
namespace Go.Proofs.Qxb6614095a
open Go.RowKit
theorem Try.cells31 : Try.prog.cellsOf 31 = 2 := by kernel_rfl

set_option maxHeartbeats 400000 in
theorem len_calls (w : World) (B n : Nat) :
    Calls Try.prog 39 #[.slice (some ⟨B, 0, none⟩) n n] w fun e w' => e = .returned (.int .i64 n) ∧ w' = w := by
    go_enter Try.func39, Try.ntmps39
    go_wp2
    go_ret
    exact ⟨rfl, rfl⟩

set_option maxHeartbeats 400000 in
theorem less_calls (w : World) (B n i j : Nat) (ms : List M) (H : Holds w B ms) (hn : ms.length = n) (x y : M) (hi : ms[i]? = some x) (hj : ms[j]? = some y) :
    Calls Try.prog 40 #[.slice (some ⟨B, 0, none⟩) n n, .int .i64 i, .int .i64 j] w fun e w' => e = .returned (.bool (lt x y)) ∧ ∃ k, w' = w.drewN k := by
    have hx := H.key hi
    have hy := H.key hj
    have hi' : (i : Int) < n := by have := (List.getElem?_eq_some_iff.1 hi).1; omega
    have hj' : (j : Int) < n := by have := (List.getElem?_eq_some_iff.1 hj).1; omega
    unfold lt klt
    clear H hi hj
    go_enter Try.func40, Try.ntmps40
    go_wp2
    go_quiet (fail)
    go_wp2
    go_ret
    exact ⟨rfl, _, rfl⟩

set_option maxHeartbeats 400000 in
theorem swap_calls (w : World) (B n i j : Nat) (ms : List M) (H : Holds w B ms) (hn : ms.length = n) (x y : M) (hi : ms[i]? = some x) (hj : ms[j]? = some y) (hij : i ≠ j) :
    Calls Try.prog 41 #[.slice (some ⟨B, 0, none⟩) n n, .int .i64 i, .int .i64 j] w fun e w' => e = .returned (.tuple #[]) ∧ Moved B ((ms.set i y).set j x) w w' := by
    have hx := H.key hi
    have hy := H.key hj
    have hx2 := H.val hi
    have hy2 := H.val hj
    have fx := H.thawed
    have hi' : (i : Int) < n := by have := (List.getElem?_eq_some_iff.1 hi).1; omega
    have hj' : (j : Int) < n := by have := (List.getElem?_eq_some_iff.1 hj).1; omega
    have hm := set_set_moved H i j y x
    have h1 : ¬ (i * 2 = j * 2) := by omega
    have h2 : ¬ i*2 = j*2+1 := by omega
    have h3 : ¬ i*2+1 = j*2 := by omega
    have h4 : ¬ i*2+1 = j*2+1 := by omega
    have h1' : ¬ (j * 2 = i * 2) := by omega
    have h2' : ¬ j*2 = i*2+1 := by omega
    have h3' : ¬ j*2+1 = i*2 := by omega
    have h4' : ¬ j*2+1 = i*2+1 := by omega
    clear H hi hj hij
    go_enter Try.func41, Try.ntmps41
    go_wp2
    go_region
    all_goals go_end0
    all_goals exact ⟨rfl, hm⟩


theorem get_mid {α : Type} (A B : List α) (x : α) : (A ++ x :: B)[A.length]? = some x := by simp
theorem set_mid {α : Type} (A B : List α) (x y : α) : (A ++ x :: B).set A.length y = A ++ y :: B := by simp

/-- Swap, told by the parts of the row. -/
theorem swap_up (w : World) (B n : Nat) (P Q S : List M) (x y : M) (ii jj : Int) (hi : ii = P.length) (hj : jj = P.length + 1 + Q.length)
    (H : Holds w B (P ++ x :: (Q ++ y :: S))) (hn : (P ++ x :: (Q ++ y :: S)).length = n) :
    Calls Try.prog 41 #[.slice (some ⟨B, 0, none⟩) n n, .int .i64 ii, .int .i64 jj] w fun e w' => e = .returned (.tuple #[]) ∧ Moved B (P ++ y :: (Q ++ x :: S)) w w' := by
  have hj' : jj = ((P.length + 1 + Q.length : Nat) : Int) := by omega
  subst hi hj'
  have e : P ++ x :: (Q ++ y :: S) = (P ++ x :: Q) ++ y :: S := by simp
  have el : P.length + 1 + Q.length = (P ++ x :: Q).length := by simp; omega
  have el' : P.length + 1 + Q.length = (P ++ y :: Q).length := by simp; omega
  have := swap_calls w B n P.length (P.length + 1 + Q.length) _ H hn x y (get_mid _ _ _) (by rw [e, el]; exact get_mid _ _ _) (by omega)
  rw [set_mid, el', show P ++ y :: (Q ++ y :: S) = (P ++ y :: Q) ++ y :: S from by simp, set_mid, ← el', show (P ++ y :: Q) ++ x :: S = P ++ y :: (Q ++ x :: S) from by simp] at this
  exact this
theorem swap_down (w : World) (B n : Nat) (P Q S : List M) (x y : M) (ii jj : Int) (hi : ii = P.length) (hj : jj = P.length + 1 + Q.length)
    (H : Holds w B (P ++ x :: (Q ++ y :: S))) (hn : (P ++ x :: (Q ++ y :: S)).length = n) :
    Calls Try.prog 41 #[.slice (some ⟨B, 0, none⟩) n n, .int .i64 jj, .int .i64 ii] w fun e w' => e = .returned (.tuple #[]) ∧ Moved B (P ++ y :: (Q ++ x :: S)) w w' := by
  have hj' : jj = ((P.length + 1 + Q.length : Nat) : Int) := by omega
  subst hi hj'
  have e : P ++ x :: (Q ++ y :: S) = (P ++ x :: Q) ++ y :: S := by simp
  have el : P.length + 1 + Q.length = (P ++ x :: Q).length := by simp; omega
  have := swap_calls w B n (P.length + 1 + Q.length) P.length _ H hn y x (by rw [e, el]; exact get_mid _ _ _) (get_mid _ _ _) (by omega)
  rw [e, el, set_mid, ← el, show (P ++ x :: Q) ++ x :: S = P ++ x :: (Q ++ x :: S) from by simp, set_mid] at this
  exact this

theorem m_len (a : Option Addr) (n c : Nat) (w : World) : (method 169 42 (.slice a n c) "Len").run Try.prog w = .ok (39, .slice a n c) w := by kernel_rfl
theorem m_less (a : Option Addr) (n c : Nat) (w : World) : (method 169 42 (.slice a n c) "Less").run Try.prog w = .ok (40, .slice a n c) w := by kernel_rfl
theorem m_swap (a : Option Addr) (n c : Nat) (w : World) : (method 169 42 (.slice a n c) "Swap").run Try.prog w = .ok (41, .slice a n c) w := by kernel_rfl

set_option maxHeartbeats 400000 in
theorem swapRange_calls (w : World) (B n : Nat) (P X Q Y S : List M) (a b c : Int) (ha : a = P.length) (hb : b = P.length + X.length + Q.length) (hc : c = X.length) (hXY : X.length = Y.length)
    (H : Holds w B (P ++ (X ++ (Q ++ (Y ++ S))))) (hn : (P ++ (X ++ (Q ++ (Y ++ S)))).length = n) (hb40 : n ≤ 1099511627776) :
    Calls Try.prog 21 #[.iface 42 (.slice (some ⟨B, 0, none⟩) n n), .int .i64 a, .int .i64 b, .int .i64 c] w fun e w' => e = .returned (.tuple #[]) ∧ Moved B (P ++ (Y ++ (Q ++ (X ++ S)))) w w' := by
    have hms := m_swap
    have hn2 : P.length + X.length + Q.length + Y.length + S.length = n := by simp at hn; omega
    have a0 : 0 ≤ a ∧ a ≤ 1099511627776 := by omega
    have b0 : 0 ≤ b ∧ b ≤ 1099511627776 := by omega
    have c0 : 0 ≤ c ∧ c ≤ 1099511627776 := by omega
    obtain ⟨a0, a1⟩ := a0
    obtain ⟨b0, b1⟩ := b0
    obtain ⟨c0, c1⟩ := c0
    have E : Hid (a = P.length ∧ b = P.length + X.length + Q.length ∧ c = X.length ∧ X.length = Y.length ∧ P.length + X.length + Q.length + Y.length + S.length = n) := ⟨ha, hb, hc, hXY, hn2⟩
    clear hn ha hb hc hXY hn2
    go_enter Try.func21, Try.ntmps21
    go_wp2
    go_loopw [8] (fun i w' => ∃ X1 X2 Y1 Y2 : List M, X = X1 ++ X2 ∧ Y = Y1 ++ Y2 ∧ X1.length = Y1.length ∧ i = .int .i64 X1.length ∧ Moved B (P ++ (Y1 ++ (X2 ++ (Q ++ (X1 ++ (Y2 ++ S)))))) w w') (fun i _ => X.length - (intOf i).toNat)
    case atStart => exact ⟨[], X, [], Y, rfl, rfl, rfl, rfl, Moved.refl (by simpa using H)⟩
    case round =>
      obtain ⟨X1, X2, Y1, Y2, rfl, rfl, hl, rfl, hm⟩ := hrel
      obtain ⟨ha, hb, hc, hXY, hn2⟩ := E.out
      simp only [List.length_append] at hn2 hXY hb hc
      cases X2 with
      | nil =>
        have hY2 : Y2 = [] := by apply List.eq_nil_of_length_eq_zero; simp at hXY; omega
        subst hY2
        simp only [List.length_nil] at hc
        have hlt : ¬ (X1.length : Int) < c := by omega
        clear ha hb hc hXY hn2 hl
        go_wp2
        go_end0
        exact ⟨rfl, by simpa using hm⟩
      | cons x X2 =>
        cases Y2 with
        | nil => simp at hXY; omega
        | cons y Y2 =>
          simp only [List.length_cons] at hn2 hXY hb hc
          have hlt : (X1.length : Int) < c := by omega
          have e1 : P ++ (Y1 ++ (x :: X2 ++ (Q ++ (X1 ++ (y :: Y2 ++ S))))) = (P ++ Y1) ++ x :: ((X2 ++ (Q ++ X1)) ++ y :: (Y2 ++ S)) := by simp
          have e2 : P ++ ((Y1 ++ [y]) ++ (X2 ++ (Q ++ ((X1 ++ [x]) ++ (Y2 ++ S))))) = (P ++ Y1) ++ y :: ((X2 ++ (Q ++ X1)) ++ x :: (Y2 ++ S)) := by simp
          have HE : Hid (P ++ ((Y1 ++ [y]) ++ (X2 ++ (Q ++ ((X1 ++ [x]) ++ (Y2 ++ S))))) = (P ++ Y1) ++ y :: ((X2 ++ (Q ++ X1)) ++ x :: (Y2 ++ S))) := e2
          have HL : Hid (X1.length = Y1.length) := hl
          rw [e1] at hm
          clear e1 e2 ha hb hc hXY hn2 hl
          go_wp2_with fail
          refine (swap_up wr B n (P ++ Y1) (X2 ++ (Q ++ X1)) (Y2 ++ S) x y _ _ ?_ ?_ hm.here ?_).mono ?_
          · obtain ⟨ha, hb, hc, hXY, hn2⟩ := E.out
            have hl := HL.out
            simp at *; omega
          · obtain ⟨ha, hb, hc, hXY, hn2⟩ := E.out
            have hl := HL.out
            simp at *; omega
          · obtain ⟨ha, hb, hc, hXY, hn2⟩ := E.out
            have hl := HL.out
            simp at *; omega
          rintro e w' ⟨rfl, hm'⟩
          go_wp2
          go_roundw
          case rel => exact ⟨X1 ++ [x], X2, Y1 ++ [y], Y2, by simp, by simp, by simp [HL.out], by simp, by rw [HE.out]; exact hm.trans hm'⟩
          case measure => simp [intOf]; omega
end Go.Proofs.Qxb6614095a
