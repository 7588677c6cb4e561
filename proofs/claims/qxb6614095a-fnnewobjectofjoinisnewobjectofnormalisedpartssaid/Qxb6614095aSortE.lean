/-
  WALKS of seat b6614095a: sort.symMerge, one member on the right.
-/
import Derived.Test.Qxb6614095aSortD

namespace Go.Proofs.Qxb6614095a
open Go.RowKit

set_option maxRecDepth 100000 in
set_option maxHeartbeats 1000000 in
theorem symMerge_last (w : World) (B n : Nat) (P X : List M) (y : M) (S : List M) (a m b : Int) (ha : a = P.length) (hm : m = P.length + X.length) (hb : b = P.length + X.length + 1) (hsX : Srt X) (hX1 : X.length ≠ 1)
    (H : Holds w B (P ++ (X ++ (y :: S)))) (hn : (P ++ (X ++ (y :: S))).length = n) (hb40 : n ≤ 1099511627776) :
    Calls Try.prog 19 #[.iface 42 (.slice (some ⟨B, 0, none⟩) n n), .int .i64 a, .int .i64 m, .int .i64 b] w fun e w' => e = .returned (.tuple #[]) ∧ ∃ Z, Srt Z ∧ Same (X ++ [y]) Z ∧ Moved B (P ++ (Z ++ S)) w w' := by
    have hn2 : P.length + X.length + 1 + S.length = n := by simp at hn; omega
    have a0 : 0 ≤ a := by omega
    have a1 : a ≤ m := by omega
    have m1 : m ≤ b := by omega
    have b1 : b ≤ 1099511627776 := by omega
    have hma : (m - a == 1) = false := by simp; omega
    have hbm : (b - m == 1) = true := by simp; omega
    have E : Hid (a = P.length ∧ m = P.length + X.length ∧ b = P.length + X.length + 1 ∧ P.length + X.length + 1 + S.length = n ∧ (P ++ (X ++ (y :: S))).length = n) := ⟨ha, hm, hb, hn2, hn⟩
    have hms := m_swap
    have hml := m_less
    clear hn ha hm hb hn2
    go_enter Try.func19, Try.ntmps19
    go_wp2
    go_loopw [12, 13, 14] (fun i j h w' => ∃ (u v p q : Nat), i = .int .i64 u ∧ j = .int .i64 v ∧ u = P.length + p ∧ v = P.length + q ∧ p ≤ q ∧ q ≤ X.length ∧ (∀ t x, t < p → X[t]? = some x → lt y x = false) ∧ (∀ t x, q ≤ t → X[t]? = some x → lt y x = true) ∧ Moved B (P ++ (X ++ (y :: S))) w w') (fun i j _ _ => (intOf j).toNat - (intOf i).toNat)
    case atStart =>
      obtain ⟨ha, hm, hb, hn2, _⟩ := E.out
      refine ⟨P.length, P.length + X.length, 0, X.length, by congr 1, by congr 1, by omega, by omega, by omega, by omega, fun t y h => by omega, fun t y h hy => ?_, Moved.refl H⟩
      rw [List.getElem?_eq_none h] at hy; cases hy
    case round =>
      obtain ⟨u, v, p, q, rfl, rfl, hu, hv, hpq, hqX, hlow, hhigh, hmv⟩ := hrel
      have F : Hid ((∀ t x, t < p → X[t]? = some x → lt y x = false) ∧ (∀ t x, q ≤ t → X[t]? = some x → lt y x = true) ∧ u = P.length + p ∧ v = P.length + q) := ⟨hlow, hhigh, hu, hv⟩
      have hvb : (v : Int) ≤ m := by have := E.out; omega
      clear hlow hhigh
      by_cases hlt : u < v
      · -- the middle
        obtain ⟨c, hc, hc1, hc2⟩ : ∃ c, (u + v) / 2 = P.length + c ∧ p ≤ c ∧ c < q := ⟨(u + v) / 2 - P.length, by omega, by omega, by omega⟩
        obtain ⟨x, hx⟩ : ∃ x, X[c]? = some x := ⟨_, List.getElem?_eq_getElem (by omega)⟩
        have G : Hid ((u + v) / 2 = P.length + c ∧ X[c]? = some x) := ⟨hc, hx⟩
        clear hu hv hc hx
        go_wp2_with fail
        refine (less_at wr B n _ hmv.here E.out.2.2.2.2 _ _ (P.length + X.length) ((u + v) / 2) ?_ ?_ y x ?_ ?_).mono ?_
        · have := E.out; omega
        · omega
        · rw [show P ++ (X ++ y :: S) = (P ++ X) ++ y :: S from by simp, show P.length + X.length = (P ++ X).length from by simp]
          exact get_mid _ _ _
        · rw [G.out.1, List.getElem?_append_right (by omega), show P.length + c - P.length = c from by omega, List.getElem?_append_left (by omega)]
          exact G.out.2
        rintro e w' ⟨rfl, nq, rfl⟩
        cases hyx : lt y x with
        | false =>
          go_wp2
          go_roundw
          case rel =>
            obtain ⟨hlow, hhigh, hu, hv⟩ := F.out
            obtain ⟨hc, hx⟩ := G.out
            refine ⟨(u + v) / 2 + 1, v, c + 1, q, by congr 1, rfl, by omega, hv, by omega, hqX, fun t z ht hz => ?_, hhigh, hmv.drewN nq⟩
            exact kle_trans (hsX.get (by omega) hz hx) hyx
          case measure => simp [intOf]; omega
        | true =>
          go_wp2
          go_roundw
          case rel =>
            obtain ⟨hlow, hhigh, hu, hv⟩ := F.out
            obtain ⟨hc, hx⟩ := G.out
            refine ⟨u, (u + v) / 2, p, c, rfl, by congr 1, hu, by omega, by omega, by omega, hlow, fun t z ht hz => ?_, hmv.drewN nq⟩
            exact klt_of_lt_of_le hyx (hsX.get ht hx hz)
          case measure => simp [intOf]; omega
      · have huv : v = u := by omega
        subst huv
        have hqp : q = p := by omega
        subst hqp
        obtain ⟨X1, X2, hX, hX1⟩ : ∃ X1 X2, X = X1 ++ X2 ∧ (X1 = X.take q ∧ X2 = X.drop q) := ⟨X.take q, X.drop q, by simp, rfl, rfl⟩
        have G : Hid (X = X1 ++ X2 ∧ X1.length = q ∧ (∀ x ∈ X1, lt y x = false) ∧ ∀ x ∈ X2, lt y x = true) := by
          obtain ⟨hlow, hhigh, _, _⟩ := F.out
          refine ⟨hX, ?_, ?_, ?_⟩
          · rw [hX1.1]; simp; omega
          · intro y hy; rw [hX1.1] at hy; obtain ⟨t, h1, h2⟩ := mem_take_get hy; exact hlow t y h1 h2
          · intro y hy; rw [hX1.2] at hy; obtain ⟨t, h1, h2⟩ := mem_drop_get hy; exact hhigh t y h1 h2
        clear hu hv hX hX1
        go_wp2
        go_loopw [15] (fun k w' => ∃ (g : Nat) (C A : List M), k = .int .i64 g ∧ g = P.length + X1.length + C.length ∧ C ++ A = X2 ∧ Moved B (P ++ (X1 ++ (C ++ (y :: (A ++ S))))) w w') (fun k _ => (intOf k).toNat)
        case atStart =>
          refine ⟨P.length + X.length, X2, [], by congr 1; exact E.out.2.1, ?_, by simp, ?_⟩
          · have := congrArg List.length G.out.1; simp at this; omega
          · have := hmv
            rw [G.out.1] at this
            simpa using this
        case round =>
          obtain ⟨g, C, A, rfl, hg, hAC, hmw⟩ := hrel
          have hgm : (g : Int) ≤ m := by
            have h1 := congrArg List.length G.out.1
            have h2 := congrArg List.length hAC
            have h3 := E.out.2.1
            simp at h1 h2; omega
          rcases List.eq_nil_or_concat C with hC | ⟨C', x, hC⟩
          · subst hC
            have hlt2 : ¬ (v : Int) < (g : Int) := by
              have h1 := F.out.2.2.1
              have h2 := G.out.2.1
              simp at hg
              omega
            have K : Hid (A = X2) := (by simpa using hAC : A = X2)
            clear hg hAC
            go_wp2
            refine bodyPost_ret (results_none rfl _ _ _) rfl ?_
            obtain ⟨g1, g2, g3, g4⟩ := G.out
            obtain ⟨s1, s2⟩ := one_right (g1 ▸ hsX) g3 g4
            refine ⟨rfl, X1 ++ y :: X2, s1, by rw [g1]; exact s2, ?_⟩
            rw [K.out] at hmw
            simpa using hmw
          · rw [List.concat_eq_append] at hC
            have hlt2 : (v : Int) < (g : Int) := by
              have h1 := F.out.2.2.1
              have h2 := G.out.2.1
              have h3 := congrArg List.length hC
              simp at h3
              omega
            have K : Hid (C = C' ++ [x] ∧ g = P.length + X1.length + C'.length + 1 ∧ C' ++ x :: A = X2 ∧ (P ++ (X1 ++ C')).length + 1 + 1 + A.length + S.length = n) := by
              refine ⟨hC, by rw [hg, hC]; simp; omega, by rw [← hAC, hC]; simp, ?_⟩
              have h2 := congrArg List.length G.out.1
              have h3 := congrArg List.length hAC
              have h4 := E.out.2.2.2.1
              have h5 := congrArg List.length hC
              simp at h2 h3 h5 ⊢
              omega
            clear hg hAC hC
            go_wp2_with fail
            have hmw' := hmw
            rw [K.out.1] at hmw'
            refine (swap_down wr B n (P ++ (X1 ++ C')) [] (A ++ S) x y _ _ ?_ ?_ (by simpa using hmw'.here) ?_).mono ?_
            · have := K.out.2.1; simp; omega
            · have := K.out.2.1; simp; omega
            · have := K.out.2.2.2; simp at this ⊢; omega
            rintro e w' ⟨rfl, hm2⟩
            clear hmw'
            go_wp2
            go_roundw
            case rel => exact ⟨g - 1, C', x :: A, by congr 1; omega, by have := K.out.2.1; omega, K.out.2.2.1, by simpa using hmw.trans hm2⟩
            case measure => simp [intOf]; omega
end Go.Proofs.Qxb6614095a
