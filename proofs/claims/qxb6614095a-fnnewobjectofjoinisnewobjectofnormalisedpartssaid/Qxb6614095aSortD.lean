/-
  WALKS of seat b6614095a: sort.symMerge, one member on the left.
-/
import Derived.Test.Qxb6614095aSortC
import Derived.Test.Qxb6614095aPlainB
namespace Go.Proofs.Qxb6614095a
open Go.RowKit

set_option maxRecDepth 100000 in
set_option maxHeartbeats 1000000 in
theorem symMerge_one (w : World) (B n : Nat) (P : List M) (x : M) (Y S : List M) (a m b : Int) (ha : a = P.length) (hm : m = P.length + 1) (hb : b = P.length + 1 + Y.length) (hsY : Srt Y)
    (H : Holds w B (P ++ (x :: (Y ++ S)))) (hn : (P ++ (x :: (Y ++ S))).length = n) (hb40 : n ≤ 1099511627776) :
    Calls Try.prog 19 #[.iface 42 (.slice (some ⟨B, 0, none⟩) n n), .int .i64 a, .int .i64 m, .int .i64 b] w fun e w' => e = .returned (.tuple #[]) ∧ ∃ Z, Srt Z ∧ Same (x :: Y) Z ∧ Moved B (P ++ (Z ++ S)) w w' := by
    have hn2 : P.length + 1 + Y.length + S.length = n := by simp at hn; omega
    have a0 : 0 ≤ a := by omega
    have a1 : a ≤ m := by omega
    have m1 : m ≤ b := by omega
    have b1 : b ≤ 1099511627776 := by omega
    have hma : (m - a == 1) = true := by simp; omega
    have E : Hid (a = P.length ∧ m = P.length + 1 ∧ b = P.length + 1 + Y.length ∧ P.length + 1 + Y.length + S.length = n ∧ (P ++ (x :: (Y ++ S))).length = n) := ⟨ha, hm, hb, hn2, hn⟩
    have hms := m_swap
    have hml := m_less
    clear hn ha hm hb hn2
    go_enter Try.func19, Try.ntmps19
    go_wp2
    go_loopw [8, 9, 10] (fun i j h w' => ∃ (u v p q : Nat), i = .int .i64 u ∧ j = .int .i64 v ∧ u = P.length + 1 + p ∧ v = P.length + 1 + q ∧ p ≤ q ∧ q ≤ Y.length ∧ (∀ t y, t < p → Y[t]? = some y → lt y x = true) ∧ (∀ t y, q ≤ t → Y[t]? = some y → lt y x = false) ∧ Moved B (P ++ (x :: (Y ++ S))) w w') (fun i j _ _ => (intOf j).toNat - (intOf i).toNat)
    case atStart =>
      obtain ⟨ha, hm, hb, hn2, _⟩ := E.out
      refine ⟨P.length + 1, P.length + 1 + Y.length, 0, Y.length, by congr 1, by congr 1, by omega, by omega, by omega, by omega, fun t y h => by omega, fun t y h hy => ?_, Moved.refl H⟩
      rw [List.getElem?_eq_none h] at hy; cases hy
    case round =>
      obtain ⟨u, v, p, q, rfl, rfl, hu, hv, hpq, hqY, hlow, hhigh, hmv⟩ := hrel
      have F : Hid ((∀ t y, t < p → Y[t]? = some y → lt y x = true) ∧ (∀ t y, q ≤ t → Y[t]? = some y → lt y x = false) ∧ u = P.length + 1 + p ∧ v = P.length + 1 + q) := ⟨hlow, hhigh, hu, hv⟩
      have hvb : (v : Int) ≤ b := by have := E.out; omega
      have hmu : m ≤ (u : Int) := by have := E.out; omega
      clear hlow hhigh
      by_cases hlt : u < v
      · -- the middle
        obtain ⟨c, hc, hc1, hc2⟩ : ∃ c, (u + v) / 2 = P.length + 1 + c ∧ p ≤ c ∧ c < q := ⟨(u + v) / 2 - (P.length + 1), by omega, by omega, by omega⟩
        obtain ⟨y, hy⟩ : ∃ y, Y[c]? = some y := ⟨_, List.getElem?_eq_getElem (by omega)⟩
        have G : Hid ((u + v) / 2 = P.length + 1 + c ∧ Y[c]? = some y) := ⟨hc, hy⟩
        clear hu hv hc hy
        go_wp2_with fail
        refine (less_at wr B n _ hmv.here E.out.2.2.2.2 _ _ ((u + v) / 2) P.length ?_ E.out.1 y x ?_ (get_mid _ _ _)).mono ?_
        · omega
        · rw [G.out.1, List.getElem?_append_right (by omega), show P.length + 1 + c - P.length = c + 1 from by omega, List.getElem?_cons_succ, List.getElem?_append_left (by omega)]
          exact G.out.2
        rintro e w' ⟨rfl, nq, rfl⟩
        cases hyx : lt y x with
        | true =>
          go_wp2
          go_roundw
          case rel =>
            obtain ⟨hlow, hhigh, hu, hv⟩ := F.out
            obtain ⟨hc, hy⟩ := G.out
            refine ⟨(u + v) / 2 + 1, v, c + 1, q, by congr 1, rfl, by omega, hv, by omega, hqY, fun t z ht hz => ?_, hhigh, hmv.drewN nq⟩
            exact klt_of_le_of_lt (hsY.get (by omega) hz hy) hyx
          case measure => simp [intOf]; omega
        | false =>
          go_wp2
          go_roundw
          case rel =>
            obtain ⟨hlow, hhigh, hu, hv⟩ := F.out
            obtain ⟨hc, hy⟩ := G.out
            refine ⟨u, (u + v) / 2, p, c, rfl, by congr 1, hu, by omega, by omega, by omega, hlow, fun t z ht hz => ?_, hmv.drewN nq⟩
            exact kle_trans hyx (hsY.get ht hy hz)
          case measure => simp [intOf]; omega
      · have huv : v = u := by omega
        subst huv
        have hqp : q = p := by omega
        subst hqp
        obtain ⟨Y1, Y2, hY, hY1⟩ : ∃ Y1 Y2, Y = Y1 ++ Y2 ∧ (Y1 = Y.take q ∧ Y2 = Y.drop q) := ⟨Y.take q, Y.drop q, by simp, rfl, rfl⟩
        have G : Hid (Y = Y1 ++ Y2 ∧ Y1.length = q ∧ (∀ y ∈ Y1, lt y x = true) ∧ ∀ y ∈ Y2, lt y x = false) := by
          obtain ⟨hlow, hhigh, _, _⟩ := F.out
          refine ⟨hY, ?_, ?_, ?_⟩
          · rw [hY1.1]; simp; omega
          · intro y hy; rw [hY1.1] at hy; obtain ⟨t, h1, h2⟩ := mem_take_get hy; exact hlow t y h1 h2
          · intro y hy; rw [hY1.2] at hy; obtain ⟨t, h1, h2⟩ := mem_drop_get hy; exact hhigh t y h1 h2
        clear hu hv hY hY1
        go_wp2
        go_loopw [11] (fun k w' => ∃ (g : Nat) (A C : List M), k = .int .i64 g ∧ g = P.length + A.length ∧ A ++ C = Y1 ∧ Moved B (P ++ (A ++ (x :: (C ++ (Y2 ++ S))))) w w') (fun k _ => v - (intOf k).toNat)
        case atStart =>
          refine ⟨P.length, [], Y1, by congr 1; exact E.out.1, rfl, rfl, ?_⟩
          have := hmv
          rw [G.out.1] at this
          simpa using this
        case round =>
          obtain ⟨g, A, C, rfl, hg, hAC, hmw⟩ := hrel
          cases C with
          | nil =>
            have hlt2 : ¬ (g : Int) < (v : Int) - 1 := by
              have h1 := F.out.2.2.1
              have h2 := G.out.2.1
              simp at hAC; subst hAC
              omega
            have K : Hid (A = Y1) := (by simpa using hAC : A = Y1)
            clear hg hAC
            go_wp2
            refine bodyPost_ret (results_none rfl _ _ _) rfl ?_
            obtain ⟨g1, g2, g3, g4⟩ := G.out
            obtain ⟨s1, s2⟩ := one_left (g1 ▸ hsY) g3 g4
            refine ⟨rfl, Y1 ++ x :: Y2, s1, by rw [g1]; exact s2, ?_⟩
            rw [K.out] at hmw
            simpa using hmw
          | cons y C =>
            have hlt2 : (g : Int) < (v : Int) - 1 := by
              have h1 := F.out.2.2.1
              have h2 := G.out.2.1
              have h3 := congrArg List.length hAC
              simp at h3
              omega
            have K : Hid (g = P.length + A.length ∧ A ++ y :: C = Y1 ∧ (P ++ A).length + 1 + 1 + C.length + Y2.length + S.length = n) := by
              refine ⟨hg, hAC, ?_⟩
              have h2 := congrArg List.length G.out.1
              have h3 := congrArg List.length hAC
              have h4 := E.out.2.2.2.1
              simp at h2 h3 ⊢
              omega
            clear hg hAC
            go_wp2_with fail
            refine (swap_up wr B n (P ++ A) [] (C ++ (Y2 ++ S)) x y _ _ ?_ ?_ (by simpa using hmw.here) ?_).mono ?_
            · have := K.out.1; simp; omega
            · have := K.out.1; simp; omega
            · have := K.out.2.2; simp at this ⊢; omega
            rintro e w' ⟨rfl, hm2⟩
            go_wp2
            go_roundw
            case rel => exact ⟨g + 1, A ++ [y], C, by go_num, by have := K.out.1; simp; omega, by have := K.out.2.1; simpa using this, by simpa using hmw.trans hm2⟩
            case measure => simp [intOf]; omega
end Go.Proofs.Qxb6614095a
