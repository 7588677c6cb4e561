/-
  WALKS of seat b6614095a: sort.symMerge, every case.
-/
import Derived.Test.Qxb6614095aSortE
import Derived.Test.Qxb6614095aPlainC
namespace Go.Proofs.Qxb6614095a
open Go.RowKit

/-- What symMerge is asked at rows of together at most N members. -/
def Merges (N : Nat) : Prop := ∀ (w : World) (B n : Nat) (P X Y S : List M) (a m b : Int), X.length + Y.length ≤ N → a = P.length → m = P.length + X.length → b = P.length + X.length + Y.length →
    Srt X → Srt Y → 0 < X.length → 0 < Y.length → Holds w B (P ++ (X ++ (Y ++ S))) → (P ++ (X ++ (Y ++ S))).length = n → n ≤ 1099511627776 →
    Calls Try.prog 19 #[.iface 42 (.slice (some ⟨B, 0, none⟩) n n), .int .i64 a, .int .i64 m, .int .i64 b] w fun e w' => e = .returned (.tuple #[]) ∧ ∃ Z, Srt Z ∧ Same (X ++ Y) Z ∧ Moved B (P ++ (Z ++ S)) w w'

theorem sym_bounds (lx ly d : Nat) (hd : d = (lx + ly) / 2) (hx : 2 ≤ lx) (hy : 2 ≤ ly) : ∃ i0 j0 : Nat, j0 ≤ lx ∧ j0 ≤ d ∧ (j0 = lx ∨ j0 = d) ∧ (i0 = 0 ∨ i0 + ly = d) ∧ d ≤ i0 + ly ∧ i0 ≤ j0 ∧ (d < lx → d = i0 + ly ∧ j0 = d) ∧ (¬ d < lx → i0 = 0 ∧ j0 = lx) := by
  by_cases h : d < lx
  · exact ⟨d - ly, d, by omega, by omega, by omega, by omega, by omega, by omega, fun _ => by omega, fun h' => absurd h h'⟩
  · exact ⟨0, lx, by omega, by omega, by omega, by omega, by omega, by omega, fun h' => absurd h' h, fun _ => by omega⟩

/-- What the search has found. -/
structure Cut (X Y X1 X2 Y1 Y2 : List M) (j d : Nat) : Prop where
  x : X = X1 ++ X2
  y : Y = Y1 ++ Y2
  lx : X1.length = j
  ly : Y1.length = d - j
  jd : j ≤ d
  x2 : X.length = j + X2.length
  y2 : Y.length = d - j + Y2.length
  h21 : ∀ x ∈ X2, ∀ y ∈ Y1, lt y x = true
  h12 : ∀ x ∈ X1, ∀ y ∈ Y2, lt y x = false

theorem Cut.fin {X Y X1 X2 Y1 Y2 P S Z1 Z2 : List M} {j d B : Nat} {w w' : World} (c : Cut X Y X1 X2 Y1 Y2 j d) (hX : Srt X) (hY : Srt Y) (s1 : Srt Z1) (m1 : Same (X1 ++ Y1) Z1) (s2 : Srt Z2) (m2 : Same (X2 ++ Y2) Z2)
    (hm : Moved B (P ++ (Z1 ++ (Z2 ++ S))) w w') : ∃ Z, Srt Z ∧ Same (X ++ Y) Z ∧ Moved B (P ++ (Z ++ S)) w w' := by
  obtain ⟨a, b⟩ := merge_join c.h21 (c.x ▸ hX) (c.y ▸ hY) c.h12 s1 m1 s2 m2
  exact ⟨Z1 ++ Z2, a, by rw [c.x, c.y]; exact b, by simpa using hm⟩

set_option maxRecDepth 100000 in
set_option maxHeartbeats 2000000 in
theorem symMerge_step (N : Nat) (ih : Merges N) (w : World) (B n : Nat) (P X Y S : List M) (a m b : Int) (hN : X.length + Y.length ≤ N + 1) (ha : a = P.length) (hm : m = P.length + X.length) (hb : b = P.length + X.length + Y.length) (hsX : Srt X) (hsY : Srt Y) (hX2 : 2 ≤ X.length) (hY2 : 2 ≤ Y.length)
    (H : Holds w B (P ++ (X ++ (Y ++ S)))) (hn : (P ++ (X ++ (Y ++ S))).length = n) (hb40 : n ≤ 1099511627776) :
    Calls Try.prog 19 #[.iface 42 (.slice (some ⟨B, 0, none⟩) n n), .int .i64 a, .int .i64 m, .int .i64 b] w fun e w' => e = .returned (.tuple #[]) ∧ ∃ Z, Srt Z ∧ Same (X ++ Y) Z ∧ Moved B (P ++ (Z ++ S)) w w' := by
    have hn2 : P.length + X.length + Y.length + S.length = n := by simp at hn; omega
    have a0 : 0 ≤ a := by omega
    have a1 : a ≤ m := by omega
    have m1 : m ≤ b := by omega
    have b1 : b ≤ 1099511627776 := by omega
    have hma : (m - a == 1) = false := by simp; omega
    have hbm : (b - m == 1) = false := by simp; omega
    have E : Hid (a = P.length ∧ m = P.length + X.length ∧ b = P.length + X.length + Y.length ∧ P.length + X.length + Y.length + S.length = n ∧ (P ++ (X ++ (Y ++ S))).length = n) := ⟨ha, hm, hb, hn2, hn⟩
    obtain ⟨d, hd⟩ : ∃ d, d = (X.length + Y.length) / 2 := ⟨_, rfl⟩
    have hmid : (a + b) / 2 = P.length + d := by omega
    have D : Hid (d = (X.length + Y.length) / 2 ∧ (a + b) / 2 = P.length + d) := ⟨hd, hmid⟩
    have mid0 : a ≤ (a + b) / 2 := by omega
    have mid1 : (a + b) / 2 ≤ b := by omega
    have hms := m_swap
    have hml := m_less
    clear hn ha hm hb hn2 hd hmid
    obtain ⟨i0, j0, I⟩ : ∃ i0 j0 : Nat, Hid (j0 ≤ X.length ∧ j0 ≤ d ∧ (j0 = X.length ∨ j0 = d) ∧ (i0 = 0 ∨ i0 + Y.length = d) ∧ d ≤ i0 + Y.length ∧ i0 ≤ j0 ∧ (d < X.length → d = i0 + Y.length ∧ j0 = d) ∧ (¬ d < X.length → i0 = 0 ∧ j0 = X.length)) := sym_bounds _ _ d D.out.1 hX2 hY2
    by_cases hgt : (a + b) / 2 < m
    all_goals
      go_enter Try.func19, Try.ntmps19
      go_wp2
      go_loopw [18, 19, 21] (fun s r c w' => ∃ (u v i j : Nat), s = .int .i64 u ∧ r = .int .i64 v ∧ u = P.length + i ∧ v = P.length + j ∧ i0 ≤ i ∧ i ≤ j ∧ j ≤ j0 ∧ (∀ t x y, i0 ≤ t → t < i → X[t]? = some x → Y[d - 1 - t]? = some y → lt y x = false) ∧ (∀ t x y, j ≤ t → t < j0 → X[t]? = some x → Y[d - 1 - t]? = some y → lt y x = true) ∧ Moved B (P ++ (X ++ (Y ++ S))) w w') (fun s r _ _ => (intOf r).toNat - (intOf s).toNat)
      case atStart =>
        obtain ⟨ha, hm, hb, hn2, hn⟩ := E.out
        obtain ⟨hd, hmid⟩ := D.out
        have hI := I.out
        refine ⟨P.length + i0, P.length + j0, i0, j0, by congr 1; omega, by congr 1; omega, rfl, rfl, by omega, by omega, by omega, fun t x y h1 h2 => by omega, fun t x y h1 h2 => by omega, Moved.refl H⟩
      case round =>
        obtain ⟨u, v, i, j, rfl, rfl, hu, hv, hi0, hij, hj0, hlow, hhigh, hmv⟩ := hrel
        have F : Hid ((∀ t x y, i0 ≤ t → t < i → X[t]? = some x → Y[d - 1 - t]? = some y → lt y x = false) ∧ (∀ t x y, j ≤ t → t < j0 → X[t]? = some x → Y[d - 1 - t]? = some y → lt y x = true) ∧ u = P.length + i ∧ v = P.length + j) := ⟨hlow, hhigh, hu, hv⟩
        have hvm : (v : Int) ≤ (a + b) / 2 := by have := E.out; have := D.out; have := I.out; omega
        clear hlow hhigh
        by_cases hlt : u < v
        · obtain ⟨c, hc, hc1, hc2⟩ : ∃ c, (u + v) / 2 = P.length + c ∧ i ≤ c ∧ c < j := ⟨(u + v) / 2 - P.length, by omega, by omega, by omega⟩
          obtain ⟨x, hx⟩ : ∃ x, X[c]? = some x := ⟨_, List.getElem?_eq_getElem (by have := I.out; omega)⟩
          obtain ⟨y, hy⟩ : ∃ y, Y[d - 1 - c]? = some y := ⟨_, List.getElem?_eq_getElem (by have := I.out; omega)⟩
          have G : Hid ((u + v) / 2 = P.length + c ∧ X[c]? = some x ∧ Y[d - 1 - c]? = some y) := ⟨hc, hx, hy⟩
          clear hu hv hc hx hy
          go_wp2_with fail
          refine (less_at wr B n _ hmv.here E.out.2.2.2.2 _ _ (P.length + X.length + (d - 1 - c)) ((u + v) / 2) ?_ ?_ y x ?_ ?_).mono ?_
          · have := E.out; have := D.out; have := I.out; have := G.out.1; omega
          · omega
          · have hyl := (List.getElem?_eq_some_iff.1 G.out.2.2).1
            rw [show P ++ (X ++ (Y ++ S)) = (P ++ X) ++ (Y ++ S) from by simp, List.getElem?_append_right (by simp), show P.length + X.length + (d - 1 - c) - (P ++ X).length = d - 1 - c from by simp, List.getElem?_append_left hyl]
            exact G.out.2.2
          · have hxl := (List.getElem?_eq_some_iff.1 G.out.2.1).1
            rw [G.out.1, List.getElem?_append_right (by omega), show P.length + c - P.length = c from by omega, List.getElem?_append_left hxl]
            exact G.out.2.1
          rintro e w' ⟨rfl, nq, rfl⟩
          cases hyx : lt y x with
          | false =>
            go_wp2
            go_roundw
            case rel =>
              obtain ⟨hlow, hhigh, hu, hv⟩ := F.out
              obtain ⟨hc, hx, hy⟩ := G.out
              have hI := I.out
              refine ⟨(u + v) / 2 + 1, v, c + 1, j, by congr 1, rfl, by omega, hv, by omega, by omega, by omega, fun t x' y' h1 h2 hx' hy' => ?_, hhigh, hmv.drewN nq⟩
              exact sym_mono_low hsX hsY (by omega) (by omega) hx hy hyx hx' hy'
            case measure => simp [intOf]; omega
          | true =>
            go_wp2
            go_roundw
            case rel =>
              obtain ⟨hlow, hhigh, hu, hv⟩ := F.out
              obtain ⟨hc, hx, hy⟩ := G.out
              have hI := I.out
              refine ⟨u, (u + v) / 2, i, c, rfl, by congr 1, hu, by omega, by omega, by omega, by omega, hlow, fun t x' y' h1 h2 hx' hy' => ?_, hmv.drewN nq⟩
              exact sym_mono_high hsX hsY (by omega) (by omega) hx hy hyx hx' hy'
            case measure => simp [intOf]; omega
        · have huv : v = u := by omega
          subst huv
          have hji : j = i := by omega
          subst hji
          obtain ⟨X1, X2, Y1, Y2, C⟩ : ∃ X1 X2 Y1 Y2, Cut X Y X1 X2 Y1 Y2 j d := by
            obtain ⟨hlow, hhigh, _, _⟩ := F.out
            have hI := I.out
            have hsp := sym_split (d := d) hsX hsY hi0 hj0 hI.1 hI.2.1 hI.2.2.1 hI.2.2.2.1 hI.2.2.2.2.1 hlow hhigh
            exact ⟨X.take j, X.drop j, Y.take (d - j), Y.drop (d - j), by simp, by simp, by simp; omega, by simp; omega, by omega, by simp; omega, by simp; omega, hsp.1, hsp.2⟩
          have sX1 : Srt X1 := (srt_append.1 (C.x ▸ hsX)).1
          have sX2 : Srt X2 := (srt_append.1 (C.x ▸ hsX)).2.1
          have sY1 : Srt Y1 := (srt_append.1 (C.y ▸ hsY)).1
          have sY2 : Srt Y2 := (srt_append.1 (C.y ▸ hsY)).2.1
          have hmc : Moved B (P ++ (X1 ++ (X2 ++ (Y1 ++ (Y2 ++ S))))) w wr := by have h := hmv; rw [C.x, C.y] at h; simpa using h
          have T : Hid ((v : Int) = P.length + j ∧ X1.length = j ∧ Y1.length = d - j ∧ j ≤ d ∧ X.length = j + X2.length ∧ Y.length = d - j + Y2.length ∧ d = (X.length + Y.length) / 2 ∧ (a + b) / 2 = P.length + d ∧ a = P.length ∧ m = P.length + X.length ∧ b = P.length + X.length + Y.length ∧ P.length + X.length + Y.length + S.length = n) :=
            ⟨by have := F.out.2.2.1; omega, C.lx, C.ly, C.jd, C.x2, C.y2, D.out.1, D.out.2, E.out.1, E.out.2.1, E.out.2.2.1, E.out.2.2.2.1⟩
          clear hu hv F I hi0 hij hj0 hlt
          by_cases c1 : j < X.length
          · by_cases c2 : j < d
            · have g1 : (v : Int) < m := by have := T.out; omega
              have g2 : m < (a + b) / 2 + m - (v : Int) := by have := T.out; omega
              go_wp2_with fail
              refine (rotate_calls wr B n (P ++ X1) X2 Y1 (Y2 ++ S) _ _ _ ?_ ?_ ?_ (by simpa using hmc.here) ?_ hb40 ?_ ?_).mono ?_
              · have := T.out; simp; omega
              · have := T.out; simp; omega
              · have := T.out; simp; omega
              · have := T.out; simp; omega
              · have := T.out; omega
              · have := T.out; omega
              rintro e w1 ⟨rfl, hm1⟩
              replace hm1 : Moved B (P ++ (X1 ++ (Y1 ++ (X2 ++ (Y2 ++ S))))) w w1 := by simpa using hmc.trans hm1
              by_cases c3 : 0 < j
              · have g3 : a < (v : Int) := by have := T.out; omega
                have g4 : (v : Int) < (a + b) / 2 := by have := T.out; omega
                go_wp2_with fail
                refine (ih w1 B n P X1 Y1 (X2 ++ (Y2 ++ S)) _ _ _ ?_ ?_ ?_ ?_ sX1 sY1 ?_ ?_ hm1.here ?_ hb40).mono ?_
                · have := T.out; omega
                · have := T.out; omega
                · have := T.out; omega
                · have := T.out; omega
                · have := T.out; omega
                · have := T.out; omega
                · have := T.out; simp; omega
                rintro e w2 ⟨rfl, Z1, sZ1, mZ1, hm2⟩
                replace hm2 := hm1.trans hm2
                have lZ1 : Z1.length = X1.length + Y1.length := by have := same_length mZ1; simp at this; omega
                have LZ : Hid (Z1.length = X1.length + Y1.length) := lZ1
                replace T := (show Hid (Z1.length = d ∧ _) from ⟨by have := T.out; omega, T.out⟩)
                clear lZ1 LZ
                by_cases c4 : 0 < Y2.length
                · have g5 : (a + b) / 2 < (a + b) / 2 + m - (v : Int) := by have := T.out; omega
                  have g6 : (a + b) / 2 + m - (v : Int) < b := by have := T.out; omega
                  go_wp2_with fail
                  refine (ih _ B n (P ++ Z1) X2 Y2 S _ _ _ ?_ ?_ ?_ ?_ sX2 sY2 ?_ ?_ (by simpa using hm2.here) ?_ hb40).mono ?_
                  · have := T.out; omega
                  · have := T.out; simp; omega
                  · have := T.out; simp; omega
                  · have := T.out; simp; omega
                  · have := T.out; omega
                  · have := T.out; omega
                  · have := T.out; simp; omega
                  rintro e w3 ⟨rfl, Z2, sZ2, mZ2, hm3⟩
                  go_wp2
                  go_end0
                  exact ⟨rfl, C.fin hsX hsY sZ1 mZ1 sZ2 mZ2 (by simpa using hm2.trans hm3)⟩
                · have g5 : (a + b) / 2 < (a + b) / 2 + m - (v : Int) := by have := T.out; omega
                  have g6 : ¬ (a + b) / 2 + m - (v : Int) < b := by have := T.out; omega
                  have hY2n : Y2 = [] := by apply List.eq_nil_of_length_eq_zero; have := T.out; omega
                  go_wp2
                  all_goals
                    go_end0
                    exact ⟨rfl, C.fin hsX hsY sZ1 mZ1 (Z2 := X2 ++ Y2) (by rw [hY2n]; simpa using sX2) (Same.refl _) (by simpa using hm2)⟩
              · have g3 : ¬ a < (v : Int) := by have := T.out; omega
                have g3' : decide (a < (v : Int)) = false := by simpa using g3
                have hX1n : X1 = [] := by apply List.eq_nil_of_length_eq_zero; have := T.out; omega
                obtain ⟨Z1, hZ1⟩ : ∃ Z1, Z1 = X1 ++ Y1 := ⟨_, rfl⟩
                have sZ1 : Srt Z1 := by rw [hZ1, hX1n]; simpa using sY1
                have mZ1 : Same (X1 ++ Y1) Z1 := by rw [hZ1]; exact Same.refl _
                have hm2 : Moved B (P ++ (Z1 ++ (X2 ++ (Y2 ++ S)))) w w1 := by rw [hZ1]; simpa using hm1
                replace T := (show Hid (Z1.length = d ∧ _) from ⟨by have := T.out; rw [hZ1]; simp; omega, T.out⟩)
                clear hX1n hZ1 g3
                by_cases c4 : 0 < Y2.length
                · have g5 : (a + b) / 2 < (a + b) / 2 + m - (v : Int) := by have := T.out; omega
                  have g6 : (a + b) / 2 + m - (v : Int) < b := by have := T.out; omega
                  go_wp2_with fail
                  refine (ih _ B n (P ++ Z1) X2 Y2 S _ _ _ ?_ ?_ ?_ ?_ sX2 sY2 ?_ ?_ (by simpa using hm2.here) ?_ hb40).mono ?_
                  · have := T.out; omega
                  · have := T.out; simp; omega
                  · have := T.out; simp; omega
                  · have := T.out; simp; omega
                  · have := T.out; omega
                  · have := T.out; omega
                  · have := T.out; simp; omega
                  rintro e w3 ⟨rfl, Z2, sZ2, mZ2, hm3⟩
                  go_wp2
                  go_end0
                  exact ⟨rfl, C.fin hsX hsY sZ1 mZ1 sZ2 mZ2 (by simpa using hm2.trans hm3)⟩
                · have g5 : (a + b) / 2 < (a + b) / 2 + m - (v : Int) := by have := T.out; omega
                  have g6 : ¬ (a + b) / 2 + m - (v : Int) < b := by have := T.out; omega
                  have hY2n : Y2 = [] := by apply List.eq_nil_of_length_eq_zero; have := T.out; omega
                  go_wp2
                  go_end0
                  exact ⟨rfl, C.fin hsX hsY sZ1 mZ1 (Z2 := X2 ++ Y2) (by rw [hY2n]; simpa using sX2) (Same.refl _) (by simpa using hm2)⟩
            · have g1 : (v : Int) < m := by have := T.out; omega
              have g2 : ¬ m < (a + b) / 2 + m - (v : Int) := by have := T.out; omega
              have hY1n : Y1 = [] := by apply List.eq_nil_of_length_eq_zero; have := T.out; omega
              have g3 : a < (v : Int) := by have := T.out; omega
              have g4 : ¬ (v : Int) < (a + b) / 2 := by have := T.out; omega
              obtain ⟨Z1, hZ1⟩ : ∃ Z1, Z1 = X1 ++ Y1 := ⟨_, rfl⟩
              have sZ1 : Srt Z1 := by rw [hZ1, hY1n]; simpa using sX1
              have mZ1 : Same (X1 ++ Y1) Z1 := by rw [hZ1]; exact Same.refl _
              have hm2 : Moved B (P ++ (Z1 ++ (X2 ++ (Y2 ++ S)))) w wr := by have h := hmc; rw [hY1n] at h; rw [hZ1, hY1n]; simpa using h
              replace T := (show Hid (Z1.length = d ∧ _) from ⟨by have := T.out; rw [hZ1]; simp; omega, T.out⟩)
              clear hY1n hZ1
              by_cases c4 : 0 < Y2.length
              · have g5 : (a + b) / 2 < (a + b) / 2 + m - (v : Int) := by have := T.out; omega
                have g6 : (a + b) / 2 + m - (v : Int) < b := by have := T.out; omega
                go_wp2_with fail
                refine (ih _ B n (P ++ Z1) X2 Y2 S _ _ _ ?_ ?_ ?_ ?_ sX2 sY2 ?_ ?_ (by simpa using hm2.here) ?_ hb40).mono ?_
                · have := T.out; omega
                · have := T.out; simp; omega
                · have := T.out; simp; omega
                · have := T.out; simp; omega
                · have := T.out; omega
                · have := T.out; omega
                · have := T.out; simp; omega
                rintro e w3 ⟨rfl, Z2, sZ2, mZ2, hm3⟩
                go_wp2
                go_end0
                exact ⟨rfl, C.fin hsX hsY sZ1 mZ1 sZ2 mZ2 (by simpa using hm2.trans hm3)⟩
              · have g5 : (a + b) / 2 < (a + b) / 2 + m - (v : Int) := by have := T.out; omega
                have g6 : ¬ (a + b) / 2 + m - (v : Int) < b := by have := T.out; omega
                have hY2n : Y2 = [] := by apply List.eq_nil_of_length_eq_zero; have := T.out; omega
                go_wp2
                go_end0
                exact ⟨rfl, C.fin hsX hsY sZ1 mZ1 (Z2 := X2 ++ Y2) (by rw [hY2n]; simpa using sX2) (Same.refl _) (by simpa using hm2)⟩
          · have g1 : decide ((v : Int) < m) = false := by have := T.out; simp; omega
            have hX2n : X2 = [] := by apply List.eq_nil_of_length_eq_zero; have := T.out; omega
            have g3 : a < (v : Int) := by have := T.out; omega
            have g5 : decide ((a + b) / 2 < (a + b) / 2 + m - (v : Int)) = false := by have := T.out; simp; omega
            by_cases c2 : j < d
            · have g4 : (v : Int) < (a + b) / 2 := by have := T.out; omega
              have NX : Hid (X2 = []) := hX2n
              clear hX2n
              go_wp2_with fail
              refine (ih wr B n P X1 Y1 (X2 ++ (Y2 ++ S)) _ _ _ ?_ ?_ ?_ ?_ sX1 sY1 ?_ ?_ ?_ ?_ hb40).mono ?_
              · have := T.out; omega
              · have := T.out; omega
              · have := T.out; omega
              · have := T.out; omega
              · have := T.out; omega
              · have := T.out; omega
              · have h := hmc.here; rw [NX.out] at h ⊢; simpa using h
              · have := T.out; simp; omega
              rintro e w2 ⟨rfl, Z1, sZ1, mZ1, hm2⟩
              replace hm2 := hmc.trans hm2
              go_wp2
              go_end0
              exact ⟨rfl, C.fin hsX hsY sZ1 mZ1 (Z2 := X2 ++ Y2) (by rw [NX.out]; simpa using sY2) (Same.refl _) (by simpa using hm2)⟩
            · have g4 : ¬ (v : Int) < (a + b) / 2 := by have := T.out; omega
              have hY1n : Y1 = [] := by apply List.eq_nil_of_length_eq_zero; have := T.out; omega
              have hsZ1 : Srt (X1 ++ Y1) := by rw [hY1n]; simpa using sX1
              have hsZ2 : Srt (X2 ++ Y2) := by rw [hX2n]; simpa using sY2
              have hm2 : Moved B (P ++ ((X1 ++ Y1) ++ ((X2 ++ Y2) ++ S))) w wr := by have h := hmc; rw [hY1n, hX2n] at h; rw [hY1n, hX2n]; simpa using h
              clear hY1n hX2n
              go_wp2
              go_end0
              exact ⟨rfl, C.fin hsX hsY hsZ1 (Same.refl _) hsZ2 (Same.refl _) hm2⟩

theorem symMerge_all : ∀ N, Merges N
  | 0 => fun w B n P X Y S a m b hN _ _ _ _ _ hX hY => by omega
  | N + 1 => fun w B n P X Y S a m b hN ha hm hb sX sY hX hY H hn hb40 => by
    by_cases h1 : X.length = 1
    · obtain ⟨x, rfl⟩ := List.length_eq_one_iff.1 h1
      exact symMerge_one w B n P x Y S a m b ha (by simpa using hm) (by simpa using hb) sY (by simpa using H) (by simpa using hn) hb40
    · by_cases h2 : Y.length = 1
      · obtain ⟨y, rfl⟩ := List.length_eq_one_iff.1 h2
        exact symMerge_last w B n P X y S a m b ha hm (by simpa using hb) sX h1 (by simpa using H) (by simpa using hn) hb40
      · exact symMerge_step N (symMerge_all N) w B n P X Y S a m b hN ha hm hb sX sY (by omega) (by omega) H hn hb40

theorem symMerge_calls (w : World) (B n : Nat) (P X Y S : List M) (a m b : Int) (ha : a = P.length) (hm : m = P.length + X.length) (hb : b = P.length + X.length + Y.length) (hsX : Srt X) (hsY : Srt Y) (hX : 0 < X.length) (hY : 0 < Y.length)
    (H : Holds w B (P ++ (X ++ (Y ++ S)))) (hn : (P ++ (X ++ (Y ++ S))).length = n) (hb40 : n ≤ 1099511627776) :
    Calls Try.prog 19 #[.iface 42 (.slice (some ⟨B, 0, none⟩) n n), .int .i64 a, .int .i64 m, .int .i64 b] w fun e w' => e = .returned (.tuple #[]) ∧ ∃ Z, Srt Z ∧ Same (X ++ Y) Z ∧ Moved B (P ++ (Z ++ S)) w w' :=
  symMerge_all _ w B n P X Y S a m b (Nat.le_refl _) ha hm hb hsX hsY hX hY H hn hb40
#print axioms symMerge_calls
end Go.Proofs.Qxb6614095a
