/-
  WALKS of seat b6614095a: sort.insertionSort.
-/
import Derived.Test.Qxb6614095aSortB

namespace Go.Proofs.Qxb6614095a
open Go.RowKit

theorem less_at (w : World) (B n : Nat) (ms : List M) (H : Holds w B ms) (hn : ms.length = n) (ii jj : Int) (i j : Nat) (hii : ii = i) (hjj : jj = j) (x y : M) (hi : ms[i]? = some x) (hj : ms[j]? = some y) :
    Calls Try.prog 40 #[.slice (some ⟨B, 0, none⟩) n n, .int .i64 ii, .int .i64 jj] w fun e w' => e = .returned (.bool (lt x y)) ∧ ∃ k, w' = w.drewN k := by
  subst hii hjj
  exact less_calls w B n i j ms H hn x y hi hj

theorem insert_step {U V : List M} {y : M} (hs : Srt (U ++ V)) (hV : ∀ v ∈ V, lt y v = true) (hU : U = [] ∨ ∃ U' u, U = U' ++ [u] ∧ lt y u = false) :
    Srt (U ++ y :: V) ∧ Same ((U ++ V) ++ [y]) (U ++ y :: V) := by
  obtain ⟨h1, h2, h3⟩ := srt_append.1 hs
  constructor
  · refine srt_append.2 ⟨h1, List.pairwise_cons.2 ⟨fun v hv => klt_asymm (hV v hv), h2⟩, ?_⟩
    intro x hx z hz
    rcases List.mem_cons.1 hz with rfl | hz
    · rcases hU with rfl | ⟨U', u, rfl, hu⟩
      · cases hx
      · rcases List.mem_append.1 hx with hx | hx
        · have := (srt_append.1 h1).2.2 x hx u (by simp)
          exact kle_trans this hu
        · simp at hx; subst hx; exact hu
    · exact h3 x hx z hz
  · rw [List.append_assoc]
    refine Same.append (Same.refl _) ?_
    refine Same.exchange (b := [y]) ?_
    intro x hx z hz
    simp at hz; subst hz; exact hV x hx

theorem outer_step {P S X Z1 U V X2 : List M} {y : M} {k B : Nat} {w w' : World} (h1 : Z1.length + (y :: X2).length = X.length) (h2 : k = P.length + Z1.length) (hUV : U ++ V = Z1) (hsrt : Srt Z1)
    (hsame : Same X (Z1 ++ y :: X2)) (hV : ∀ v ∈ V, lt y v = true) (hU : U = [] ∨ ∃ U' u, U = U' ++ [u] ∧ lt y u = false) (hm : Moved B (P ++ (U ++ (y :: (V ++ (X2 ++ S))))) w w') :
    ∃ Z : List M, k + 1 = P.length + Z.length ∧ 0 < Z.length ∧ Z.length + X2.length = X.length ∧ Srt Z ∧ Same X (Z ++ X2) ∧ Moved B (P ++ (Z ++ (X2 ++ S))) w w' := by
  subst hUV
  obtain ⟨hsr, hsm⟩ := insert_step hsrt hV hU
  refine ⟨U ++ y :: V, ?_, ?_, ?_, hsr, hsame.trans ?_, by simpa using hm⟩
  · simp at h2 ⊢; omega
  · simp; omega
  · simp at h1 ⊢; omega
  · have := Same.append hsm (Same.refl X2)
    simpa using this

set_option maxHeartbeats 1000000 in
theorem insertionSort_calls (w : World) (B n : Nat) (P X S : List M) (a b : Int) (ha : a = P.length) (hb : b = P.length + X.length) 
    (H : Holds w B (P ++ (X ++ S))) (hn : (P ++ (X ++ S)).length = n) (hb40 : n ≤ 1099511627776) :
    Calls Try.prog 18 #[.iface 42 (.slice (some ⟨B, 0, none⟩) n n), .int .i64 a, .int .i64 b] w fun e w' => e = .returned (.tuple #[]) ∧ ∃ Z, Srt Z ∧ Same X Z ∧ Moved B (P ++ (Z ++ S)) w w' := by
    have hn2 : P.length + X.length + S.length = n := by simp at hn; omega
    have a0 : 0 ≤ a := by omega
    have a1 : a ≤ b := by omega
    have b1 : b ≤ 1099511627776 := by omega
    have E : Hid (a = P.length ∧ b = P.length + X.length ∧ P.length + X.length + S.length = n) := ⟨ha, hb, hn2⟩
    have hms := m_swap
    have hml := m_less
    cases X with
    | nil =>
      have hlt : ¬ (a + 1 < b) := by simp at hb; omega
      clear hn ha hb hn2
      go_enter Try.func18, Try.ntmps18
      go_wp2
      go_loopw [6] (fun i w' => i = .int .i64 (a + 1) ∧ w' = w) (fun i _ => 0)
      case atStart => exact ⟨rfl, rfl⟩
      case round =>
        obtain ⟨rfl, rfl⟩ := hrel
        go_wp2
        go_end0
        exact ⟨rfl, [], srt_nil, Same.refl _, Moved.refl H⟩
    | cons x0 X0 =>
    clear hn ha hb hn2
    go_enter Try.func18, Try.ntmps18
    go_wp2
    go_loopw [6, 7] (fun i j w' => ∃ (k : Nat) (Z1 X2 : List M), i = .int .i64 k ∧ k = P.length + Z1.length ∧ 0 < Z1.length ∧ Z1.length + X2.length = (x0 :: X0).length ∧ Srt Z1 ∧ Same (x0 :: X0) (Z1 ++ X2) ∧ Moved B (P ++ (Z1 ++ (X2 ++ S))) w w') (fun i _ _ => b.toNat - (intOf i).toNat)
    case atStart =>
      obtain ⟨ha, hb, hn2⟩ := E.out
      exact ⟨P.length + 1, [x0], X0, by congr 1; simp; omega, rfl, by simp, by simp; omega, srt_one _, Same.refl _, Moved.refl H⟩
    case round =>
      obtain ⟨k, Z1, X2, rfl, hk, hZ1, hlen, hsrt, hsame, hm⟩ := hrel
      obtain ⟨ha, hb, hn2⟩ := E.out
      have F : Hid (Z1.length + X2.length = (x0 :: X0).length ∧ k = P.length + Z1.length) := ⟨hlen, hk⟩
      cases X2 with
      | nil =>
        have hlt : ¬ ((k : Int) < b) := by simp at hlen hb; omega
        clear ha hb hn2 hlen hk
        go_wp2
        go_end0
        exact ⟨rfl, Z1, hsrt, by simpa using hsame, by simpa using hm⟩
      | cons y X2 =>
        have hlt : ((k : Int) < b) := by simp at hlen hb; omega
        clear ha hb hn2 hlen hk
        go_wp2
        go_loopw [7] (fun j w' => ∃ (q : Nat) (U V : List M), j = .int .i64 q ∧ q = P.length + U.length ∧ U ++ V = Z1 ∧ (∀ v ∈ V, lt y v = true) ∧ Moved B (P ++ (U ++ (y :: (V ++ (X2 ++ S))))) w w') (fun j _ => (intOf j).toNat)
        case atStart => exact ⟨k, Z1, [], rfl, F.out.2, by simp, by simp, by simpa using hm⟩
        case round =>
          obtain ⟨q, U, V, rfl, hq, hUV, hV, hmi⟩ := hrel
          have hqk : q ≤ k := by have := F.out.2; have := congrArg List.length hUV; simp at this; omega
          have hV' : Hid (∀ v ∈ V, lt y v = true) := hV
          have G : Hid (q = P.length + U.length ∧ U ++ V = Z1) := ⟨hq, hUV⟩
          clear hV hm
          rcases List.eq_nil_or_concat U with hU | ⟨U', u, hU⟩
          · subst hU
            have hg : decide (a < (q : Int)) = false := by have := E.out.1; simp at hq ⊢; omega
            clear hq hUV
            go_wp2
            go_roundw
            case rel =>
              obtain ⟨hq, hUV⟩ := G.out
              obtain ⟨Z, z1, z2, z3, z4, z5, z6⟩ := outer_step F.out.1 F.out.2 hUV hsrt hsame hV'.out (.inl rfl) hmi
              exact ⟨k + 1, Z, X2, by go_num, z1, z2, z3, z4, z5, z6⟩
            case measure => simp [intOf]; omega
          · have hg : a < (q : Int) := by have := E.out.1; rw [hU] at hq; simp at hq ⊢; omega
            have HU : Hid (U = U' ++ [u]) := by rw [List.concat_eq_append] at hU; exact hU
            have L : Hid (q = P.length + U'.length + 1 ∧ (P ++ ((U' ++ [u]) ++ y :: (V ++ (X2 ++ S)))).length = n) := by
              have l1 := E.out.2.2
              have l2 := F.out.1
              have l3 := congrArg List.length hUV
              have l4 := congrArg List.length HU.out
              simp at l1 l2 l3 l4
              refine ⟨by omega, by simp; omega⟩
            clear hq hUV hU
            go_wp2_with fail
            have hmi' := hmi
            rw [HU.out] at hmi'
            refine (less_at wr B n _ hmi'.here L.out.2 _ _ (P ++ (U' ++ [u])).length (P ++ U').length ?_ ?_ y u ?_ ?_).mono ?_
            · have := L.out.1; simp; omega
            · have := L.out.1; simp; omega
            · rw [show P ++ (U' ++ [u] ++ y :: (V ++ (X2 ++ S))) = (P ++ (U' ++ [u])) ++ y :: (V ++ (X2 ++ S)) from by simp]; exact get_mid _ _ _
            · rw [show P ++ (U' ++ [u] ++ y :: (V ++ (X2 ++ S))) = (P ++ U') ++ u :: (y :: (V ++ (X2 ++ S))) from by simp]; exact get_mid _ _ _
            rintro e w' ⟨rfl, nq, rfl⟩
            cases hyu : lt y u with
            | false =>
              go_wp2
              go_roundw
              case rel =>
                obtain ⟨hq, hUV⟩ := G.out
                obtain ⟨Z, z1, z2, z3, z4, z5, z6⟩ := outer_step F.out.1 F.out.2 hUV hsrt hsame hV'.out (.inr ⟨U', u, HU.out, hyu⟩) (hmi.drewN nq)
                exact ⟨k + 1, Z, X2, by go_num, z1, z2, z3, z4, z5, z6⟩
              case measure => simp [intOf]; omega
            | true =>
              go_wp2_with fail
              refine (swap_down (wr.drewN nq) B n (P ++ U') [] (V ++ (X2 ++ S)) u y _ _ ?_ ?_ (by simpa using (hmi'.drewN nq).here) ?_).mono ?_
              · have := L.out.1; simp; omega
              · have := L.out.1; simp; omega
              · have := L.out.2; simp at this ⊢; omega
              rintro e w' ⟨rfl, hm2⟩
              go_wp2
              go_roundw
              case rel => 
                obtain ⟨hq, hUV⟩ := G.out
                have l := L.out.1
                refine ⟨q - 1, U', u :: V, by congr 1; omega, by omega, by rw [← hUV, HU.out]; simp, ?_, by simpa using (hmi.drewN nq).trans hm2⟩
                intro v hv
                rcases List.mem_cons.1 hv with rfl | hv
                · exact hyu
                · exact hV'.out v hv
              case measure => simp [intOf]; omega
end Go.Proofs.Qxb6614095a
