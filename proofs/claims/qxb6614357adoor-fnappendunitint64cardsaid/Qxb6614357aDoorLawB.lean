/-
  THE WALK of FnAppendUnitInt64 (seat b6614357aD).
-/
import Derived.Test.Qxb6614357aDoorLawA
import Derived.Test.Qxb6614357aDoorExact
import Derived.Test.Qxb6614357aDoorNumber
namespace Go.Proofs.Qxb6614357aDoor
open Go.Shelf Go.Sort Go.RowKit Ieee
set_option maxRecDepth 100000

set_option maxHeartbeats 2000000 in
theorem law3_long (w : World) (oa : Option Addr) (n c : Nat) (i : Int) (hn : n ≤ 9223372036854775807) (hl : (1048576 : Int) < n) :
    Calls Tryd.prog 3 #[.slice oa n c, .int .i64 i] w fun e w' => e = .returned (.bool true) ∧ Below w.heap.size w w' := by
  go_enter Tryd.func3, Tryd.ntmps3
  go_wp2_with fail
  refine (zzI_calls w oa n c i hn).mono ?_
  rintro e w1 ⟨rfl, rfl⟩
  rw [decide_eq_false (show ¬ n ≤ 1048576 by omega)]
  go_wp2
  go_ret
  exact ⟨rfl, Below.refl _ _⟩

set_option maxHeartbeats 2000000 in
theorem law3_bad (w : World) (oa : Option Addr) (n c : Nat) (i : Int) (zs : List Int) (hd : IsBytes w (.slice oa n c) n zs) (hn : n ≤ 1048576) (h1 : -9223372036854775808 ≤ i) (h2 : i ≤ 9223372036854775807)
    (hbad : ¬ (-9007199254740992 ≤ i ∧ i ≤ 9007199254740992)) :
    Calls Tryd.prog 3 #[.slice oa n c, .int .i64 i] w fun e w' => e = .returned (.bool true) ∧ Below w.heap.size w w' := by
  have hl : decide ((1048576 : Int) < n) = false := decide_eq_false (by omega)
  go_enter Tryd.func3, Tryd.ntmps3
  go_wp2_with fail
  refine (zzI_calls w oa n c i (by omega)).mono ?_
  rintro e w0 ⟨rfl, rfl⟩
  rw [decide_eq_true hn]
  go_wp2_with fail
  refine (clone_calls w0.heap.size n _ zs w0 hd (by omega) (Nat.le_refl _)).mono ?_
  rintro e w1 ⟨v1, rfl, hO1, hg1, hat1⟩
  have B1 : Below w0.heap.size w0 w1 := below_of (Below.refl _ _) (Nat.le_refl _) hg1
  go_wp2_with fail
  refine (clone_calls w0.heap.size n v1 zs w1 (owns_bytes hO1) (by omega) B1.size).mono ?_
  rintro e w2 ⟨v2, rfl, hO2, hg2, hat2⟩
  have B2 : Below w0.heap.size w0 w2 := below_of B1 (Nat.le_refl _) hg2
  go_wp2_with fail
  refine (zzI_bad v1 i w2 h1 h2 hbad).mono ?_
  rintro e w3 ⟨rfl, hg3⟩
  have B3 : Below w0.heap.size w0 w3 := below_of B2 (Nat.le_refl _) hg3
  have E1 : IsBytes w3 v1 n zs := bytes_keep (bytes_keep (owns_bytes hO1) hg2 (fun _ _ _ => by simp)) hg3 (fun _ _ _ => by simp)
  have E2 : IsBytes w3 v2 n zs := bytes_keep (owns_bytes hO2) hg3 (fun _ _ _ => by simp)
  have heq : Hid (∀ {Q : Ending → World → Prop}, (∀ e w', e = .returned (.bool true) ∧ (∃ q, w' = w3.drewN q) → Q e w') → Calls Tryd.prog 8 #[v1, v2] w3 Q) := by
    intro Q hQ
    refine (eq_calls w3 v1 v2 n n zs zs E1 E2 (by omega) (by omega)).mono ?_
    rintro e w' ⟨rfl, q⟩
    exact hQ _ _ ⟨by rw [decide_eq_true rfl], q⟩
  have HB3 : Hid (Below w0.heap.size w0 w3) := B3
  clear hd E1 E2 B1 B2 B3 hO1 hO2 hg1 hg2 hg3 hat1 hat2 hn
  by_cases hA : i < -9007199254740992
  · go_wp2_with fail
    refine heq.out ?_
    rintro e w4 ⟨rfl, q, rfl⟩
    go_wp2
    go_ret
    exact ⟨rfl, below_drewN HB3.out (Nat.le_refl _) q⟩
  · have hA' : decide (i < -9007199254740992) = false := decide_eq_false hA
    have hB : (9007199254740992 : Int) < i := by omega
    go_wp2_with fail
    refine heq.out ?_
    rintro e w4 ⟨rfl, q, rfl⟩
    go_wp2
    go_ret
    exact ⟨rfl, below_drewN HB3.out (Nat.le_refl _) q⟩

set_option maxHeartbeats 4000000 in
theorem law3_good (w : World) (oa : Option Addr) (n c : Nat) (k : Int) (zs : List Int) (hd : IsBytes w (.slice oa n c) n zs) (hn : n ≤ 1048576)
    (htab : Lib.TabBelow Tryd.prog w.heap.size w pow10Name .u64 Lib.pow10Tab)
    (hk1 : -9007199254740992 ≤ k) (hk2 : k ≤ 9007199254740992) :
    Calls Tryd.prog 3 #[.slice oa n c, .int .i64 k] w fun e w' => e = .returned (.bool true) ∧ Below w.heap.size w w' := by
  have hA : decide (k < -9007199254740992) = false := decide_eq_false (by omega)
  have hB : decide ((9007199254740992 : Int) < k) = false := decide_eq_false (by omega)
  have hl : decide ((1048576 : Int) < n) = false := decide_eq_false (by omega)
  have HX : Hid ((double.read (floatOfInt .f64 k)).isNaN = false ∧ inR (floatOfInt .f64 k) = true ∧ (double.order (floatOfInt .f64 k) (truncW (floatOfInt .f64 k)) == some .eq) = true ∧
      floatToIntVal .f64 (floatOfInt .f64 k) .i64 = some k ∧ floatOfInt .f64 k < 18446744073709551616) := exact_all k hk1 hk2
  have hp1 := itoa_pos k
  have hp2 := itoa_le k (by omega) (by omega)
  obtain ⟨L, hL⟩ : ∃ L, Hid (L = Lib.itoa k) := ⟨_, rfl⟩
  rw [← hL.out] at hp1 hp2
  go_enter Tryd.func3, Tryd.ntmps3
  go_wp2_with fail
  refine (zzI_calls w oa n c k (by omega)).mono ?_
  rintro e w0 ⟨rfl, rfl⟩
  rw [decide_eq_true hn]
  go_wp2_with fail
  refine (clone_calls w0.heap.size n _ zs w0 hd (by omega) (Nat.le_refl _)).mono ?_
  rintro e w1 ⟨v1, rfl, hO1, hg1, hat1⟩
  have B1 : Below w0.heap.size w0 w1 := below_of (Below.refl _ _) (Nat.le_refl _) hg1
  go_wp2_with fail
  refine (clone_calls w0.heap.size n v1 zs w1 (owns_bytes hO1) (by omega) B1.size).mono ?_
  rintro e w2 ⟨v2, rfl, hO2, hg2, hat2⟩
  have B2 : Below w0.heap.size w0 w2 := below_of B1 (Nat.le_refl _) hg2
  have hO1' := owns_keep hO1 hg2
  go_wp2_with fail
  refine (zzI_good w0.heap.size n v1 (cells zs) k w2 hO1' B2.size (by omega) (htab.on B2) hk1 hk2).mono ?_
  rintro e w3 ⟨v3, rfl, hO3⟩
  rw [← hL.out] at hO3
  have B3 : Below w0.heap.size w0 w3 := below_own B2 (Nat.le_refl _) hO1' hO3.2
  have E2 : IsBytes w3 v2 n zs := bytes_other (owns_bytes hO2) hO3.2 (fun j h2 h1 => by
    have a := hat2 j h2
    have b := hat1 j h1
    have c := (hO1.lt j h1).2
    omega)
  go_wp2_with fail
  refine (clone_calls w0.heap.size n v2 zs w3 E2 (by omega) B3.size).mono ?_
  rintro e w4 ⟨v4, rfl, hO4, hg4, hat4⟩
  have B4 : Below w0.heap.size w0 w4 := below_of B3 (Nat.le_refl _) hg4
  go_wp2_with fail
  refine (decimal_calls w0.heap.size n k (by omega) (by omega) v4 (cells zs) w4 hO4 B4.size (by omega)).mono ?_
  rintro e w5 ⟨v5, rfl, hO5⟩
  rw [← hL.out] at hO5
  have B5 : Below w0.heap.size w0 w5 := below_own B4 (Nat.le_refl _) hO4 hO5.2
  have O3 : w3.ownsRow w0.heap.size 5 1 v3 (n + L.length) (cells (zs ++ nums L)) := by rw [← cells_app]; exact hO3.1
  have O5 : w5.ownsRow w0.heap.size 5 1 v5 (n + L.length) (cells (zs ++ nums L)) := by rw [← cells_app]; exact hO5.1
  have E3 : IsBytes w5 v3 (n + L.length) (zs ++ nums L) := bytes_other (bytes_keep (owns_bytes O3) hg4 (fun _ _ _ => by simp)) hO5.2 (fun j h3 h4 => by
    have a := (O3.lt j h3).2
    have b := hat4 j h4
    omega)
  have heq : Hid (∀ {Q : Ending → World → Prop}, (∀ e w', e = .returned (.bool true) ∧ (∃ q, w' = w5.drewN q) → Q e w') → Calls Tryd.prog 8 #[v3, v5] w5 Q) := by
    intro Q hQ
    refine (eq_calls w5 v3 v5 _ _ _ _ E3 (owns_bytes O5) (by omega) (by omega)).mono ?_
    rintro e w' ⟨rfl, q⟩
    exact hQ _ _ ⟨by rw [decide_eq_true rfl], q⟩
  go_wp2_with fail
  refine heq.out ?_
  rintro e w6 ⟨rfl, q, rfl⟩
  clear heq
  have B6 := below_drewN B5 (Nat.le_refl _) q
  have E3' : IsBytes (w5.drewN q) v3 (n + L.length) (zs ++ nums L) := bytes_keep (r := none) E3 (grow_drewN (grow_refl _ _) q) (fun _ _ _ => by simp)
  obtain ⟨g3, c3, rfl, hc3, _⟩ := owns_some O3 (by omega)
  obtain ⟨oa2, c2, rfl⟩ := owns_shape hO2
  generalize w5.drewN q = w6 at B6 E3' ⊢
  have F3 : (convert 22 9 (.slice (some ⟨g3, n, none⟩) L.length (c3 - n))).run Tryd.prog w6 = .ok (.string ⟨L.toArray⟩) w6 := by
    obtain ⟨hll, _, h⟩ := E3'
    rcases h with ⟨h, _⟩ | ⟨a, c', h, hc⟩
    · cases h
    · cases h
      have hz : zs.length = n := hd.1
      refine conv_of rfl (fun j z hj => ?_)
      have := hc (n + j) z (by rw [List.getElem?_append_right (by omega), ← hz, Nat.add_sub_cancel_left]; exact hj)
      rw [Lib.add_plain] at this ⊢
      rw [← this]
      simp
  have hsl : ∀ W, (Instr.slice 22 (.slice (some ⟨g3, 0, none⟩) (n + L.length) c3) (some (.int .i64 (n : Int))) none none).run Tryd.prog W = .ok (.slice (some ⟨g3, n, none⟩) L.length (c3 - n)) W := fun W => by
    have e5 : Tryd.prog.elem 22 = 5 := by kernel_rfl
    rw [run_slice_l W 22 (some ⟨g3, 0, none⟩) (n + L.length) c3 (by rw [Tryd.underlying22, e5]) .i64 (n : Int) (by omega) (by omega)]
    go_simp
    omega
  clear E2 E3 E3' O3 O5 B1 B2 B3 B4 B5 hO1 hO1' hO2 hO3 hO4 hO5 hg1 hg2 hg4 hat1 hat2 hat4 hc3
  go_wp2_with fail
  have hF := zzF_good w0.heap.size 0 (.slice none 0 0) [] (floatOfInt .f64 k) HX.out.2.2.2.2 w6 (World.ownsRow_nil _ _ _ _) B6.size (by omega) (htab.on B6) HX.out.1 (by rw [HX.out.2.1, HX.out.2.2.1]; rfl) k HX.out.2.2.2.1 hk1 hk2
  rw [← hL.out] at hF
  refine hF.mono ?_
  rintro e w7 ⟨v7, rfl, hO7⟩
  clear hF F3 hsl
  have B7 : Below w0.heap.size w0 w7 := below_own B6 (Nat.le_refl _) (World.ownsRow_nil _ _ _ _) hO7.2
  have O7 : w7.ownsRow w0.heap.size 5 1 v7 L.length (cells (nums L)) := by rw [← cells_nil_app, ← Nat.zero_add L.length]; exact hO7.1
  go_wp2_with fail
  have hNm := zzN_good w0.heap.size 0 (.slice none 0 0) [] k w7 (World.ownsRow_nil _ _ _ _) B7.size (by omega) (htab.on B7) hk1 hk2
  rw [← hL.out] at hNm
  refine hNm.mono ?_
  rintro e w8 ⟨v8, rfl, hO8⟩
  clear hNm
  have B8 : Below w0.heap.size w0 w8 := below_own B7 (Nat.le_refl _) (World.ownsRow_nil _ _ _ _) hO8.2
  have O8 : w8.ownsRow w0.heap.size 5 1 v8 L.length (cells (nums L)) := by rw [← cells_nil_app, ← Nat.zero_add L.length]; exact hO8.1
  have E7 : IsBytes w8 v7 L.length (nums L) := bytes_keep (owns_bytes O7) hO8.2 (fun _ _ _ => by simp [Value.ownBlock])
  have E8 : IsBytes w8 v8 L.length (nums L) := owns_bytes O8
  obtain ⟨g7, c7, rfl, _⟩ := owns_some O7 (by omega)
  obtain ⟨g8, c8, rfl, _⟩ := owns_some O8 (by omega)
  have F7 : (convert 22 9 (.slice (some ⟨g7, 0, none⟩) L.length c7)).run Tryd.prog w8 = .ok (.string ⟨L.toArray⟩) w8 := by
    obtain ⟨_, _, h⟩ := E7
    rcases h with ⟨h, _⟩ | ⟨a, c', h, hc⟩
    · cases h
    · cases h
      exact conv_of rfl hc
  have F8 : (convert 22 9 (.slice (some ⟨g8, 0, none⟩) L.length c8)).run Tryd.prog w8 = .ok (.string ⟨L.toArray⟩) w8 := by
    obtain ⟨_, _, h⟩ := E8
    rcases h with ⟨h, _⟩ | ⟨a, c', h, hc⟩
    · cases h
    · cases h
      exact conv_of rfl hc
  have HB8 : Hid (Below w0.heap.size w0 w8) := B8
  clear hd E7 E8 O7 O8 B6 B7 B8 hO7 hO8 hn htab
  go_wp2
  go_ret
  exact ⟨rfl, HB8.out⟩
end Go.Proofs.Qxb6614357aDoor
