/-
  THE WALK of FnAppendUnitFloat64 (seat b6614357aD).
-/
import Derived.Test.Qxb6614357aDoorDec
namespace Go.Proofs.Qxb6614357aDoor
open Go.Shelf Go.Sort Go.RowKit Ieee
set_option maxRecDepth 100000

/-- The bytes of a text, as numbers. -/
def nums (l : List UInt8) : List Int := l.map (fun b => (b.toNat : Int))
theorem cells_app (zs : List Int) (l : List UInt8) : cells zs ++ Lib.byteCells l = cells (zs ++ nums l) := by
  simp [cells, nums, Lib.byteCells]
theorem cells_nil_app (l : List UInt8) : ([] : List Value) ++ Lib.byteCells l = cells (nums l) := by
  simp [cells, nums, Lib.byteCells]
theorem nums_length (l : List UInt8) : (nums l).length = l.length := by simp [nums]
theorem itoa_pos (k : Int) : 1 ≤ (Lib.itoa k).length := by
  by_cases h : k < 0
  · obtain ⟨u, rfl⟩ : ∃ u : Nat, k = -(u : Int) := ⟨k.natAbs, by omega⟩
    rw [Lib.itoa_neg u (by omega)]; simp
  · obtain ⟨u, rfl⟩ : ∃ u : Nat, k = u := ⟨k.toNat, by omega⟩
    rw [Lib.itoa_nonneg]; exact dig_pos u
theorem itoa_le (k : Int) (h0 : -9223372036854775808 ≤ k) (h1 : k ≤ 9223372036854775807) : (Lib.itoa k).length ≤ 21 := by
  by_cases h : k < 0
  · obtain ⟨u, rfl⟩ : ∃ u : Nat, k = -(u : Int) := ⟨k.natAbs, by omega⟩
    rw [Lib.itoa_neg u (by omega)]
    have := dig_le (u := u) (by omega)
    simp; omega
  · obtain ⟨u, rfl⟩ : ∃ u : Nat, k = u := ⟨k.toNat, by omega⟩
    rw [Lib.itoa_nonneg]
    have := dig_le (u := u) (by omega)
    omega

/-- A row's own value is a slice. -/
theorem owns_shape {w : World} {B n : Nat} {v : Value} {xs : List Value} (h : w.ownsRow B 5 1 v n xs) : ∃ oa c, v = .slice oa n c := by
  obtain ⟨_, h⟩ := h
  rcases h with ⟨rfl, rfl⟩ | ⟨g, cap, cur, rfl, _⟩
  · exact ⟨none, 0, rfl⟩
  · exact ⟨_, _, rfl⟩
theorem owns_some {w : World} {B n : Nat} {v : Value} {xs : List Value} (h : w.ownsRow B 5 1 v n xs) (hn : 1 ≤ n) : ∃ g c, v = .slice (some ⟨g, 0, none⟩) n c ∧ n ≤ c ∧ c ≤ maxLen ∧ B ≤ g ∧ g < w.heap.size := by
  have hlt := fun k hk => h.lt k hk
  obtain ⟨_, h⟩ := h
  rcases h with ⟨rfl, rfl⟩ | ⟨g, cap, cur, rfl, hb, hh, h1, h2, _⟩
  · omega
  · exact ⟨g, cap, rfl, h1, h2, hb, (Array.getElem?_eq_some_iff.1 hh).1⟩
theorem below_of {w w1 w2 : World} {B : Nat} (h : Below B w w1) (hB : B ≤ w.heap.size) (hg : w1.grownBy w2 none) : Below B w w2 :=
  h.grown hg (by have := h.size; omega) (fun k hk => by cases hk)
theorem below_own {w w1 w2 : World} {B : Nat} {sv : Value} {n : Nat} {xs : List Value} (h : Below B w w1) (hB : B ≤ w.heap.size) (ho : w1.ownsRow B 5 1 sv n xs) (hg : w1.grownBy w2 sv.ownBlock) : Below B w w2 :=
  h.grown hg (by have := h.size; omega) (fun k hk => (ho.lt k hk).1)
theorem below_drewN {w w1 : World} {B : Nat} (h : Below B w w1) (hB : B ≤ w.heap.size) (q : Nat) : Below B w (w1.drewN q) :=
  below_of h hB (grow_drewN (grow_refl _ _) q)

set_option maxHeartbeats 2000000 in
theorem law4_long (w : World) (oa : Option Addr) (n c b : Nat) (hn : n ≤ 9223372036854775807) (hl : (1048576 : Int) < n) :
    Calls Tryd.prog 4 #[.slice oa n c, .float .f64 b] w fun e w' => e = .returned (.bool true) ∧ Below w.heap.size w w' := by
  go_enter Tryd.func4, Tryd.ntmps4
  go_wp2_with fail
  refine (zzF_calls w oa n c b hn).mono ?_
  rintro e w1 ⟨rfl, rfl⟩
  rw [decide_eq_false (show ¬ n ≤ 1048576 by omega)]
  go_wp2
  go_ret
  exact ⟨rfl, Below.refl _ _⟩

set_option maxHeartbeats 2000000 in
theorem law4_bad (w : World) (oa : Option Addr) (n c b : Nat) (zs : List Int) (hd : IsBytes w (.slice oa n c) n zs) (hn : n ≤ 1048576) (hb : b < 18446744073709551616)
    (hbad : (inR b && (double.order b (truncW b) == some .eq)) = false) :
    Calls Tryd.prog 4 #[.slice oa n c, .float .f64 b] w fun e w' => e = .returned (.bool true) ∧ Below w.heap.size w w' := by
  have hl : decide ((1048576 : Int) < n) = false := decide_eq_false (by omega)
  go_enter Tryd.func4, Tryd.ntmps4
  go_wp2_with fail
  refine (zzF_calls w oa n c b (by omega)).mono ?_
  rintro e w0 ⟨rfl, rfl⟩
  rw [decide_eq_true hn]
  · go_wp2_with fail
    refine (clone_calls w0.heap.size n _ zs w0 hd (by omega) (Nat.le_refl _)).mono ?_
    rintro e w1 ⟨v1, rfl, hO1, hg1, hat1⟩
    have B1 : Below w0.heap.size w0 w1 := below_of (Below.refl _ _) (Nat.le_refl _) hg1
    go_wp2_with fail
    refine (clone_calls w0.heap.size n v1 zs w1 (owns_bytes hO1) (by omega) B1.size).mono ?_
    rintro e w2 ⟨v2, rfl, hO2, hg2, hat2⟩
    have B2 : Below w0.heap.size w0 w2 := below_of B1 (Nat.le_refl _) hg2
    go_wp2_with fail
    refine (zzF_bad v1 b hb w2 (.inr hbad)).mono ?_
    rintro e w3 ⟨rfl, hg3⟩
    have B3 : Below w0.heap.size w0 w3 := below_of B2 (Nat.le_refl _) hg3
    have E1 : IsBytes w3 v1 n zs := bytes_keep (bytes_keep (owns_bytes hO1) hg2 (fun _ _ _ => by simp)) hg3 (fun _ _ _ => by simp)
    have E2 : IsBytes w3 v2 n zs := bytes_keep (owns_bytes hO2) hg3 (fun _ _ _ => by simp)
    have heq : Hid (∀ {Q : Ending → World → Prop}, (∀ e w', e = .returned (.bool true) ∧ (∃ q, w' = w3.drewN q) → Q e w') → Calls Tryd.prog 8 #[v1, v2] w3 Q) := by
      intro Q hQ
      refine (eq_calls w3 v1 v2 n n zs zs E1 E2 (by omega) (by omega)).mono ?_
      rintro e w' ⟨rfl, q⟩
      exact hQ _ _ ⟨by rw [decide_eq_true rfl], q⟩
    have HB3 : Hid (Below w0.heap.size w0 w3) := B3
    clear hd E1 E2 B1 B2 B3 hO1 hO2 hg1 hg2 hg3 hat1 hat2 hn hb
    cases hA : (FloatKind.f64.format.order b 14069245235905429504 == some .gt || FloatKind.f64.format.order b 14069245235905429504 == some .eq) with
    | false =>
      clear hbad
      go_wp2_with fail
      refine heq.out ?_
      rintro e w4 ⟨rfl, q, rfl⟩
      go_wp2
      go_ret
      exact ⟨rfl, below_drewN HB3.out (Nat.le_refl _) q⟩
    | true =>
      cases hB : (FloatKind.f64.format.order b 4845873199050653696 == some .lt || FloatKind.f64.format.order b 4845873199050653696 == some .eq) with
      | false =>
        clear hbad
        go_wp2_with fail
        refine heq.out ?_
        rintro e w4 ⟨rfl, q, rfl⟩
        go_wp2
        go_ret
        exact ⟨rfl, below_drewN HB3.out (Nat.le_refl _) q⟩
      | true =>
        have hin : inR b = true := by
          unfold inR
          show (((FloatKind.f64.format.order b 14069245235905429504 == some .gt || FloatKind.f64.format.order b 14069245235905429504 == some .eq)) && ((FloatKind.f64.format.order b 4845873199050653696 == some .lt || FloatKind.f64.format.order b 4845873199050653696 == some .eq))) = true
          rw [hA, hB]; rfl
        obtain ⟨m, hv, _, _, hsame⟩ := whole_same b hin
        have hw : (FloatKind.f64.format.order (floatOfInt .f64 m) b == some .eq) = false := by
          show (double.order (floatOfInt .f64 m) b == some .eq) = false
          rw [hsame]
          rw [hin] at hbad
          exact hbad
        have hcv := fun w => run_convert_float_int (P := Tryd.prog) w 30 2 .f64 .i64 b m (by rw [Tryd.underlying30]; rfl) Tryd.underlying2 hv
        clear hbad hsame hin hv
        go_wp2_with fail
        refine heq.out ?_
        rintro e w4 ⟨rfl, q, rfl⟩
        go_wp2
        go_ret
        exact ⟨rfl, below_drewN HB3.out (Nat.le_refl _) q⟩
/-- A text of bytes that a slice holds, as a string. -/
theorem conv_of {w : World} {a : Addr} {n c : Nat} {l : List UInt8} (hl : l.length = n) (hc : ∀ j z, (nums l)[j]? = some z → w.cell? (a.add j) = some (.int .u8 z)) :
    (convert 22 9 (.slice (some a) n c)).run Tryd.prog w = .ok (.string ⟨l.toArray⟩) w := by
  subst hl
  refine run_convert_bytes_back w 22 9 5 a c l Tryd.underlying22 Tryd.underlying5 Tryd.underlying9 (fun j hj => ?_)
  exact hc j _ (by simp [nums, hj])

/-- Where a value lies that was laid in a given row. -/
theorem bytes_other {w w' : World} {v sv : Value} {n : Nat} {zs : List Int} (h : IsBytes w v n zs) (hg : w.grownBy w' sv.ownBlock) (hne : ∀ k, v.ownBlock = some k → sv.ownBlock = some k → False) : IsBytes w' v n zs :=
  bytes_keep h hg (fun a c e h2 => by
    subst e
    exact hne a.block rfl h2.symm)

set_option maxHeartbeats 4000000 in
theorem law4_good (w : World) (oa : Option Addr) (n c b : Nat) (zs : List Int) (hd : IsBytes w (.slice oa n c) n zs) (hn : n ≤ 1048576) (hb : b < 18446744073709551616)
    (htab : Lib.TabBelow Tryd.prog w.heap.size w pow10Name .u64 Lib.pow10Tab)
    (hgood : (inR b && (double.order b (truncW b) == some .eq)) = true) :
    Calls Tryd.prog 4 #[.slice oa n c, .float .f64 b] w fun e w' => e = .returned (.bool true) ∧ Below w.heap.size w w' := by
  have hin : inR b = true := by cases h : inR b with
    | true => rfl
    | false => rw [h] at hgood; cases hgood
  have hnan : (double.read b).isNaN = false := by
    cases h : (double.read b).isNaN with
    | false => rfl
    | true => rw [range_nan b h] at hin; cases hin
  obtain ⟨k, hv, hk1, hk2, hsame⟩ := whole_same b hin
  have hA : (FloatKind.f64.format.order b 14069245235905429504 == some .gt || FloatKind.f64.format.order b 14069245235905429504 == some .eq) = true := by
    have h := hin
    unfold inR at h
    exact (Bool.and_eq_true _ _ ▸ h).1
  have hB : (FloatKind.f64.format.order b 4845873199050653696 == some .lt || FloatKind.f64.format.order b 4845873199050653696 == some .eq) = true := by
    have h := hin
    unfold inR at h
    exact (Bool.and_eq_true _ _ ▸ h).2
  have hw : (FloatKind.f64.format.order (floatOfInt .f64 k) b == some .eq) = true := by
    show (double.order (floatOfInt .f64 k) b == some .eq) = true
    rw [hsame]
    rw [hin] at hgood
    exact hgood
  have hcv := fun w => run_convert_float_int (P := Tryd.prog) w 30 2 .f64 .i64 b k (by rw [Tryd.underlying30]; rfl) Tryd.underlying2 hv
  have hl : decide ((1048576 : Int) < n) = false := decide_eq_false (by omega)
  have HG : Hid ((inR b && (double.order b (truncW b) == some .eq)) = true) := hgood
  have HN : Hid ((double.read b).isNaN = false) := hnan
  have HV : Hid (floatToIntVal .f64 b .i64 = some k) := hv
  have hp1 := itoa_pos k
  have hp2 := itoa_le k (by omega) (by omega)
  obtain ⟨L, hL⟩ : ∃ L, Hid (L = Lib.itoa k) := ⟨_, rfl⟩
  rw [← hL.out] at hp1 hp2
  clear hsame hgood hnan hv hin
  go_enter Tryd.func4, Tryd.ntmps4
  go_wp2_with fail
  refine (zzF_calls w oa n c b (by omega)).mono ?_
  rintro e w0 ⟨rfl, rfl⟩
  rw [decide_eq_true hn]
  · go_wp2_with fail
    refine (clone_calls w0.heap.size n _ zs w0 hd (by omega) (Nat.le_refl _)).mono ?_
    rintro e w1 ⟨v1, rfl, hO1, hg1, hat1⟩
    have B1 : Below w0.heap.size w0 w1 := below_of (Below.refl _ _) (Nat.le_refl _) hg1
    go_wp2_with fail
    refine (clone_calls w0.heap.size n v1 zs w1 (owns_bytes hO1) (by omega) B1.size).mono ?_
    rintro e w2 ⟨v2, rfl, hO2, hg2, hat2⟩
    have B2 : Below w0.heap.size w0 w2 := below_of B1 (Nat.le_refl _) hg2
    have hO1' := owns_keep hO1 hg2
    go_wp2_with fail
    refine (zzF_good w0.heap.size n v1 (cells zs) b hb w2 hO1' B2.size (by omega) (htab.on B2) HN.out HG.out k HV.out hk1 hk2).mono ?_
    rintro e w3 ⟨v3, rfl, hO3⟩
    rw [← hL.out] at hO3
    have B3 : Below w0.heap.size w0 w3 := below_own B2 (Nat.le_refl _) hO1' hO3.2
    have E2 : IsBytes w3 v2 n zs := bytes_other (owns_bytes hO2) hO3.2 (fun j h2 h1 => by
      have a := hat2 j h2
      have b := hat1 j h1
      have c := (hO1.lt j h1).2
      omega)
    go_wp2_with fail
    refine (clone_calls w0.heap.size n v2 zs w3 E2 (by omega) B3.size).mono ?_
    rintro e w4 ⟨v4, rfl, hO4, hg4, hat4⟩
    have B4 : Below w0.heap.size w0 w4 := below_of B3 (Nat.le_refl _) hg4
    go_wp2_with fail
    refine (decimal_calls w0.heap.size n k (by omega) (by omega) v4 (cells zs) w4 hO4 B4.size (by omega)).mono ?_
    rintro e w5 ⟨v5, rfl, hO5⟩
    rw [← hL.out] at hO5
    have B5 : Below w0.heap.size w0 w5 := below_own B4 (Nat.le_refl _) hO4 hO5.2
    have O3 : w3.ownsRow w0.heap.size 5 1 v3 (n + L.length) (cells (zs ++ nums L)) := by rw [← cells_app]; exact hO3.1
    have O5 : w5.ownsRow w0.heap.size 5 1 v5 (n + L.length) (cells (zs ++ nums L)) := by rw [← cells_app]; exact hO5.1
    have E3 : IsBytes w5 v3 (n + L.length) (zs ++ nums L) := bytes_other (bytes_keep (owns_bytes O3) hg4 (fun _ _ _ => by simp)) hO5.2 (fun j h3 h4 => by
      have a := (O3.lt j h3).2
      have b := hat4 j h4
      omega)
    have heq : Hid (∀ {Q : Ending → World → Prop}, (∀ e w', e = .returned (.bool true) ∧ (∃ q, w' = w5.drewN q) → Q e w') → Calls Tryd.prog 8 #[v3, v5] w5 Q) := by
      intro Q hQ
      refine (eq_calls w5 v3 v5 _ _ _ _ E3 (owns_bytes O5) (by omega) (by omega)).mono ?_
      rintro e w' ⟨rfl, q⟩
      exact hQ _ _ ⟨by rw [decide_eq_true rfl], q⟩
    go_wp2_with fail
    refine heq.out ?_
    rintro e w6 ⟨rfl, q, rfl⟩
    clear heq
    have B6 := below_drewN B5 (Nat.le_refl _) q
    go_wp2_with fail
    refine (zzI_good w0.heap.size 0 (.slice none 0 0) [] k (w5.drewN q) (World.ownsRow_nil _ _ _ _) B6.size (by omega) (htab.on B6) hk1 hk2).mono ?_
    rintro e w7 ⟨v7, rfl, hO7⟩
    rw [← hL.out] at hO7
    have B7 : Below w0.heap.size w0 w7 := below_own B6 (Nat.le_refl _) (World.ownsRow_nil _ _ _ _) hO7.2
    have O7 : w7.ownsRow w0.heap.size 5 1 v7 L.length (cells (nums L)) := by rw [← cells_nil_app, ← Nat.zero_add L.length]; exact hO7.1
    have E7 : IsBytes w7 v7 L.length (nums L) := owns_bytes O7
    have E3' : IsBytes w7 v3 (n + L.length) (zs ++ nums L) := bytes_keep (bytes_keep (r := none) E3 (grow_drewN (grow_refl _ _) q) (fun _ _ _ => by simp)) hO7.2 (fun _ _ _ => by simp [Value.ownBlock])
    obtain ⟨g7, c7, rfl, _⟩ := owns_some O7 (by omega)
    obtain ⟨g3, c3, rfl, hc3, _⟩ := owns_some O3 (by omega)
    obtain ⟨oa2, c2, rfl⟩ := owns_shape hO2
    have F7 : ∀ q, (convert 22 9 (.slice (some ⟨g7, 0, none⟩) L.length c7)).run Tryd.prog (w7.drewN q) = .ok (.string ⟨L.toArray⟩) (w7.drewN q) := by
      intro q
      obtain ⟨_, _, h⟩ := E7
      rcases h with ⟨h, _⟩ | ⟨a, c', h, hc⟩
      · cases h
      · cases h
        exact conv_of rfl (fun j z hj => by rw [World.cell?_drewN]; exact hc j z hj)
    have F3 : ∀ q, (convert 22 9 (.slice (some ⟨g3, n, none⟩) L.length (c3 - n))).run Tryd.prog (w7.drewN q) = .ok (.string ⟨L.toArray⟩) (w7.drewN q) := by
      intro q
      obtain ⟨hll, _, h⟩ := E3'
      rcases h with ⟨h, _⟩ | ⟨a, c', h, hc⟩
      · cases h
      · cases h
        have hz : zs.length = n := hd.1
        refine conv_of rfl (fun j z hj => ?_)
        have := hc (n + j) z (by rw [List.getElem?_append_right (by omega), ← hz, Nat.add_sub_cancel_left]; exact hj)
        rw [Lib.add_plain] at this ⊢
        rw [World.cell?_drewN, ← this]
        simp
    have hsl : ∀ W, (Instr.slice 22 (.slice (some ⟨g3, 0, none⟩) (n + L.length) c3) (some (.int .i64 (n : Int))) none none).run Tryd.prog W = .ok (.slice (some ⟨g3, n, none⟩) L.length (c3 - n)) W := fun W => by
      have e5 : Tryd.prog.elem 22 = 5 := by kernel_rfl
      rw [run_slice_l W 22 (some ⟨g3, 0, none⟩) (n + L.length) c3 (by rw [Tryd.underlying22, e5]) .i64 (n : Int) (by omega) (by omega)]
      go_simp
      omega
    have HB7 : Hid (Below w0.heap.size w0 w7) := B7
    clear hd E2 E3 E3' E7 O3 O5 O7 B1 B2 B3 B4 B5 B6 B7 hO1 hO1' hO2 hO3 hO4 hO5 hO7 hg1 hg2 hg4 hat1 hat2 hat4 hn hb htab hc3
    go_wp2_with fail
    go_quiet (fail)
    go_wp2
    go_ret
    exact ⟨rfl, below_drewN HB7.out (Nat.le_refl _) _⟩
end Go.Proofs.Qxb6614357aDoor
