/-
  THE PROOF of 'Rows.FnNewObjectOfJoinIsNewObjectOfNormalisedPartsSaid' (seat b6614095a).
-/
import Derived.Test.Qxb6614095aLawB
import Derived.Test.Qxb6614095aOpen
namespace Go.Proofs.Qxb6614095a
open Go.ChangeShapes Go.WideShapes Go.ChangeAt Go.RowKit

set_option maxRecDepth 100000 in
set_option maxHeartbeats 2000000 in
theorem law2_walk (w : World) (a c a' c' : Option Addr) (n m ca cc n' m' ca' cc' : Nat) (ks ks' : List ByteArray) (vs vs' : List Int) (hk : IsStrs w a n ks) (hv : IsInts w c m vs) (hk' : IsStrs w a' n' ks') (hv' : IsInts w c' m' vs') :
    Calls Try.prog 4 #[.slice a n ca, .slice c m cc, .slice a' n' ca', .slice c' m' cc'] w fun e w' => e = .returned (.bool true) ∧ Below w.heap.size w w' := by
  by_cases h1 : 4096 < n
  · have f1 : (4096 : Int) < n := by omega
    go_enter Try.func4, Try.ntmps4
    go_wp2_with fail
    refine (zzBytes2_calls w a c a' c' n m ca cc n' m' ca' cc' ks ks' vs vs' hk hv hk' hv').mono ?_
    rintro e w1 ⟨⟨b, rfl⟩, rfl⟩
    cases b with
    | false =>
      go_wp2
      go_ret
      exact ⟨rfl, Below.refl _ _⟩
    | true =>
      go_wp2
      go_ret
      exact ⟨rfl, Below.refl _ _⟩
  by_cases h2 : 4096 < m
  · have f1 : decide ((4096 : Int) < n) = false := by simp; omega
    have f2 : (4096 : Int) < m := by omega
    go_enter Try.func4, Try.ntmps4
    go_wp2_with fail
    refine (zzBytes2_calls w a c a' c' n m ca cc n' m' ca' cc' ks ks' vs vs' hk hv hk' hv').mono ?_
    rintro e w1 ⟨⟨b, rfl⟩, rfl⟩
    cases b with
    | false =>
      go_wp2
      go_ret
      exact ⟨rfl, Below.refl _ _⟩
    | true =>
      go_wp2
      go_ret
      exact ⟨rfl, Below.refl _ _⟩
  by_cases h3 : 4096 < n'
  · have f1 : decide ((4096 : Int) < n) = false := by simp; omega
    have f2 : decide ((4096 : Int) < m) = false := by simp; omega
    have f3 : (4096 : Int) < n' := by omega
    go_enter Try.func4, Try.ntmps4
    go_wp2_with fail
    refine (zzBytes2_calls w a c a' c' n m ca cc n' m' ca' cc' ks ks' vs vs' hk hv hk' hv').mono ?_
    rintro e w1 ⟨⟨b, rfl⟩, rfl⟩
    cases b with
    | false =>
      go_wp2
      go_ret
      exact ⟨rfl, Below.refl _ _⟩
    | true =>
      go_wp2
      go_ret
      exact ⟨rfl, Below.refl _ _⟩
  by_cases h4 : 4096 < m'
  · have f1 : decide ((4096 : Int) < n) = false := by simp; omega
    have f2 : decide ((4096 : Int) < m) = false := by simp; omega
    have f3 : decide ((4096 : Int) < n') = false := by simp; omega
    have f4 : (4096 : Int) < m' := by omega
    go_enter Try.func4, Try.ntmps4
    go_wp2_with fail
    refine (zzBytes2_calls w a c a' c' n m ca cc n' m' ca' cc' ks ks' vs vs' hk hv hk' hv').mono ?_
    rintro e w1 ⟨⟨b, rfl⟩, rfl⟩
    cases b with
    | false =>
      go_wp2
      go_ret
      exact ⟨rfl, Below.refl _ _⟩
    | true =>
      go_wp2
      go_ret
      exact ⟨rfl, Below.refl _ _⟩
  by_cases h5 : n = m
  · subst h5
    by_cases h6 : n' = m'
    · subst h6
      exact law2_main w a c a' c' n ca cc n' ca' cc' ks ks' vs vs' hk hv hk' hv' (by omega) (by omega)
    · have f1 : decide ((4096 : Int) < n) = false := by simp; omega
      have f3 : decide ((4096 : Int) < n') = false := by simp; omega
      have f4 : decide ((4096 : Int) < m') = false := by simp; omega
      have f5 : (((n : Nat) : Int) != (n : Int)) = false := by simp
      have f6 : (((n' : Nat) : Int) != (m' : Int)) = true := by rw [bne_iff_ne]; omega
      clear h6
      go_enter Try.func4, Try.ntmps4
      go_wp2_with fail
      refine (zzBytes2_calls w a c a' c' n n ca cc n' m' ca' cc' ks ks' vs vs' hk hv hk' hv').mono ?_
      rintro e w1 ⟨⟨b, rfl⟩, rfl⟩
      cases b with
      | false =>
        go_wp2
        go_ret
        exact ⟨rfl, Below.refl _ _⟩
      | true =>
        go_wp2_with fail
        refine (add_calls w1 n a ca _ ks hk).mono ?_
        rintro e w2 ⟨⟨t, rfl⟩, rfl⟩
        by_cases ht : 1048576 < t
        · go_wp2
          go_ret
          exact ⟨rfl, Below.refl _ _⟩
        · go_wp2_with fail
          refine (add_calls w2 n' a' ca' _ ks' hk').mono ?_
          rintro e w3 ⟨⟨t2, rfl⟩, rfl⟩
          by_cases ht2 : 1048576 < t2
          · go_wp2
            go_ret
            exact ⟨rfl, Below.refl _ _⟩
          · go_wp2
            go_ret
            exact ⟨rfl, Below.refl _ _⟩
  · have f1 : decide ((4096 : Int) < n) = false := by simp; omega
    have f2 : decide ((4096 : Int) < m) = false := by simp; omega
    have f3 : decide ((4096 : Int) < n') = false := by simp; omega
    have f4 : decide ((4096 : Int) < m') = false := by simp; omega
    have f5 : (((n : Nat) : Int) != (m : Int)) = true := by rw [bne_iff_ne]; omega
    clear h5
    go_enter Try.func4, Try.ntmps4
    go_wp2_with fail
    refine (zzBytes2_calls w a c a' c' n m ca cc n' m' ca' cc' ks ks' vs vs' hk hv hk' hv').mono ?_
    rintro e w1 ⟨⟨b, rfl⟩, rfl⟩
    cases b with
    | false =>
      go_wp2
      go_ret
      exact ⟨rfl, Below.refl _ _⟩
    | true =>
      go_wp2_with fail
      refine (add_calls w1 n a ca _ ks hk).mono ?_
      rintro e w2 ⟨⟨t, rfl⟩, rfl⟩
      by_cases ht : 1048576 < t
      · go_wp2
        go_ret
        exact ⟨rfl, Below.refl _ _⟩
      · go_wp2_with fail
        refine (add_calls w2 n' a' ca' _ ks' hk').mono ?_
        rintro e w3 ⟨⟨t2, rfl⟩, rfl⟩
        by_cases ht2 : 1048576 < t2
        · go_wp2
          go_ret
          exact ⟨rfl, Below.refl _ _⟩
        · go_wp2
          go_ret
          exact ⟨rfl, Below.refl _ _⟩

set_option maxRecDepth 100000 in
theorem law2_lifted (os : Os) (started : os.Started) (H : Type) (enc : TypeId × Value → H) :
    ReturnsInHanded {} Try.checked os 4 .any (Rows.fnNewObjectOfJoinIsNewObjectOfNormalisedPartsSpec.pre6 enc Try.prog Try.f4 Rows.fnNewObjectOfJoinIsNewObjectOfNormalisedPartsRow.domain false) (Rows.fnNewObjectOfJoinIsNewObjectOfNormalisedPartsSpec.post enc Try.prog Try.f4 false true false false) := by
  refine returnsInHanded_of_change (C := Try.checked) own started (by kernel_rfl) Try.func4
    (ChangeSpec.witness6 (enc := enc) (C := Try.checked) false ⟨#[], #[.slice none 0 0, .slice none 0 0, .slice none 0 0, .slice none 0 0], []⟩ 8 (by kernel_rfl) (by kernel_rfl) (by kernel_rfl) (by kernel_rfl)) ?_
  intro W base args ds gs before hval0 hW hcnd _
  have hval : ∀ (j : Nat) t v, Try.f4.params[j]? = some t → args[j]? = some v → Value.okWide Try.prog W .any base t v := hval0
  have hW' := hW
  obtain ⟨p, q, hA0, hV, rfl, hfz, hnd⟩ := hW
  have hA : DataW.TrodAll enc Try.prog W 0 (fun _ => true) true Try.f4.params.toList args.toList ds p := hA0
  rw [Try.params4] at hA hval
  obtain ⟨v0, vs0, d0, ds0, p0, q0, hargs, rfl, rfl, h0, r0⟩ := trodAll_cons hA
  obtain ⟨v1, vs1, d1, ds1, p1, q1, rfl, rfl, rfl, h1, r1⟩ := trodAll_cons r0
  obtain ⟨v2, vs2, d2, ds2, p2, q2, rfl, rfl, rfl, h2, r2⟩ := trodAll_cons r1
  obtain ⟨v3, vs3, d3, ds3, p3, q3, rfl, rfl, rfl, h3, r3⟩ := trodAll_cons r2
  obtain ⟨rfl, rfl, rfl⟩ := trodAll_nil r3
  obtain rfl : args = #[v0, v1, v2, v3] := by cases args; simp_all
  obtain ⟨rfl, rfl⟩ := trodVars_none hV
  obtain ⟨a0, len0, cap0, rfl⟩ := okWide_slice Try.underlying22 (hval 0 22 v0 rfl rfl)
  have lt0 : ∀ x ∈ p0, x.block < W.heap.size := by obtain ⟨m, hm⟩ := h0; exact DataW.trod_lt m _ _ _ hm
  obtain ⟨ks, hk⟩ := strs_opened h0
  obtain ⟨a1, len1, cap1, rfl⟩ := okWide_slice Try.underlying23 (hval 1 23 v1 rfl rfl)
  have lt1 : ∀ x ∈ p1, x.block < W.heap.size := by obtain ⟨m, hm⟩ := h1; exact DataW.trod_lt m _ _ _ hm
  obtain ⟨vs, hv⟩ := ints_opened h1
  obtain ⟨a2, len2, cap2, rfl⟩ := okWide_slice Try.underlying22 (hval 2 22 v2 rfl rfl)
  have lt2 : ∀ x ∈ p2, x.block < W.heap.size := by obtain ⟨m, hm⟩ := h2; exact DataW.trod_lt m _ _ _ hm
  obtain ⟨ks', hk'⟩ := strs_opened h2
  obtain ⟨a3, len3, cap3, rfl⟩ := okWide_slice Try.underlying23 (hval 3 23 v3 rfl rfl)
  have lt3 : ∀ x ∈ p3, x.block < W.heap.size := by obtain ⟨m, hm⟩ := h3; exact DataW.trod_lt m _ _ _ hm
  obtain ⟨vs', hv'⟩ := ints_opened h3
  clear hA0 hval0
  refine (law2_walk W a0 a1 a2 a3 len0 len1 cap0 cap1 len2 len3 cap2 cap3 ks ks' vs vs' hk hv hk' hv').mono fun e W' ⟨he, bel⟩ => ?_
  subst he
  exact ⟨_, rfl, _, _, _, [], _, [], hW', trodAll_mk1 (shut_bool Try.underlying4 _), (trodAll_cons_mk (Below.trod laidOut (by kernel_rfl) (of_decide_eq_true (by kernel_rfl)) h0 bel lt0) (trodAll_cons_mk (Below.trod laidOut (by kernel_rfl) (of_decide_eq_true (by kernel_rfl)) h1 bel lt1) (trodAll_cons_mk (Below.trod laidOut (by kernel_rfl) (of_decide_eq_true (by kernel_rfl)) h2 bel lt2) (trodAll_cons_mk (Below.trod laidOut (by kernel_rfl) (of_decide_eq_true (by kernel_rfl)) h3 bel lt3) trodAll_mk0)))), rfl, bel.frame _, fun h => by cases h⟩

theorem law2_over : Rows.fnNewObjectOfJoinIsNewObjectOfNormalisedPartsRow.holds Try.pinned (OpenSpec.ofChange Rows.fnNewObjectOfJoinIsNewObjectOfNormalisedPartsSpec) :=
  OpenClaim.holds_of_wide 4 Try.f4 rfl rfl rfl rfl rfl rfl rfl ⟨rfl, rfl, rfl, rfl, rfl⟩ rfl rfl rfl rfl rfl (by kernel_rfl) Try.func4 (by kernel_rfl)
    (of_decide_eq_true (by kernel_rfl)) (by unfold Func.isWrapper; first | (rw [if_pos (by decide +kernel)]; kernel_rfl) | (rw [if_neg (by decide +kernel)]; exact ⟨rfl, rfl⟩))
    (fun os started H enc _ => law2_lifted os started H enc)

/-- THE STATEMENT. -/
theorem fnNewObjectOfJoinIsNewObjectOfNormalisedParts_proved : Rows.FnNewObjectOfJoinIsNewObjectOfNormalisedPartsSaid := law2_over
#print axioms fnNewObjectOfJoinIsNewObjectOfNormalisedParts_proved
end Go.Proofs.Qxb6614095a
