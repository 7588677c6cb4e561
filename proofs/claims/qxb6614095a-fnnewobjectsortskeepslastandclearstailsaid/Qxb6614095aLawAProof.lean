/-
  THE PROOF of 'Rows.FnNewObjectSortsKeepsLastAndClearsTailSaid' (seat b6614095a).
-/
import Derived.Test.Qxb6614095aLawA
import Derived.Test.Qxb6614095aOpen
namespace Go.Proofs.Qxb6614095a
open Go.ChangeShapes Go.WideShapes Go.ChangeAt Go.RowKit

set_option maxRecDepth 100000 in
set_option maxHeartbeats 1000000 in
theorem law1_walk (w : World) (a c : Option Addr) (n m ca cc : Nat) (ks : List ByteArray) (vs : List Int) (hk : IsStrs w a n ks) (hv : IsInts w c m vs) :
    Calls Try.prog 3 #[.slice a n ca, .slice c m cc] w fun e w' => e = .returned (.bool true) ∧ Below w.heap.size w w' := by
  by_cases h1 : 4096 < n
  · have h1' : (4096 : Int) < n := by omega
    go_enter Try.func3, Try.ntmps3
    go_wp2_with fail
    refine (zzBytes1_calls w a c n m ca cc ks vs hk hv).mono ?_
    rintro e w1 ⟨⟨b, rfl⟩, rfl⟩
    cases b with
    | false =>
      go_wp2
      go_ret
      exact ⟨rfl, Below.refl _ _⟩
    | true =>
      go_wp2
      go_ret
      exact ⟨rfl, Below.refl _ _⟩
  by_cases h2 : 4096 < m
  · have h1' : decide ((4096 : Int) < n) = false := by simp; omega
    have h2' : (4096 : Int) < m := by omega
    go_enter Try.func3, Try.ntmps3
    go_wp2_with fail
    refine (zzBytes1_calls w a c n m ca cc ks vs hk hv).mono ?_
    rintro e w1 ⟨⟨b, rfl⟩, rfl⟩
    cases b with
    | false =>
      go_wp2
      go_ret
      exact ⟨rfl, Below.refl _ _⟩
    | true =>
      go_wp2
      go_ret
      exact ⟨rfl, Below.refl _ _⟩
  by_cases h3 : n = m
  · subst h3
    exact law1_main w a c n ca cc ks vs hk hv (by omega)
  · have h1' : decide ((4096 : Int) < n) = false := by simp; omega
    have h2' : decide ((4096 : Int) < m) = false := by simp; omega
    have h3' : (((n : Nat) : Int) != (m : Int)) = true := by rw [bne_iff_ne]; omega
    clear h3
    go_enter Try.func3, Try.ntmps3
    go_wp2_with fail
    refine (zzBytes1_calls w a c n m ca cc ks vs hk hv).mono ?_
    rintro e w1 ⟨⟨b, rfl⟩, rfl⟩
    cases b with
    | false =>
      go_wp2
      go_ret
      exact ⟨rfl, Below.refl _ _⟩
    | true =>
      go_wp2_with fail
      refine (add_calls w1 n a ca _ ks hk).mono ?_
      rintro e w2 ⟨⟨t, rfl⟩, rfl⟩
      by_cases ht : 1048576 < t
      · go_wp2
        go_ret
        exact ⟨rfl, Below.refl _ _⟩
      · go_wp2
        go_ret
        exact ⟨rfl, Below.refl _ _⟩

set_option maxRecDepth 100000 in
theorem law1_lifted (os : Os) (started : os.Started) (H : Type) (enc : TypeId × Value → H) :
    ReturnsInHanded {} Try.checked os 3 .any (Rows.fnNewObjectSortsKeepsLastAndClearsTailSpec.pre6 enc Try.prog Try.f3 Rows.fnNewObjectSortsKeepsLastAndClearsTailRow.domain false) (Rows.fnNewObjectSortsKeepsLastAndClearsTailSpec.post enc Try.prog Try.f3 false true false false) := by
  refine returnsInHanded_of_change (C := Try.checked) own started (by kernel_rfl) Try.func3
    (ChangeSpec.witness6 (enc := enc) (C := Try.checked) false ⟨#[], #[.slice none 0 0, .slice none 0 0], []⟩ 8 (by kernel_rfl) (by kernel_rfl) (by kernel_rfl) (by kernel_rfl)) ?_
  intro W base args ds gs before hval0 hW hcnd _
  have hval : ∀ (j : Nat) t v, Try.f3.params[j]? = some t → args[j]? = some v → Value.okWide Try.prog W .any base t v := hval0
  have hW' := hW
  obtain ⟨p, q, hA0, hV, rfl, hfz, hnd⟩ := hW
  have hA : DataW.TrodAll enc Try.prog W 0 (fun _ => true) true Try.f3.params.toList args.toList ds p := hA0
  rw [Try.params3] at hA hval
  obtain ⟨v0, vs0, d0, ds0, p0, q0, hargs, rfl, rfl, h0, r0⟩ := trodAll_cons hA
  obtain ⟨v1, vs1, d1, ds1, p1, q1, rfl, rfl, rfl, h1, r1⟩ := trodAll_cons r0
  obtain ⟨rfl, rfl, rfl⟩ := trodAll_nil r1
  obtain rfl : args = #[v0, v1] := by cases args; simp_all
  obtain ⟨rfl, rfl⟩ := trodVars_none hV
  obtain ⟨a0, len0, cap0, rfl⟩ := okWide_slice Try.underlying22 (hval 0 22 v0 rfl rfl)
  have lt0 : ∀ x ∈ p0, x.block < W.heap.size := by obtain ⟨m, hm⟩ := h0; exact DataW.trod_lt m _ _ _ hm
  obtain ⟨ks, hk⟩ := strs_opened h0
  obtain ⟨a1, len1, cap1, rfl⟩ := okWide_slice Try.underlying23 (hval 1 23 v1 rfl rfl)
  have lt1 : ∀ x ∈ p1, x.block < W.heap.size := by obtain ⟨m, hm⟩ := h1; exact DataW.trod_lt m _ _ _ hm
  obtain ⟨vs, hv⟩ := ints_opened h1
  clear hA0 hval0
  refine (law1_walk W a0 a1 len0 len1 cap0 cap1 ks vs hk hv).mono fun e W' ⟨he, bel⟩ => ?_
  subst he
  exact ⟨_, rfl, _, _, _, [], _, [], hW', trodAll_mk1 (shut_bool Try.underlying4 _), (trodAll_cons_mk (Below.trod laidOut (by kernel_rfl) (of_decide_eq_true (by kernel_rfl)) h0 bel lt0) (trodAll_cons_mk (Below.trod laidOut (by kernel_rfl) (of_decide_eq_true (by kernel_rfl)) h1 bel lt1) trodAll_mk0)), rfl, bel.frame _, fun h => by cases h⟩

theorem law1_over : Rows.fnNewObjectSortsKeepsLastAndClearsTailRow.holds Try.pinned (OpenSpec.ofChange Rows.fnNewObjectSortsKeepsLastAndClearsTailSpec) :=
  OpenClaim.holds_of_wide 3 Try.f3 rfl rfl rfl rfl rfl rfl rfl ⟨rfl, rfl, rfl, rfl, rfl⟩ rfl rfl rfl rfl rfl (by kernel_rfl) Try.func3 (by kernel_rfl)
    (of_decide_eq_true (by kernel_rfl)) (by unfold Func.isWrapper; first | (rw [if_pos (by decide +kernel)]; kernel_rfl) | (rw [if_neg (by decide +kernel)]; exact ⟨rfl, rfl⟩))
    (fun os started H enc _ => law1_lifted os started H enc)

/-- THE STATEMENT. -/
theorem fnNewObjectSortsKeepsLastAndClearsTail_proved : Rows.FnNewObjectSortsKeepsLastAndClearsTailSaid := law1_over
#print axioms fnNewObjectSortsKeepsLastAndClearsTail_proved
end Go.Proofs.Qxb6614095a
