/-
  THE PROOF of 'Rows.FnContainsCutAndDeleteAllSaid' (seat b6614171a).
-/
import Derived.Test.Qxb6614171aLawB
import Derived.Test.Qxb6614171aOpen
namespace Go.Proofs.Qxb6614171a
open Go.ChangeShapes Go.WideShapes Go.ChangeAt Go.RowKit
open Go.ChangeMaps (open_string shut_string)

set_option maxRecDepth 100000 in
set_option maxHeartbeats 2000000 in
theorem law4_walk (w : World) (a : Option Addr) (n c : Nat) (p : Int) (rs : List R) (h : IsRows w a n rs) (q : ByteArray) :
    Calls Try.prog 4 #[.slice a n c, .int .i64 p, .string q] w fun e w' => e = .returned (.bool true) ∧ Below w.heap.size w w' := by
  by_cases h3 : 262144 < q.size
  · have f3 : (262144 : Int) < q.size := by omega
    go_enter Try.func4, Try.ntmps4
    go_wp2_with fail
    refine (zzBytesB_calls w a n c rs h p q).mono ?_
    rintro e w1 ⟨⟨b, rfl⟩, rfl⟩
    cases b with
    | false =>
      go_wp2
      go_ret
      exact ⟨rfl, Below.refl _ _⟩
    | true =>
      go_wp2
      go_ret
      exact ⟨rfl, Below.refl _ _⟩
  have f3 : decide ((262144 : Int) < q.size) = false := by simp; omega
  by_cases h4 : p < 0
  · go_enter Try.func4, Try.ntmps4
    go_wp2_with fail
    refine (zzBytesB_calls w a n c rs h p q).mono ?_
    rintro e w1 ⟨⟨b, rfl⟩, rfl⟩
    cases b with
    | false =>
      go_wp2
      go_ret
      exact ⟨rfl, Below.refl _ _⟩
    | true =>
      go_wp2_with fail
      refine (tooBig_calls w1 a n c rs h _).mono ?_
      rintro e w2 ⟨⟨b, rfl, hn⟩, z, rfl⟩
      clear hn
      cases b with
      | true =>
        go_wp2
        go_ret
        exact ⟨rfl, below_drewN (Below.refl _ _) z⟩
      | false =>
        go_wp2
        go_ret
        exact ⟨rfl, below_drewN (Below.refl _ _) z⟩
  by_cases h5 : (n : Int) < p
  · have f4 : decide (p < 0) = false := by simpa using h4
    go_enter Try.func4, Try.ntmps4
    go_wp2_with fail
    refine (zzBytesB_calls w a n c rs h p q).mono ?_
    rintro e w1 ⟨⟨b, rfl⟩, rfl⟩
    cases b with
    | false =>
      go_wp2
      go_ret
      exact ⟨rfl, Below.refl _ _⟩
    | true =>
      go_wp2_with fail
      refine (tooBig_calls w1 a n c rs h _).mono ?_
      rintro e w2 ⟨⟨b, rfl, hn⟩, z, rfl⟩
      clear hn
      cases b with
      | true =>
        go_wp2
        go_ret
        exact ⟨rfl, below_drewN (Below.refl _ _) z⟩
      | false =>
        go_wp2
        go_ret
        exact ⟨rfl, below_drewN (Below.refl _ _) z⟩
  obtain ⟨k, rfl⟩ : ∃ k : Nat, p = (k : Int) := ⟨p.toNat, by omega⟩
  exact law4_main w a n c k rs h q (by omega) (by omega)

set_option maxRecDepth 100000 in
theorem law4_lifted (os : Os) (started : os.Started) (H : Type) (enc : TypeId × Value → H) :
    ReturnsInHanded {} Try.checked os 4 .any (Rows.fnContainsCutAndDeleteAllSpec.pre6 enc Try.prog Try.f4 Rows.fnContainsCutAndDeleteAllRow.domain false) (Rows.fnContainsCutAndDeleteAllSpec.post enc Try.prog Try.f4 false true false false) := by
  refine returnsInHanded_of_change (C := Try.checked) own started (by kernel_rfl) Try.func4
    (ChangeSpec.witness6 (enc := enc) (C := Try.checked) false ⟨#[], #[.slice none 0 0, .int .i64 0, .string ByteArray.empty], []⟩ 8 (by kernel_rfl) (by kernel_rfl) (by kernel_rfl) (by kernel_rfl)) ?_
  intro W base args ds gs before hval0 hW hcnd _
  have hval : ∀ (j : Nat) t v, Try.f4.params[j]? = some t → args[j]? = some v → Value.okWide Try.prog W .any base t v := hval0
  have hW' := hW
  obtain ⟨p, q, hA0, hV, rfl, hfz, hnd⟩ := hW
  have hA : DataW.TrodAll enc Try.prog W 0 (fun _ => true) true Try.f4.params.toList args.toList ds p := hA0
  rw [Try.params4] at hA hval
  obtain ⟨v0, vs0, d0, ds0, p0, q0, hargs, rfl, rfl, h0, r0⟩ := trodAll_cons hA
  obtain ⟨v1, vs1, d1, ds1, p1, q1, rfl, rfl, rfl, h1, r1⟩ := trodAll_cons r0
  obtain ⟨v2, vs2, d2, ds2, p2, q2, rfl, rfl, rfl, h2, r2⟩ := trodAll_cons r1
  obtain ⟨rfl, rfl, rfl⟩ := trodAll_nil r2
  obtain rfl : args = #[v0, v1, v2] := by cases args; simp_all
  obtain ⟨rfl, rfl⟩ := trodVars_none hV
  obtain ⟨a0, len0, cap0, rfl⟩ := okWide_slice Try.underlying22 (hval 0 22 v0 rfl rfl)
  have lt0 : ∀ x ∈ p0, x.block < W.heap.size := by obtain ⟨m, hm⟩ := h0; exact DataW.trod_lt m _ _ _ hm
  obtain ⟨rs, hr⟩ := rows_opened h0
  obtain ⟨a1, rfl, rfl, rfl, w1⟩ := open_int Try.underlying3 (hval 1 3 v1 rfl rfl) h1
  obtain ⟨a2, rfl, rfl, rfl, w2⟩ := open_string Try.underlying9 (hval 2 9 v2 rfl rfl) h2
  clear hA0 hval0
  refine (law4_walk W a0 len0 cap0 a1 rs hr a2).mono fun e W' ⟨he, bel⟩ => ?_
  subst he
  exact ⟨_, rfl, _, _, _, [], _, [], hW', trodAll_mk1 (shut_bool Try.underlying4 _), (trodAll_cons_mk (Below.trod laidOut (by kernel_rfl) (of_decide_eq_true (by kernel_rfl)) h0 bel lt0) (trodAll_cons_mk (shut_int Try.underlying3 w1) (trodAll_cons_mk (shut_string Try.underlying9 w2) trodAll_mk0))), rfl, bel.frame _, fun h => by cases h⟩

theorem law4_over : Rows.fnContainsCutAndDeleteAllRow.holds Try.pinned (OpenSpec.ofChange Rows.fnContainsCutAndDeleteAllSpec) :=
  OpenClaim.holds_of_wide 4 Try.f4 rfl rfl rfl rfl rfl rfl rfl ⟨rfl, rfl, rfl, rfl, rfl⟩ rfl rfl rfl rfl rfl (by kernel_rfl) Try.func4 (by kernel_rfl)
    (of_decide_eq_true (by kernel_rfl)) (by unfold Func.isWrapper; first | (rw [if_pos (by decide +kernel)]; kernel_rfl) | (rw [if_neg (by decide +kernel)]; exact ⟨rfl, rfl⟩))
    (fun os started H enc _ => law4_lifted os started H enc)

/-- THE STATEMENT. -/
theorem fnContainsCutAndDeleteAll_proved : Rows.FnContainsCutAndDeleteAllSaid := law4_over
#print axioms fnContainsCutAndDeleteAll_proved
end Go.Proofs.Qxb6614171a
