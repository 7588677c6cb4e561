/-
  THE PROOF of 'Rows.FnAppendUnitFloat64CardSaid' (seat b6614357aD).
-/
import Derived.Test.Qxb6614357aDoorLawA
import Derived.Test.Qxb6614357aDoorOpen
import Derived.Test.Qxb6614357aDoorTie
import Derived.Test.Qxb6614357aDoorCards
import Derived.SevenTiedAt
import Derived.Stop.Joined
namespace Go.Proofs.Qxb6614357aDoor
open Go.ChangeShapes Go.WideShapes Go.ChangeAt Go.RowKit Ieee

theorem law4_walk (w : World) (oa : Option Addr) (n c b : Nat) (zs : List Int) (hd : IsBytes w (.slice oa n c) n zs) (hb : b < 18446744073709551616)
    (htab : Lib.TabBelow Tryd.prog w.heap.size w pow10Name .u64 Lib.pow10Tab) :
    Calls Tryd.prog 4 #[.slice oa n c, .float .f64 b] w fun e w' => e = .returned (.bool true) ∧ Below w.heap.size w w' := by
  have hm : n ≤ 9223372036854775807 := hd.2.1
  by_cases hn : n ≤ 1048576
  · cases hg : (inR b && (double.order b (truncW b) == some .eq)) with
    | true => exact law4_good w oa n c b zs hd hn hb htab hg
    | false => exact law4_bad w oa n c b zs hd hn hb hg
  · exact law4_long w oa n c b hm (by omega)

set_option maxRecDepth 100000 in
theorem law4_lifted (os : Os) (started : os.Started) (H : Type) (enc : TypeId × Value → H) :
    ReturnsInHanded {} Tryd.checked os 4 .any (fun w args => (Rows.fnAppendUnitFloat64Spec.pre enc Tryd.prog Tryd.f4 Rows.fnAppendUnitFloat64Row.domain false w args ∧ laidMetH Tryd.prog laidList w) ∧ sizedMet enc Tryd.prog Tryd.f4 (OpenSpec.ofChange Rows.fnAppendUnitFloat64Spec) false w args)
      (Rows.fnAppendUnitFloat64Spec.post enc Tryd.prog Tryd.f4 false true false false) := by
  refine returnsInHanded_of_change_and (C := Tryd.checked) (X := fun w _ => laidMetH Tryd.prog laidList w) (fun _ _ _ hh h => h.of_heap hh) own started (by kernel_rfl) Tryd.func4
    (ChangeSpec.witness_shaped (enc := enc) (C := Tryd.checked) (os := os) (X := fun w _ => laidMetH Tryd.prog laidList w) false (World.laidAll Tryd.prog os laidList) #[.slice none 0 0, .float .f64 0] 8 (World.laidAll_os _ _ _)
      (World.shaped_of_ZipB (by kernel_rfl) (by kernel_rfl)) (by kernel_rfl) (by kernel_rfl) (by kernel_rfl)
      (by rw [MakeChecks.laidMetH_plain _ _ _ (by kernel_rfl)]; exact laidMet_laidAll _ (by kernel_rfl) (by kernel_rfl))) ?_
  intro W base args ds gs before hval0 hW hc _ hL _
  have hval : ∀ (j : Nat) t v, Tryd.f4.params[j]? = some t → args[j]? = some v → Value.okWide Tryd.prog W .any base t v := hval0
  have hW' := hW
  obtain ⟨p, q, hA0, hV, rfl, _, _⟩ := hW
  have hA : DataW.TrodAll enc Tryd.prog W 0 (fun _ => true) true Tryd.f4.params.toList args.toList ds p := hA0
  rw [Tryd.params4] at hA hval
  obtain ⟨v0, vs0, d0, ds0, p0, q0, hargs, rfl, rfl, h0, r0⟩ := trodAll_cons hA
  obtain ⟨v1, vs1, d1, ds1, p1, q1, rfl, rfl, rfl, h1, r1⟩ := trodAll_cons r0
  obtain ⟨rfl, rfl, rfl⟩ := trodAll_nil r1
  obtain rfl : args = #[v0, v1] := by cases args; simp_all
  obtain ⟨rfl, rfl⟩ := trodVars_none hV
  obtain ⟨a0, len0, cap0, rfl⟩ := okWide_slice Tryd.underlying22 (hval 0 22 v0 rfl rfl)
  have lt0 : ∀ x ∈ p0, x.block < W.heap.size := by obtain ⟨m, hm⟩ := h0; exact DataW.trod_lt m _ _ _ hm
  obtain ⟨_, zs, hz⟩ := bytes_opened h0
  obtain ⟨b, rfl, rfl, rfl, wb⟩ := open_float (k := .f64) Tryd.underlying30 (hval 1 30 v1 rfl rfl) h1
  have hb : b < 18446744073709551616 := by simpa [Lit.wf] using wb
  have htab := Lib.tabBelow_of_tabIs (pow_laid hL)
  clear hA0 hval0
  refine (law4_walk W a0 len0 cap0 b zs hz hb htab).mono fun e W' ⟨he, bel⟩ => ?_
  subst he
  exact ⟨_, rfl, _, _, _, [], _, [], hW', trodAll_mk1 (shut_bool Tryd.underlying4 _), (trodAll_cons_mk (Below.trod laidOut (by kernel_rfl) (of_decide_eq_true (by kernel_rfl)) h0 bel lt0) (trodAll_cons_mk (shut_float Tryd.underlying30 wb) trodAll_mk0)), rfl, bel.frame _, fun h => by cases h⟩

theorem law4_holds : Rows.FnAppendUnitFloat64Said :=
  OpenClaim.holds_of_wide 4 Tryd.f4 rfl rfl rfl rfl rfl rfl rfl ⟨rfl, rfl, rfl, rfl, rfl⟩ rfl rfl rfl rfl rfl (by kernel_rfl) Tryd.func4 (by kernel_rfl)
    (of_decide_eq_true (by kernel_rfl)) (by unfold Func.isWrapper; first | (rw [if_pos (by decide +kernel)]; kernel_rfl) | (rw [if_neg (by decide +kernel)]; exact ⟨rfl, rfl⟩))
    (fun os started H enc _ => law4_lifted os started H enc)

/-- THE STATEMENT. -/
theorem fnAppendUnitFloat64Card_proved : Rows.FnAppendUnitFloat64CardSaid :=
  Claim7.holds_tied_plain_at .later [] [.data, .data, .data] true (true, "c322ab980cc61c6bb62b07549248ab7bba0c4a981ef4d76ba0c39beed28dee5c") true law4_holds (fun _ h => by cases h) (by kernel_rfl) (fun _ h => by cases h) fnAppendUnitFloat64_row_tie rfl ⟨rfl, rfl⟩ (by kernel_rfl) rfl
    (fun f fn hf hfn => by
      obtain rfl : f = 4 := Option.some.inj ((show Tryd.prog.funcNamed Rows.fnAppendUnitFloat64Row.func = some 4 by kernel_rfl).symm.trans hf) |>.symm
      obtain rfl : fn = Tryd.f4 := (Option.some.inj (Tryd.func4.symm.trans hfn)).symm
      exact ⟨by kernel_rfl, fun j t ht => by
        rw [Tryd.params4] at ht
        have hm : t ∈ [22, 30] := by simpa using Array.mem_of_getElem? ht
        have hall : ([22, 30].all fun u => !Tryd.prog.wantsStandIn u) = true := by kernel_rfl
        exact (show Tryd.prog.wantsStandIn t = false by simpa using List.all_eq_true.1 hall t hm)⟩)
    (by kernel_rfl)
#print axioms fnAppendUnitFloat64Card_proved
end Go.Proofs.Qxb6614357aDoor
