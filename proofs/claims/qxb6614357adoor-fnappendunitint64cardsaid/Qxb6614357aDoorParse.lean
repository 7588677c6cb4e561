/-
  WALKS of seat b6614357aD: numberLiteral.parse of a decimal numeral.
-/
import Derived.Test.Qxb6614357aDoorLit
import Derived.BigRegion
import Derived.BigQuiet
namespace Go.Proofs.Qxb6614357aDoor
open Go.Shelf Go.Sort Go.RowKit
set_option maxRecDepth 100000

theorem prefix_neg {k : Int} {neg : Bool} {D : List UInt8} (h : Numeral k neg D) : Lib.hasPrefix (Lib.itoa k) [45] = neg := by
  rw [h.text]
  cases neg with
  | true => simp [Lib.hasPrefix, List.isPrefixOf]
  | false =>
    obtain ⟨x, hx, h1, _⟩ := h.dig h.len1
    cases D with
    | nil => cases hx
    | cons y t =>
      have : y = x := by simpa using hx
      subst this
      have hne : (45 == y) = false := by
        rw [beq_eq_false_iff_ne]
        intro e; rw [← e] at h1; exact absurd h1 (by decide)
      simp [Lib.hasPrefix, List.isPrefixOf, hne]
theorem trim_neg {k : Int} {neg : Bool} {D : List UInt8} (h : Numeral k neg D) : Lib.trimPrefix (Lib.itoa k) [45] = D := by
  unfold Lib.trimPrefix
  rw [prefix_neg h, h.text]
  cases neg <;> rfl

/-- The cell 'first'. -/
def firstOf (w : World) (B : Nat) : Nat := match w.cell? ⟨B, 5, none⟩ with
  | some (.int _ z) => z.toNat
  | _ => 0
theorem firstOf_put {w : World} {B : Nat} {u : Value} (h : w.cell? ⟨B, 5, none⟩ = some u) (n : Int) : firstOf (w.setCell ⟨B, 5, none⟩ (.int .i64 n)) B = n.toNat := by
  unfold firstOf; rw [cell_set_eq _ _ h]
set_option maxHeartbeats 4000000 in
theorem parse_calls (w : World) (B : Nat) (k : Int) (neg : Bool) (D : List UInt8) (hN : Numeral k neg D) (h : LN w B false ⟨#[]⟩ 0 0) :
    Calls Tryd.prog 17 #[.pointer (some ⟨B, 1, none⟩), .string ⟨(Lib.itoa k).toArray⟩] w fun e w' => e = .returned (.bool true) ∧ (∃ first power, LN w' B neg ⟨D.toArray⟩ first power) ∧ w.grownBy w' (some B) := by
  have hsz := size_of_list D
  have hl1 := hN.len1
  have hl2 := hN.len2
  have F1 := h.c1
  have Z1 := h.fz 1
  have L1 := h.put1 neg
  have G1 : w.grownBy (w.setCell ⟨B, 1, none⟩ (.bool neg)) (some B) := grow_set (grow_refl _ _) _ _
  go_enter Tryd.func17, Tryd.ntmps17
  go_wp2_with fail
  refine (hasPrefix_calls _ _ _).mono ?_
  rintro e w1 ⟨rfl, rfl⟩
  rw [show Lib.hasPrefix (⟨(Lib.itoa k).toArray⟩ : ByteArray).data.toList (⟨#[45]⟩ : ByteArray).data.toList = neg from prefix_neg hN]
  go_wp2_with fail
  generalize w1.setCell ⟨B, 1, none⟩ (.bool neg) = w2 at L1 G1 ⊢
  refine (trimPrefix_calls _ _ _).mono ?_
  rintro e w3 ⟨rfl, rfl⟩
  rw [show Lib.trimPrefix (⟨(Lib.itoa k).toArray⟩ : ByteArray).data.toList (⟨#[45]⟩ : ByteArray).data.toList = D from trim_neg hN]
  go_wp2_with fail
  refine (leading_calls D hN.range (by omega) _).mono ?_
  rintro e w4 ⟨rfl, rfl⟩
  have c2 := L1.c2
  have z2 := L1.fz 2
  have L2 := L1.put2 ⟨D.toArray⟩
  have G2 := grow_set G1 2 (.string ⟨D.toArray⟩)
  have r2 := L2.c2
  have hsl : ∀ W, (Instr.slice 9 (.string ⟨D.toArray⟩) (some (.int .i64 (D.length : Int))) none none).run Tryd.prog W = .ok (.string ⟨#[]⟩) W := fun W => by
    go_simp
    rfl
  have hne : (D == []) = false := by
    rw [beq_eq_false_iff_ne]; intro e; rw [e] at hl1; simp at hl1
  have hcase : decide ((1 : Int) < D.length) = false ∨ ((1 : Int) < D.length ∧ ∃ y : UInt8, (∀ W, (Instr.index 9 (.string ⟨D.toArray⟩) (.int .i64 0)).run Tryd.prog W = .ok (.int .u8 (y.toNat : Int)) W) ∧ ((y.toNat : Int) == 48) = false) := by
    by_cases hc : 1 < D.length
    · obtain ⟨y, hy, hy2⟩ := hN.head hc
      exact .inr ⟨by omega, y, ix hy, by rw [beq_eq_false_iff_ne]; omega⟩
    · exact .inl (decide_eq_false (by omega))
  have hel : (⟨D.toArray⟩ : ByteArray).toList = D := ByteArray.toList_mk D
  clear F1 Z1
  rcases hcase with hc | ⟨hc, y, hi0, hy⟩
  all_goals
    go_wp2_with fail
    refine (hasPrefix_calls _ _ _).mono ?_
    rintro e w5 ⟨rfl, hw5⟩
    rw [show Lib.hasPrefix (⟨#[]⟩ : ByteArray).data.toList (⟨#[46]⟩ : ByteArray).data.toList = false from rfl]
    rw [← hw5] at L2 G2 r2
    clear hw5 c2 z2 L1 G1 hsl hne hel hc
    try clear hi0 hy
    go_wp2_with fail
    have HL : Hid (LN w5 B neg ⟨D.toArray⟩ 0 0) := L2
    have HG : Hid (w1.grownBy w5 (some B)) := G2
    clear L2 G2 r2
    go_loopw [] (fun w' => ∃ f : Nat, f ≤ D.length ∧ LN w' B neg ⟨D.toArray⟩ f 0 ∧ w1.grownBy w' (some B)) (fun w' => D.length - firstOf w' B)
    case atStart => exact ⟨0, Nat.zero_le _, HL.out, HG.out⟩
    case round =>
      clear HL HG
      obtain ⟨f, hf, L, G⟩ := hrel
      have HL : Hid (LN wr B neg ⟨D.toArray⟩ f 0) := L
      have HG : Hid (w1.grownBy wr (some B)) := G
      have c2 := L.c2
      have c4 := L.c4
      have c5 := L.c5
      have c6 := L.c6
      have z5 := L.fz 5
      have z6 := L.fz 6
      have hm : Hid (firstOf wr B = f) := by show _ = _; unfold firstOf; rw [c5]; simp
      clear L G
      by_cases hfn : f < D.length
      · have hfn' : (f : Int) < D.length := by omega
        obtain ⟨x, hx, hx1, hx2⟩ := hN.dig hfn
        have HX : Hid (D[f]? = some x) := hx
        clear hx
        by_cases hz : x.toNat = 48
        · have hz' : (((x.toNat - 48 : Nat) : Int) == 0) = true := by rw [beq_iff_eq]; omega
          go_wp2_with fail
          go_quiet (first | (go_at_call 27; exact Calls.quiet_of (digits_calls _ B neg D _ _ (HL.out.drewN _) (by omega))) | (go_at_call 28; exact Calls.quiet_of_same (digit_calls _ B neg D _ _ (HL.out.drewN _) f x HX.out hx1 hx2)))
          go_wp2_with fail
          go_roundw
          case rel => exact ⟨f + 1, by omega, (HL.out.drewN _).put5 _, grow_set (grow_drewN HG.out _) _ _⟩
          case measure => rw [hm.out, firstOf_put ((HL.out.drewN _).c5)]; omega
        · have hz' : (((x.toNat - 48 : Nat) : Int) == 0) = false := by rw [beq_eq_false_iff_ne]; omega
          go_wp2_with fail
          go_quiet (first | (go_at_call 27; exact Calls.quiet_of (digits_calls _ B neg D _ _ (HL.out.drewN _) (by omega))) | (go_at_call 28; exact Calls.quiet_of_same (digit_calls _ B neg D _ _ (HL.out.drewN _) f x HX.out hx1 hx2)))
          go_wp2_with fail
          have L' := HL.out.drewN nq
          have G' := grow_drewN HG.out nq
          clear HL HG c2 c4 c5 c6 z5 z6 hm
          generalize wr.drewN nq = W at L' G' ⊢
          have c2 := L'.c2
          have c4 := L'.c4
          have c5 := L'.c5
          have z6 := L'.fz 6
          have c6 := L'.c6
          have HL : Hid (LN W B neg ⟨D.toArray⟩ f 0) := L'
          have HG : Hid (w1.grownBy W (some B)) := G'
          clear L' G'
          go_region
          go_wp2
          go_ret
          exact ⟨rfl, ⟨_, _, (HL.out.put6 _).drewN _⟩, grow_drewN (grow_set HG.out _ _) _⟩
      · have hfn' : decide ((f : Int) < D.length) = false := decide_eq_false (by omega)
        go_wp2_with fail
        go_quiet (first | (go_at_call 27; exact Calls.quiet_of (digits_calls _ B neg D _ _ (HL.out.drewN _) (by omega))))
        go_wp2_with fail
        have L' := HL.out.drewN nq
        have G' := grow_drewN HG.out nq
        clear HL HG c2 c4 c5 c6 z5 z6 hm
        generalize wr.drewN nq = W at L' G' ⊢
        have c2 := L'.c2
        have c4 := L'.c4
        have c5 := L'.c5
        have z6 := L'.fz 6
        have c6 := L'.c6
        have HL : Hid (LN W B neg ⟨D.toArray⟩ f 0) := L'
        have HG : Hid (w1.grownBy W (some B)) := G'
        clear L' G'
        go_region
        go_wp2
        go_ret
        exact ⟨rfl, ⟨_, _, (HL.out.put6 _).drewN _⟩, grow_drewN (grow_set HG.out _ _) _⟩
end Go.Proofs.Qxb6614357aDoor
