/-
  WALKS of seat b6614357aD: numberLiteral.scaledInteger of a decimal numeral.
-/
import Derived.Test.Qxb6614357aDoorParse
namespace Go.Proofs.Qxb6614357aDoor
open Go.Shelf Go.Sort Go.RowKit
set_option maxRecDepth 100000

/-- The digits' value in parts. -/
theorem strip {D : List UInt8} {e p N : Nat} {x : UInt8} (h : val (D.take (e + 1)) * 10 ^ p = N) (hx : D[e]? = some x) (hz : x.toNat = 48) : val (D.take e) * 10 ^ (p + 1) = N := by
  rw [val_take_succ hx, hz] at h
  rw [← h, Nat.pow_succ, Nat.sub_self, Nat.add_zero, Nat.mul_assoc (val _) 10, Nat.mul_comm 10]

set_option maxHeartbeats 4000000 in
theorem scaled_calls (w : World) (B : Nat) (k : Int) (neg : Bool) (D : List UInt8) (first power : Int) (hN : Numeral k neg D) (h : LN w B neg ⟨D.toArray⟩ first power) :
    Calls Tryd.prog 22 #[.pointer (some ⟨B, 1, none⟩), .int .i64 0, .int .i64 (-9007199254740992), .int .i64 9007199254740992] w fun e w' => e = .returned (.tuple #[.int .i64 k, .bool true]) ∧ ∃ q, w' = w.drewN q := by
  have hl1 := hN.len1
  have hl2 := hN.len2
  have hwr : IntKind.u64.wrap (-IntKind.u64.wrap (-9007199254740992)) = 9007199254740992 := by decide
  have HL : Hid (LN w B neg ⟨D.toArray⟩ first power) := h
  obtain ⟨N, hNN⟩ : ∃ N, Hid (N = val D) := ⟨_, rfl⟩
  have hNs : N ≤ 9007199254740992 := by rw [hNN.out]; exact hN.small
  go_enter Tryd.func22, Tryd.ntmps22
  go_wp2_with fail
  refine (digits_calls w B neg D _ _ h (by omega)).mono ?_
  rintro e w1 ⟨rfl, q1, rfl⟩
  have c3 := HL.out.c3
  have c4 := HL.out.c4
  go_wp2_with fail
  go_quiet (fail)
  go_wp2_with fail
  clear c3 c4
  go_loopw [10, 11] (fun a b w' => ∃ e p q : Nat, a = .int .i64 e ∧ b = .int .i64 p ∧ e + p = D.length ∧ val (D.take e) * 10 ^ p = N ∧ w' = w.drewN q) (fun a _ _ => (intOf a).toNat)
  case atStart => exact ⟨D.length, 0, q1 + nq, by go_num, by go_num, rfl, by rw [List.take_of_length_le (Nat.le_refl _), hNN.out]; simp, by simp [World.drewN, Nat.add_assoc]⟩
  case round =>
    obtain ⟨e, p, q, rfl, rfl, hep, hval, rfl⟩ := hrel
    have Hval : Hid (val (D.take e) * 10 ^ p = N) := hval
    clear hval
    by_cases he : 0 < e
    · obtain ⟨e, rfl⟩ : ∃ e', e = e' + 1 := ⟨e - 1, by omega⟩
      have he' : (0 : Int) < ((e + 1 : Nat) : Int) := by omega
      obtain ⟨x, hx, hx1, hx2⟩ := hN.dig (show e < D.length by omega)
      have HX : Hid (D[e]? = some x) := hx
      clear hx
      go_wp2_with fail
      refine (digit_calls _ B neg D _ _ (HL.out.drewN q) e x HX.out hx1 hx2).mono ?_
      rintro er w2 ⟨rfl, rfl⟩
      by_cases hz : x.toNat = 48
      · have hz' : (((x.toNat - 48 : Nat) : Int) == 0) = true := by rw [beq_iff_eq]; omega
        have Hn : Hid (val (D.take e) * 10 ^ (p + 1) = N) := strip Hval.out HX.out hz
        go_wp2_with fail
        go_roundw
        case rel => exact ⟨e, p + 1, q, by go_num, by go_num, by omega, Hn.out, by first | rfl | trivial⟩
        case measure => simp [intOf]
      · have hz' : (((x.toNat - 48 : Nat) : Int) == 0) = false := by rw [beq_eq_false_iff_ne]; omega
        have hen : (((e + 1 : Nat) : Int) == 0) = false := by rw [beq_eq_false_iff_ne]; omega
        have hpn : decide ((p : Int) < 0) = false := decide_eq_false (by omega)
        have c1 := HL.out.c1
        clear hx1 hx2 HX hz he
        have hvN : Hid (val (D.take (e + 1)) ≤ N) := by
          show _ ≤ _
          rw [← Hval.out]
          exact Nat.le_mul_of_pos_right _ (Nat.pow_pos (by decide))
        have Hk : Hid (k = if neg then -(N : Int) else N) := by
          show _ = _
          rw [hNN.out]; exact hN.value
        cases neg
        all_goals
          go_wp2_with fail
          go_loopw [13, 14] (fun v i w' => ∃ j : Nat, v = .int .u64 (val (D.take j) : Nat) ∧ i = .int .i64 j ∧ j ≤ e + 1 ∧ w' = w.drewN q) (fun _ i _ => e + 1 - (intOf i).toNat)
          case atStart => exact ⟨0, rfl, rfl, Nat.zero_le _, rfl⟩
          case round =>
            clear hz' hen hpn
            obtain ⟨j, rfl, rfl, hj, rfl⟩ := hrel
            obtain ⟨V, hV⟩ : ∃ V, Hid (V = val (D.take j)) := ⟨_, rfl⟩
            rw [← hV.out]
            by_cases hje : j < e + 1
            · have hje' : (j : Int) < (e : Int) + 1 := by omega
              obtain ⟨y, hy, hy1, hy2⟩ := hN.dig (show j < D.length by omega)
              have HY : Hid (D[j]? = some y) := hy
              obtain ⟨d, hd⟩ : ∃ d, Hid (d = y.toNat - 48) := ⟨_, rfl⟩
              have hd9 : d ≤ 9 := by rw [hd.out]; omega
              have Hnext : Hid (val (D.take (j + 1)) = V * 10 + d) := by
                show _ = _
                rw [val_take_succ hy, ← hV.out, ← hd.out]
              have hle : V * 10 + d ≤ 9007199254740992 := by
                have a := val_take_mono D (j + 1) (e + 1) (by omega)
                rw [Hnext.out] at a
                have b := hvN.out
                omega
              have g1 : decide ((900719925474099 : Int) < V) = false := decide_eq_false (by omega)
              have g2 : decide ((9007199254740992 : Int) < (V : Int) * 10 + d) = false := decide_eq_false (by omega)
              clear hy
              go_wp2_with fail
              refine (digit_calls _ B _ D _ _ (HL.out.drewN q) j y HY.out hy1 hy2).mono ?_
              rintro er w2 ⟨rfl, rfl⟩
              rw [← hd.out]
              go_wp2_with fail
              go_roundw
              case rel =>
                refine ⟨_, _, _, _, _, _, _, _, _, _, _, _, _, _, _, _, _, _, _, _, _, _, _, ?_, rfl⟩
                exact ⟨j + 1, by rw [Hnext.out]; go_num, by go_num, by omega, by first | rfl | trivial⟩
              case measure => simp [intOf]; omega
            · have hje' : j = e + 1 := by omega
              subst hje'
              have HV : Hid (V * 10 ^ p = N) := by show _ = _; rw [hV.out]; exact Hval.out
              clear hV hvN hje
              go_wp2_with fail
              go_loopw [11, 13] (fun b v w' => ∃ p V : Nat, b = .int .i64 p ∧ v = .int .u64 V ∧ V * 10 ^ p = N ∧ p ≤ 20 ∧ w' = w.drewN q) (fun b _ _ => (intOf b).toNat)
              case atStart => exact ⟨p, V, rfl, rfl, HV.out, by omega, rfl⟩
              case round =>
                clear HV Hval
                obtain ⟨p, V, rfl, rfl, hpv, hp20, rfl⟩ := hrel
                have HV : Hid (V * 10 ^ p = N) := hpv
                clear hpv
                by_cases hp : 0 < p
                · obtain ⟨p, rfl⟩ : ∃ p', p = p' + 1 := ⟨p - 1, by omega⟩
                  have hp' : (0 : Int) < ((p + 1 : Nat) : Int) := by omega
                  have Hn : Hid (V * 10 * 10 ^ p = N) := by
                    show _ = _
                    rw [← HV.out, Nat.pow_succ, Nat.mul_assoc, Nat.mul_comm 10]
                  have hle : V * 10 ≤ 9007199254740992 := by
                    have a : V * 10 ≤ V * 10 * 10 ^ p := Nat.le_mul_of_pos_right _ (Nat.pow_pos (by decide))
                    rw [Hn.out] at a
                    omega
                  have g1 : decide ((900719925474099 : Int) < V) = false := decide_eq_false (by omega)
                  go_wp2_with fail
                  go_roundw
                  case rel => exact ⟨p, V * 10, by go_num, by go_num, Hn.out, by omega, by first | rfl | trivial⟩
                  case measure => simp [intOf]
                · have hp0 : p = 0 := by omega
                  subst hp0
                  have hVN : V = N := by have := HV.out; simpa using this
                  subst hVN
                  have hw2 : IntKind.i64.wrap (IntKind.u64.wrap (-(V : Int))) = -(V : Int) := by rw [IntKind.wrap_u64, IntKind.wrap_i64]; omega
                  go_wp2
                  go_ret2
                  refine ⟨?_, _, rfl⟩
                  rw [Hk.out]
                  rfl
    · have e0 : e = 0 := by omega
      subst e0
      have hk0 : k = 0 := by
        have h0 := Hval.out
        rw [List.take_zero, val_nil, Nat.zero_mul] at h0
        rw [hN.value, ← hNN.out, ← h0]; cases neg <;> rfl
      subst hk0
      go_wp2_with fail
      go_wp2
      go_ret2
      exact ⟨rfl, _, rfl⟩
end Go.Proofs.Qxb6614357aDoor
