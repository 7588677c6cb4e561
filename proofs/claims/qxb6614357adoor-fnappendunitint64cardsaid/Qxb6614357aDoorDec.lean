/-
  WALKS of seat b6614357aD: appendDecimal.
-/
import Derived.Test.Qxb6614357aDoorBytes
namespace Go.Proofs.Qxb6614357aDoor
open Go.Shelf Go.Sort Go.RowKit Ieee
set_option maxRecDepth 100000

/-- The digits' array: its first cells are these bytes; all twenty can be written. -/
structure Buf (w : World) (F : Nat) (L : List UInt8) : Prop where
  at_ : ∀ j x, L[j]? = some x → w.cell? ⟨F, j, none⟩ = some (.int .u8 x.toNat)
  any : ∀ j, j < 20 → ∃ v, w.cell? ⟨F, j, none⟩ = some v
  free : ∀ j, w.frozen? ⟨F, j, none⟩ = false
def zarr : Array Value := #[.int .u8 0, .int .u8 0, .int .u8 0, .int .u8 0, .int .u8 0, .int .u8 0, .int .u8 0, .int .u8 0, .int .u8 0, .int .u8 0, .int .u8 0, .int .u8 0, .int .u8 0, .int .u8 0, .int .u8 0, .int .u8 0, .int .u8 0, .int .u8 0, .int .u8 0, .int .u8 0]
def zero20 : Obj := .cells zarr 35
theorem buf_zero (w : World) : Buf (w.alloc zero20) w.heap.size [] := by
  have hh : (w.alloc zero20).heap[w.heap.size]? = some zero20 := Array.getElem?_push_size
  have hs : zarr.size = 20 := rfl
  refine ⟨fun j x h => by simp at h, fun j hj => ?_, fun j => ?_⟩
  · simp only [World.cell?, hh]
    exact ⟨zarr[j]'(by rw [hs]; exact hj), Array.getElem?_eq_getElem (by rw [hs]; exact hj)⟩
  · simp only [World.frozen?, hh]
    show (decide (0 ≤ j) && decide (j < 0)) = false
    simp
theorem Buf.put {w : World} {F : Nat} {L : List UInt8} (h : Buf w F L) (hl : L.length < 20) (c : UInt8) : Buf (w.setCell ⟨F, L.length, none⟩ (.int .u8 c.toNat)) F (L ++ [c]) := by
  obtain ⟨v, hv⟩ := h.any L.length hl
  refine ⟨fun j x hj => ?_, fun j hj => ?_, fun j => ?_⟩
  · by_cases hjl : j < L.length
    · rw [List.getElem?_append_left hjl] at hj
      rw [cell_set_ne _ _ (by omega)]
      exact h.at_ j x hj
    · have : j = L.length := by
        have := (List.getElem?_eq_some_iff.1 hj).1
        simp at this; omega
      subst this
      simp at hj
      subst hj
      exact cell_set_eq _ _ hv
  · by_cases hjl : L.length = j
    · subst hjl; exact ⟨_, cell_set_eq _ _ hv⟩
    · rw [cell_set_ne _ _ hjl]; exact h.any j hj
  · rw [World.frozen?_setCell]; exact h.free j

theorem dig_stop {m : Nat} (h : m / 10 = 0) : Lib.decDigits m = [UInt8.ofNat (48 + m % 10)] := by
  have : m < 10 := by omega
  rw [Lib.decDigits_one this, Nat.mod_eq_of_lt this]
theorem dig_more {m : Nat} (h : m / 10 ≠ 0) : Lib.decDigits m = Lib.decDigits (m / 10) ++ [UInt8.ofNat (48 + m % 10)] := by
  conv => lhs; rw [Lib.decDigits]
  rw [dif_neg (by omega)]
theorem dig_pos (m : Nat) : 1 ≤ (Lib.decDigits m).length := by
  by_cases h : m / 10 = 0
  · rw [dig_stop h]; simp
  · rw [dig_more h]; simp
theorem dig_le {u : Nat} (h : u < 18446744073709551616) : (Lib.decDigits u).length ≤ 20 := by
  rw [Lib.decDigits_length]
  by_cases h1 : 1 ≤ u
  · have := Lib.numDigits_eq u h1 h; split at this <;> omega
  · rw [Lib.nDigits_small (by omega)]; omega

set_option maxHeartbeats 2000000 in
theorem decimal_pos (B n u : Nat) (hu : u < 9223372036854775808) (sv : Value) (xs : List Value) (w : World) (hown : w.ownsRow B 5 1 sv n xs) (hBw : B ≤ w.heap.size) (hlim : n + 21 ≤ 140737488355328) :
    Calls Tryd.prog 9 #[sv, .int .i64 u] w fun e w' => ∃ v', e = .returned v' ∧ Own w w' B sv v' (n + (Lib.decDigits u).length) (xs ++ Lib.byteCells (Lib.decDigits u)) := by
  have hneg : decide ((u : Int) < 0) = false := decide_eq_false (by omega)
  have hz := buf_zero w
  obtain ⟨i0, hi, hz0, hz1, hz2⟩ := info_parts info5
  go_enter Tryd.func9, Tryd.ntmps9
  go_wp2_with fail
  have hd1 : (Lib.decDigits u).length ≤ 20 := dig_le (by omega)
  have hg0 : (w.alloc zero20).grownBy (w.alloc zero20) (some w.heap.size) := grow_refl _ _
  go_loopw [5, 7] (fun m i w' => ∃ (k q : Nat) (L : List UInt8), m = .int .u64 k ∧ i = .int .i64 q ∧ k ≤ u ∧ L.length = q ∧ Lib.decDigits u = Lib.decDigits k ++ L.reverse ∧ Buf w' w.heap.size L ∧ (w.alloc zero20).grownBy w' (some w.heap.size)) (fun m _ _ => (intOf m).toNat)
  case atStart => exact ⟨u, 0, [], rfl, rfl, Nat.le_refl _, rfl, by simp, hz, hg0⟩
  case round =>
    clear hz hg0
    obtain ⟨k, q, L, rfl, rfl, hk, hq, hdig, hb, hg⟩ := hrel
    have hq19 : q < 20 := by
      have h1 := congrArg List.length hdig
      have h2 := dig_pos k
      simp at h1
      omega
    have hcb : (UInt8.ofNat (48 + k % 10)).toNat = 48 + k % 10 := by
      simp; omega
    obtain ⟨v0, hv0⟩ := hb.any q hq19
    have hf0 := hb.free q
    have hput : Hid (Buf (wr.setCell ⟨w.heap.size, q, none⟩ (.int .u8 ((48 + k % 10 : Nat) : Int))) w.heap.size (L ++ [UInt8.ofNat (48 + k % 10)])) := by
      have := hb.put (by omega) (UInt8.ofNat (48 + k % 10))
      rw [hcb, hq] at this
      exact this
    have hgn : Hid ((w.alloc zero20).grownBy (wr.setCell ⟨w.heap.size, q, none⟩ (.int .u8 ((48 + k % 10 : Nat) : Int))) (some w.heap.size)) := grow_set hg _ _
    have Hdig : Hid (Lib.decDigits u = Lib.decDigits k ++ L.reverse) := hdig
    have Hq : Hid (L.length = q) := hq
    clear hdig hb hg hcb hq
    by_cases hstop : k / 10 = 0
    · have hs1 : ((k : Int) / 10 == 0) = true := by rw [beq_iff_eq]; omega
      have e8 : Hid ((48 + (k : Int) % 10) = ((48 + k % 10 : Nat) : Int)) := by show _ = _; omega
      have hfin : Hid (Lib.decDigits u = (L ++ [UInt8.ofNat (48 + k % 10)]).reverse) := by
        show _ = _
        rw [Hdig.out, dig_stop hstop, List.reverse_append]; rfl
      have hlen : Hid ((L ++ [UInt8.ofNat (48 + k % 10)]).length = q + 1) := by
        show _ = _
        rw [List.length_append, Hq.out]; rfl
      clear hstop
      go_wp2_with fail
      rw [e8.out]
      generalize wr.setCell ⟨w.heap.size, q, none⟩ (.int .u8 ((48 + k % 10 : Nat) : Int)) = wA at hput hgn ⊢
      generalize L ++ [UInt8.ofNat (48 + k % 10)] = M at hput hfin hlen
      have hgA : w.grownBy wA none := grow_new_block (grow_alloc w zero20) hgn.out
      have hownA : wA.ownsRow B 5 1 sv n xs := owns_keep hown hgA
      have hszA : w.heap.size < wA.heap.size := by have := hgn.out.size; simp at this; omega
      have hneF : some w.heap.size ≠ sv.ownBlock := fun e => by have := (hown.lt _ e.symm).2; omega
      have hDl : Hid ((Lib.decDigits u).length = q + 1) := by
        show _ = _
        rw [hfin.out, List.length_reverse, hlen.out]
      have hO0 : OwnAt wA wA B sv sv n xs := OwnAt.same hownA
      have hstep : Hid (∀ r, r < q + 1 → ∃ x, (Lib.decDigits u)[q - r]? = some x ∧ wA.cell? ⟨w.heap.size, r, none⟩ = some (.int .u8 x.toNat)) := by
        intro r hr
        obtain ⟨x, hx⟩ : ∃ x, M[r]? = some x := ⟨_, List.getElem?_eq_getElem (by have := hlen.out; omega)⟩
        refine ⟨x, ?_, hput.out.at_ r x hx⟩
        rw [hfin.out, List.getElem?_reverse (by have := hlen.out; omega), ← hx]
        congr 1
        have := hlen.out
        omega
      clear hput hgn hfin hlen Hdig Hq e8 hv0 hf0
      go_loopw [0, 7] (fun v' i w' => ∃ (r : Nat), i = .int .i64 r ∧ r ≤ q + 1 ∧ OwnAt wA w' B sv v' (n + (q + 1 - r)) (xs ++ Lib.byteCells ((Lib.decDigits u).take (q + 1 - r)))) (fun _ i _ => (intOf i).toNat)
      case atStart => exact ⟨q + 1, by go_num, Nat.le_refl _, by simpa [Lib.byteCells] using hO0⟩
      case round =>
        clear hO0
        obtain ⟨r, rfl, hr, hO⟩ := hrel
        by_cases hr0 : 0 < r
        · obtain ⟨r, rfl⟩ : ∃ r', r = r' + 1 := ⟨r - 1, by omega⟩
          have hr0' : (0 : Int) < ((r + 1 : Nat) : Int) := by omega
          obtain ⟨x, hx, hcx⟩ := hstep.out r (by omega)
          have hcx' : wr.cell? ⟨w.heap.size, r, none⟩ = some (.int .u8 x.toNat) := hO.2.1.cell hcx hneF
          have HX : Hid ((Lib.decDigits u)[q - r]? = some x) := hx
          have HO : Hid (OwnAt wA wr B sv u0 (n + (q + 1 - (r + 1))) (xs ++ Lib.byteCells ((Lib.decDigits u).take (q + 1 - (r + 1))))) := hO
          have hownr := hO.1
          have hszr := hO.2.1.size
          clear hx hcx hO
          go_wp2_with (at_builtin; refine wpList_append_own_at _ rfl _ _ 22 rfl B 5 i0 (.int .u8 0) 1 1 Tryd.underlying22 hi hz0 hz1 hz2 rfl (by decide) _ _ _ rfl (hownr.alloc _) ⟨wr.heap.size, 0, none⟩ 1 1 [Value.int .u8 x.toNat] rfl rfl (by intro j u' hj; match j, hj with | 0, hj => simp at hj; subst hj; simp [Addr.add]) (by intro u' hu'; simp at hu'; subst hu'; rfl) (by unfold maxLen; omega) (by omega) (by simp; omega) ?_)
          intro v1 w1 hown1 hgrow _ hat
          have hA : OwnAt wr w1 B u0 v1 (n + (q - r) + 1) (xs ++ (Lib.byteCells ((Lib.decDigits u).take (q - r)) ++ [Value.int .u8 x.toNat])) := ownAt_of hown1 hgrow hat
          have hnew : Hid (OwnAt wA w1 B sv v1 (n + (q + 1 - r)) (xs ++ Lib.byteCells ((Lib.decDigits u).take (q + 1 - r)))) := by
            have h1 := HO.out.step hA
            have e1 : n + (q - r) + 1 = n + (q + 1 - r) := by omega
            have e2 : q + 1 - r = q - r + 1 := by omega
            have e4 : (Lib.decDigits u).take (q - r + 1) = (Lib.decDigits u).take (q - r) ++ [x] := by
              rw [List.take_add_one, HX.out]; rfl
            rw [e1] at h1
            rw [e2, e4, ← e2]
            rw [Lib.byteCells, List.map_append]
            exact h1
          clear hA hown1 hgrow hat hownr
          go_wp2
          go_roundw
          case rel =>
            refine ⟨_, _, _, _, _, _, _, _, _, _, _, _, ?_, rfl⟩
            exact ⟨r, by go_num, by omega, hnew.out⟩
          case measure => simp [intOf]
        · have hr1 : r = 0 := by omega
          subst hr1
          have hfinO : Hid (Own w wr B sv u0 (n + (Lib.decDigits u).length) (xs ++ Lib.byteCells (Lib.decDigits u))) := by
            have h1 := hO
            rw [Nat.sub_zero, List.take_of_length_le (by have := hDl.out; omega), ← hDl.out] at h1
            exact ⟨h1.1, grow_trans (r := sv.ownBlock) ⟨hgA.os, hgA.tape, hgA.output, hgA.size, fun k hk _ => hgA.block k hk (by simp)⟩ h1.2.1 (fun i h _ => h)⟩
          clear hO
          go_wp2
          go_ret
          exact ⟨_, rfl, hfinO.out⟩
    · have hs1 : ((k : Int) / 10 == 0) = false := by rw [beq_eq_false_iff_ne]; omega
      go_wp2_with fail
      go_roundw
      case rel =>
        have e8 : (48 + (k : Int) % 10) = ((48 + k % 10 : Nat) : Int) := by omega
        rw [e8]
        refine ⟨k / 10, q + 1, L ++ [UInt8.ofNat (48 + k % 10)], by go_num, by go_num, by omega, by rw [List.length_append, Hq.out]; rfl, ?_, hput.out, hgn.out⟩
        rw [Hdig.out, dig_more hstop, List.reverse_append, List.append_assoc]
        rfl
      case measure => simp [intOf]; omega
set_option maxHeartbeats 2000000 in
theorem decimal_neg (B n u : Nat) (hu1 : 1 ≤ u) (hu : u ≤ 9223372036854775808) (sv : Value) (xs : List Value) (w : World) (hown : w.ownsRow B 5 1 sv n xs) (hBw : B ≤ w.heap.size) (hlim : n + 21 ≤ 140737488355328) :
    Calls Tryd.prog 9 #[sv, .int .i64 (-(u : Int))] w fun e w' => ∃ v', e = .returned v' ∧ Own w w' B sv v' (n + 1 + (Lib.decDigits u).length) (xs ++ [Value.int .u8 45] ++ Lib.byteCells (Lib.decDigits u)) := by
  have hneg : -(u : Int) < 0 := by omega
  have hwr : IntKind.u64.wrap (-IntKind.u64.wrap (-(u : Int))) = (u : Int) := by rw [IntKind.wrap_u64, IntKind.wrap_u64]; omega
  have hz := buf_zero w
  obtain ⟨i0, hi, hz0, hz1, hz2⟩ := info_parts info5
  go_enter Tryd.func9, Tryd.ntmps9
  go_wp2_with fail
  have hd1 : (Lib.decDigits u).length ≤ 20 := dig_le (by omega)
  have hg0 : (w.alloc zero20).grownBy (w.alloc zero20) (some w.heap.size) := grow_refl _ _
  go_loopw [5, 7] (fun m i w' => ∃ (k q : Nat) (L : List UInt8), m = .int .u64 k ∧ i = .int .i64 q ∧ k ≤ u ∧ L.length = q ∧ Lib.decDigits u = Lib.decDigits k ++ L.reverse ∧ Buf w' w.heap.size L ∧ (w.alloc zero20).grownBy w' (some w.heap.size)) (fun m _ _ => (intOf m).toNat)
  case atStart => exact ⟨u, 0, [], rfl, rfl, Nat.le_refl _, rfl, by simp, hz, hg0⟩
  case round =>
    clear hz hg0
    obtain ⟨k, q, L, rfl, rfl, hk, hq, hdig, hb, hg⟩ := hrel
    have hq19 : q < 20 := by
      have h1 := congrArg List.length hdig
      have h2 := dig_pos k
      simp at h1
      omega
    have hcb : (UInt8.ofNat (48 + k % 10)).toNat = 48 + k % 10 := by
      simp; omega
    obtain ⟨v0, hv0⟩ := hb.any q hq19
    have hf0 := hb.free q
    have hput : Hid (Buf (wr.setCell ⟨w.heap.size, q, none⟩ (.int .u8 ((48 + k % 10 : Nat) : Int))) w.heap.size (L ++ [UInt8.ofNat (48 + k % 10)])) := by
      have := hb.put (by omega) (UInt8.ofNat (48 + k % 10))
      rw [hcb, hq] at this
      exact this
    have hgn : Hid ((w.alloc zero20).grownBy (wr.setCell ⟨w.heap.size, q, none⟩ (.int .u8 ((48 + k % 10 : Nat) : Int))) (some w.heap.size)) := grow_set hg _ _
    have Hdig : Hid (Lib.decDigits u = Lib.decDigits k ++ L.reverse) := hdig
    have Hq : Hid (L.length = q) := hq
    clear hdig hb hg hcb hq
    by_cases hstop : k / 10 = 0
    · have hs1 : ((k : Int) / 10 == 0) = true := by rw [beq_iff_eq]; omega
      have e8 : Hid ((48 + (k : Int) % 10) = ((48 + k % 10 : Nat) : Int)) := by show _ = _; omega
      have hfin : Hid (Lib.decDigits u = (L ++ [UInt8.ofNat (48 + k % 10)]).reverse) := by
        show _ = _
        rw [Hdig.out, dig_stop hstop, List.reverse_append]; rfl
      have hlen : Hid ((L ++ [UInt8.ofNat (48 + k % 10)]).length = q + 1) := by
        show _ = _
        rw [List.length_append, Hq.out]; rfl
      clear hstop
      obtain ⟨wA, HwA⟩ : ∃ wA, Hid (wA = wr.setCell ⟨w.heap.size, q, none⟩ (.int .u8 (48 + (k : Int) % 10))) := ⟨_, rfl⟩
      have hE : Hid (wr.heap.size = wA.heap.size) := by show _ = _; rw [HwA.out]; simp [World.setCell]
      rw [← e8.out, ← HwA.out] at hput hgn
      generalize L ++ [UInt8.ofNat (48 + k % 10)] = M at hput hfin hlen
      have hgA : w.grownBy wA none := grow_new_block (grow_alloc w zero20) hgn.out
      have hownA : wA.ownsRow B 5 1 sv n xs := owns_keep hown hgA
      have hszA : w.heap.size < wA.heap.size := by have := hgn.out.size; simp at this; omega
      have hneF : some w.heap.size ≠ sv.ownBlock := fun e => by have := (hown.lt _ e.symm).2; omega
      have hDl : Hid ((Lib.decDigits u).length = q + 1) := by
        show _ = _
        rw [hfin.out, List.length_reverse, hlen.out]
      have hstep : Hid (∀ r, r < q + 1 → ∃ x, (Lib.decDigits u)[q - r]? = some x ∧ wA.cell? ⟨w.heap.size, r, none⟩ = some (.int .u8 x.toNat)) := by
        intro r hr
        obtain ⟨x, hx⟩ : ∃ x, M[r]? = some x := ⟨_, List.getElem?_eq_getElem (by have := hlen.out; omega)⟩
        refine ⟨x, ?_, hput.out.at_ r x hx⟩
        rw [hfin.out, List.getElem?_reverse (by have := hlen.out; omega), ← hx]
        congr 1
        have := hlen.out
        omega
      clear hput hgn hfin hlen Hdig Hq e8
      go_wp2_with (at_builtin; rw [← HwA.out, hE.out]; refine wpList_append_own_at _ rfl _ _ 22 rfl B 5 i0 (.int .u8 0) 1 1 Tryd.underlying22 hi hz0 hz1 hz2 rfl (by decide) _ _ _ rfl (hownA.alloc _) ⟨wA.heap.size, 0, none⟩ 1 1 [Value.int .u8 45] rfl rfl (by intro j u' hj; match j, hj with | 0, hj => simp at hj; subst hj; simp [Addr.add]) (by intro u' hu'; simp at hu'; subst hu'; rfl) (by unfold maxLen; omega) (by omega) (by simp; omega) ?_)
      clear hv0 hf0
      intro vm wm hownm hgrowm _ hatm
      have hO0 : OwnAt wA wm B sv vm (n + 1) (xs ++ [Value.int .u8 45]) := ownAt_of hownm hgrowm hatm
      obtain ⟨X, hX⟩ : ∃ X, Hid (X = xs ++ [Value.int .u8 45]) := ⟨_, rfl⟩
      rw [← hX.out] at hO0
      clear hownm hgrowm hatm
      go_wp2_with fail
      go_loopw [0, 7] (fun v' i w' => ∃ (r : Nat), i = .int .i64 r ∧ r ≤ q + 1 ∧ OwnAt wA w' B sv v' (n + 1 + (q + 1 - r)) (X ++ Lib.byteCells ((Lib.decDigits u).take (q + 1 - r)))) (fun _ i _ => (intOf i).toNat)
      case atStart => exact ⟨q + 1, by go_num, Nat.le_refl _, by simpa [Lib.byteCells] using hO0⟩
      case round =>
        clear hO0
        obtain ⟨r, rfl, hr, hO⟩ := hrel
        by_cases hr0 : 0 < r
        · obtain ⟨r, rfl⟩ : ∃ r', r = r' + 1 := ⟨r - 1, by omega⟩
          have hr0' : (0 : Int) < ((r + 1 : Nat) : Int) := by omega
          obtain ⟨x, hx, hcx⟩ := hstep.out r (by omega)
          have hcx' : wr.cell? ⟨w.heap.size, r, none⟩ = some (.int .u8 x.toNat) := hO.2.1.cell hcx hneF
          have HX : Hid ((Lib.decDigits u)[q - r]? = some x) := hx
          have HO : Hid (OwnAt wA wr B sv u0 (n + 1 + (q + 1 - (r + 1))) (X ++ Lib.byteCells ((Lib.decDigits u).take (q + 1 - (r + 1))))) := hO
          have hownr := hO.1
          have hszr := hO.2.1.size
          clear hx hcx hO
          go_wp2_with (at_builtin; refine wpList_append_own_at _ rfl _ _ 22 rfl B 5 i0 (.int .u8 0) 1 1 Tryd.underlying22 hi hz0 hz1 hz2 rfl (by decide) _ _ _ rfl (hownr.alloc _) ⟨wr.heap.size, 0, none⟩ 1 1 [Value.int .u8 x.toNat] rfl rfl (by intro j u' hj; match j, hj with | 0, hj => simp at hj; subst hj; simp [Addr.add]) (by intro u' hu'; simp at hu'; subst hu'; rfl) (by unfold maxLen; omega) (by omega) (by simp; omega) ?_)
          intro v1 w1 hown1 hgrow _ hat
          have hA : OwnAt wr w1 B u0 v1 (n + 1 + (q - r) + 1) (X ++ (Lib.byteCells ((Lib.decDigits u).take (q - r)) ++ [Value.int .u8 x.toNat])) := ownAt_of hown1 hgrow hat
          have hnew : Hid (OwnAt wA w1 B sv v1 (n + 1 + (q + 1 - r)) (X ++ Lib.byteCells ((Lib.decDigits u).take (q + 1 - r)))) := by
            have h1 := HO.out.step hA
            have e1 : n + 1 + (q - r) + 1 = n + 1 + (q + 1 - r) := by omega
            have e2 : q + 1 - r = q - r + 1 := by omega
            have e4 : (Lib.decDigits u).take (q - r + 1) = (Lib.decDigits u).take (q - r) ++ [x] := by
              rw [List.take_add_one, HX.out]; rfl
            rw [e1] at h1
            rw [e2, e4, ← e2]
            rw [Lib.byteCells, List.map_append]
            exact h1
          clear hA hown1 hgrow hat hownr
          go_wp2
          go_roundw
          case rel =>
            exact ⟨r, by go_num, by omega, hnew.out⟩
          case measure => simp [intOf]
        · have hr1 : r = 0 := by omega
          subst hr1
          have hfinO : Hid (Own w wr B sv u0 (n + 1 + (Lib.decDigits u).length) (X ++ Lib.byteCells (Lib.decDigits u))) := by
            have h1 := hO
            rw [Nat.sub_zero, List.take_of_length_le (by have := hDl.out; omega), ← hDl.out] at h1
            exact ⟨h1.1, grow_trans (r := sv.ownBlock) ⟨hgA.os, hgA.tape, hgA.output, hgA.size, fun k hk _ => hgA.block k hk (by simp)⟩ h1.2.1 (fun i h _ => h)⟩
          clear hO
          go_wp2
          go_ret
          rw [hX.out] at hfinO
          exact ⟨_, rfl, hfinO.out⟩
    · have hs1 : ((k : Int) / 10 == 0) = false := by rw [beq_eq_false_iff_ne]; omega
      go_wp2_with fail
      go_roundw
      case rel =>
        have e8 : (48 + (k : Int) % 10) = ((48 + k % 10 : Nat) : Int) := by omega
        rw [e8]
        refine ⟨k / 10, q + 1, L ++ [UInt8.ofNat (48 + k % 10)], by go_num, by go_num, by omega, by rw [List.length_append, Hq.out]; rfl, ?_, hput.out, hgn.out⟩
        rw [Hdig.out, dig_more hstop, List.reverse_append, List.append_assoc]
        rfl
      case measure => simp [intOf]; omega
theorem decimal_calls (B n : Nat) (k : Int) (h0 : -9223372036854775808 ≤ k) (h1 : k ≤ 9223372036854775807) (sv : Value) (xs : List Value) (w : World) (hown : w.ownsRow B 5 1 sv n xs) (hBw : B ≤ w.heap.size) (hlim : n + 21 ≤ 140737488355328) :
    Calls Tryd.prog 9 #[sv, .int .i64 k] w fun e w' => ∃ v', e = .returned v' ∧ Own w w' B sv v' (n + (Lib.itoa k).length) (xs ++ Lib.byteCells (Lib.itoa k)) := by
  by_cases hneg : k < 0
  · obtain ⟨u, rfl⟩ : ∃ u : Nat, k = -(u : Int) := ⟨k.natAbs, by omega⟩
    have hu1 : 1 ≤ u := by omega
    rw [Lib.itoa_neg u hu1]
    refine (decimal_neg B n u hu1 (by omega) sv xs w hown hBw hlim).mono ?_
    rintro e w' ⟨v', rfl, h⟩
    refine ⟨v', rfl, ?_⟩
    have e1 : n + (45 :: Lib.decDigits u).length = n + 1 + (Lib.decDigits u).length := by simp; omega
    have e2 : xs ++ Lib.byteCells (45 :: Lib.decDigits u) = xs ++ [Value.int .u8 45] ++ Lib.byteCells (Lib.decDigits u) := by simp [Lib.byteCells]
    rw [e2, e1]
    exact h
  · obtain ⟨u, rfl⟩ : ∃ u : Nat, k = u := ⟨k.toNat, by omega⟩
    rw [Lib.itoa_nonneg]
    exact decimal_pos B n u (by omega) sv xs w hown hBw hlim

set_option maxHeartbeats 1000000 in
theorem zzF_calls (w : World) (oa : Option Addr) (n c b : Nat) (hn : n ≤ 9223372036854775807) :
    Calls Tryd.prog 12 #[.slice oa n c, .float .f64 b] w fun e w' => e = .returned (.bool (decide (n ≤ 1048576))) ∧ w' = w := by
  by_cases h : (1048576 : Int) < n
  · rw [decide_eq_false (show ¬ n ≤ 1048576 by omega)]
    go_enter Tryd.func12, Tryd.ntmps12
    go_wp2
    go_ret
    exact ⟨rfl, rfl⟩
  · rw [decide_eq_true (show n ≤ 1048576 by omega)]
    have h' : decide ((1048576 : Int) < n) = false := decide_eq_false h
    go_enter Tryd.func12, Tryd.ntmps12
    go_wp2
    go_ret
    exact ⟨rfl, rfl⟩
set_option maxHeartbeats 1000000 in
theorem zzI_calls (w : World) (oa : Option Addr) (n c : Nat) (i : Int) (hn : n ≤ 9223372036854775807) :
    Calls Tryd.prog 5 #[.slice oa n c, .int .i64 i] w fun e w' => e = .returned (.bool (decide (n ≤ 1048576))) ∧ w' = w := by
  by_cases h : (1048576 : Int) < n
  · rw [decide_eq_false (show ¬ n ≤ 1048576 by omega)]
    go_enter Tryd.func5, Tryd.ntmps5
    go_wp2
    go_ret
    exact ⟨rfl, rfl⟩
  · rw [decide_eq_true (show n ≤ 1048576 by omega)]
    have h' : decide ((1048576 : Int) < n) = false := decide_eq_false h
    go_enter Tryd.func5, Tryd.ntmps5
    go_wp2
    go_ret
    exact ⟨rfl, rfl⟩
end Go.Proofs.Qxb6614357aDoor
