/-
  WALKS of seat b6614171a: the law of cut and deletion, behind its guards.
-/
import Derived.Test.Qxb6614171aStore

namespace Go.Proofs.Qxb6614171a
open Go.RowKit

/-- The rows whose URI is not q. -/
def del (rs : List R) (q : ByteArray) : List R := rs.filter fun r => !(r.2.toList == q.toList)

theorem del_has (rs : List R) (q : ByteArray) : has (del rs q) q = false := by
  induction rs with
  | nil => rfl
  | cons r l ih =>
    unfold del at ih ⊢
    rw [List.filter_cons]
    cases h : (r.2.toList == q.toList) with
    | true => simpa [h] using ih
    | false => simp only [Bool.not_false, if_true]; rw [has_cons, h]; exact ih
theorem del_le (rs : List R) (q : ByteArray) : (del rs q).length ≤ rs.length := List.length_filter_le _ _
theorem del_lt (rs : List R) (q : ByteArray) : has rs q = decide ((del rs q).length < rs.length) := by
  induction rs with
  | nil => rfl
  | cons r l ih =>
    unfold del at ih ⊢
    rw [List.filter_cons, has_cons]
    have hle := List.length_filter_le (fun r : R => !(r.2.toList == q.toList)) l
    cases h : (r.2.toList == q.toList) with
    | true => simp; omega
    | false => simp [ih]
theorem del_take {rs : List R} {k : Nat} {x : R} {q : ByteArray} (hx : rs[k]? = some x) : del (rs.take (k + 1)) q = if (x.2.toList == q.toList) then del (rs.take k) q else del (rs.take k) q ++ [x] := by
  rw [take_snoc hx]
  unfold del
  rw [List.filter_append]
  cases h : (x.2.toList == q.toList) <;> simp [h]

theorem below_drewN {B : Nat} {a w : World} (h : Below B a w) (n : Nat) : Below B a (w.drewN n) := ⟨h.os, h.tape, h.output, h.size, h.block⟩

set_option maxRecDepth 100000 in
set_option maxHeartbeats 2000000 in
theorem law4_main (w : World) (a : Option Addr) (n c k : Nat) (rs : List R) (h : IsRows w a n rs) (q : ByteArray) (h3 : q.size ≤ 262144) (hk : k ≤ n) :
    Calls Try.prog 4 #[.slice a n c, .int .i64 k, .string q] w fun e w' => e = .returned (.bool true) ∧ Below w.heap.size w w' := by
  have g3 : decide ((262144 : Int) < q.size) = false := by simp; omega
  have g4 : decide ((k : Int) < 0) = false := by simp
  have g5 : decide (n < k) = false := by simp; omega
  have E : Hid (rs.length = n) := h.len
  go_enter Try.func4, Try.ntmps4
  go_wp2_with fail
  refine (zzBytesB_calls w a n c rs h k q).mono ?_
  rintro e w1 ⟨⟨b, rfl⟩, rfl⟩
  cases b with
  | false =>
    go_wp2
    go_ret
    exact ⟨rfl, Below.refl _ _⟩
  | true =>
  go_wp2_with fail
  refine (tooBig_calls w1 a n c rs h _).mono ?_
  rintro e w2 ⟨⟨b, rfl, hn⟩, z, rfl⟩
  cases b with
  | true =>
    go_wp2
    go_ret
    exact ⟨rfl, below_drewN (Below.refl _ _) z⟩
  | false =>
  have hn' : n ≤ 65536 := hn rfl
  clear hn
  have hbel2 : Below w1.heap.size w1 (w1.drewN z) := below_drewN (Below.refl _ _) z
  generalize w1.drewN z = w2 at hbel2 ⊢
  have hr2 := h.below hbel2
  go_wp2_with fail
  refine (toStore_calls w2 a n c rs hr2 hn').mono ?_
  rintro e w3 ⟨rfl, hg3⟩
  have hbel3 : Below w1.heap.size w1 w3 := hbel2.trans ((((Below.refl _ _).alloc (Nat.le_refl _) _).trans (hg3.below (by simp))).mono hbel2.size)
  have hlt23 : w1.heap.size ≤ w2.heap.size := hbel2.size
  have hB3 : Has w3 w2.heap.size 31 (enc2 rs) := hg3.here
  clear hg3 hbel2 hr2
  have hmk := run_make_rows w3 n (by omega)
  have hst := Grew.start w3 n
  have hbel4 : Below w1.heap.size w1 (w3.alloc (.cells (zer2 n).toArray 31)) := hbel3.alloc hbel3.size _
  have hB4 : Has (w3.alloc (.cells (zer2 n).toArray 31)) w2.heap.size 31 (enc2 rs) := hB3.alloc _
  have hlt34 : w2.heap.size < w3.heap.size := hB3.lt
  clear hB3
  go_wp2
  clear hmk
  go_loopw [8, 9] (fun o i w' => ∃ (j : Nat), i = .int .i64 j ∧ j ≤ n ∧ o = .slice (some ⟨w3.heap.size, 0, none⟩) (del (rs.take j) q).length n ∧ Grew w3.heap.size (enc2 (del (rs.take j) q) ++ zer2 (n - (del (rs.take j) q).length)) (w3.alloc (.cells (zer2 n).toArray 31)) w') (fun _ i _ => n - (intOf i).toNat)
  case atStart => exact ⟨0, rfl, by omega, rfl, by simpa [del] using hst⟩
  case round =>
    clear hst
    obtain ⟨j, rfl, hjn, rfl, hg⟩ := hrel
    have hbel : Below w1.heap.size w1 wr := hbel4.trans ((hg.below (by simp)).mono (by omega))
    by_cases hlt : (j : Int) < n
    · obtain ⟨x, hx⟩ : ∃ x, rs[j]? = some x := ⟨_, List.getElem?_eq_getElem (by have := E.out; omega)⟩
      obtain ⟨bb, off, rfl, hbb, q1, q2⟩ := (h.below hbel).cell j x hx
      have HT : Hid (del (rs.take (j + 1)) q = if (x.2.toList == q.toList) then del (rs.take j) q else del (rs.take j) q ++ [x]) := del_take hx
      have hdl : (del (rs.take j) q).length ≤ j := by have := del_le (rs.take j) q; rw [List.length_take] at this; omega
      clear hx hbel
      obtain ⟨K, hK⟩ : ∃ K, K = del (rs.take j) q := ⟨_, rfl⟩
      rw [← hK] at hg hdl HT ⊢
      clear hK
      cases hit : (x.2.toList == q.toList) with
      | true =>
        go_wp2
        go_roundw
        case rel =>
          have e := HT.out
          rw [hit] at e
          simp only [if_true] at e
          exact ⟨j + 1, by go_num, by omega, by rw [e], by rw [e]; exact hg⟩
        case measure => simp [intOf]; omega
      | false =>
        have hd1 := hg.here.cell (fill_fst rfl (by omega))
        have hd2 := hg.here.cell (fill_snd rfl (by omega))
        have hfr := hg.here.thawed
        have hBl := hg.lt
        have hroom : K.length + 1 ≤ n := by omega
        have hfin : Hid (Grew w3.heap.size (enc2 (K ++ [x]) ++ zer2 (n - (K.length + 1))) (w3.alloc (.cells (zer2 n).toArray 31)) ((((wr.setCell ⟨w3.heap.size, K.length * 2, none⟩ (.string x.1)).setCell ⟨w3.heap.size, K.length * 2 + 1, none⟩ (.string x.2)).alloc (.cells #[.string x.1, .string x.2] 31)).drew)) := by
          rw [show n - K.length = (n - (K.length + 1)) + 1 from by omega] at hg
          exact (((hg.fill (r := x) rfl).alloc (.cells #[.string x.1, .string x.2] 31)).drew)
        go_wp2
        go_region
        all_goals
          go_wp2
          go_roundw
          case rel =>
            have e := HT.out
            rw [hit] at e
            simp only [Bool.false_eq_true, if_false] at e
            exact ⟨j + 1, by go_num, by omega, by rw [e]; simp, by rw [e]; simpa using hfin.out⟩
          case measure => simp [intOf]; omega
    · have hjn' : j = n := by omega
      have hK : Has wr w3.heap.size 31 (enc2 ([] ++ del rs q) ++ zer2 (n - (del rs q).length)) := by
        have h1 := hg.here
        rw [hjn', List.take_of_length_le (by have := E.out; omega)] at h1
        exact h1
      have hB : Has wr w2.heap.size 31 (enc2 (rs.take k ++ rs.drop k) ++ zer2 0) := by
        have h1 := hg.has hB4 (by omega)
        rw [List.take_append_drop]
        simpa [zer2] using h1
      have rK : IsRows wr (some ⟨w3.heap.size, 0, none⟩) (del rs q).length (del rs q) := hK.rows (by simp) rfl (by have := del_le rs q; have := E.out; unfold maxLen; omega)
      have rAll : IsRows wr (some ⟨w2.heap.size, 0, none⟩) n rs := by
        have h1 : Has wr w2.heap.size 31 (enc2 ([] ++ rs) ++ zer2 0) := by rw [List.take_append_drop] at hB; simpa using hB
        exact h1.rows (by simp) E.out (by unfold maxLen; omega)
      have rHead : IsRows wr (some ⟨w2.heap.size, 0, none⟩) k (rs.take k) := by
        have h1 : Has wr w2.heap.size 31 (enc2 ([] ++ rs.take k) ++ (enc2 (rs.drop k) ++ zer2 0)) := by rw [enc2_append] at hB; simpa using hB
        exact h1.rows (by simp) (by rw [List.length_take]; have := E.out; omega) (by unfold maxLen; omega)
      have rTail : IsRows wr (some ⟨w2.heap.size, k * 2, none⟩) (n - k) (rs.drop k) := hB.rows (by rw [List.length_take]; have := E.out; omega) (by rw [List.length_drop]; have := E.out; omega) (by unfold maxLen; omega)
      have e1 : has rs q = (has (rs.take k) q || has (rs.drop k) q) := by rw [← has_append, List.take_append_drop]
      have e2 : has rs q = decide ((del rs q).length < n) := by rw [del_lt, E.out]
      have e3 := del_has rs q
      have hxk : Hid (∀ x, rs[k]? = some x → has rs x.2 = true) := fun x hx => has_mem (List.mem_of_getElem? hx)
      have e0 : (rs.take n).length = n := by rw [List.length_take]; have := E.out; omega
      have elen : Hid (del (rs.take j) q = del rs q) := by
        show del (rs.take j) q = del rs q
        rw [hjn', List.take_of_length_le (by have := E.out; omega)]
      rw [elen.out]
      obtain ⟨D, hD⟩ : ∃ D, D = del rs q := ⟨_, rfl⟩
      rw [← hD] at rK e2 e3 ⊢
      obtain ⟨b0, hb0⟩ : ∃ b0, b0 = has rs q := ⟨_, rfl⟩
      obtain ⟨b1, hb1⟩ : ∃ b1, b1 = has (rs.take k) q := ⟨_, rfl⟩
      obtain ⟨b2, hb2⟩ : ∃ b2, b2 = has (rs.drop k) q := ⟨_, rfl⟩
      have F : Hid (b0 = has rs q ∧ b1 = has (rs.take k) q ∧ b2 = has (rs.drop k) q ∧ b0 = (b1 || b2) ∧ b0 = decide (D.length < n) ∧ has D q = false) := ⟨hb0, hb1, hb2, by rw [hb0, hb1, hb2]; exact e1, by rw [hb0]; exact e2, e3⟩
      clear hb0 hb1 hb2 e0 e1 e2 e3 hD hg hjn' hK hB hB4 hbel4 elen
      go_wp2_with fail
      refine (contains_calls wr _ _ _ _ rAll q).mono ?_
      rintro e w5 ⟨rfl, hb5⟩
      rw [← F.out.1]
      go_wp2_with fail
      refine (contains_calls w5 _ _ _ _ (rHead.below hb5) q).mono ?_
      rintro e w6 ⟨rfl, hb6⟩
      rw [← F.out.2.1]
      have hbel6 : Below wr.heap.size wr w6 := hb5.trans (hb6.mono hb5.size)
      clear hb5 hb6 rHead
      cases hc0 : b0 with
      | true =>
        have hDn : (D.length : Int) < n := by
          have := F.out.2.2.2.2.1
          rw [hc0] at this
          have := of_decide_eq_true this.symm
          omega
        cases hc1 : b1 with
        | true =>
          by_cases hkn : k = n
          · go_wp2_with fail
            refine (contains_calls w6 _ _ _ _ (rK.below hbel6) q).mono ?_
            rintro e w8 ⟨rfl, hb8⟩
            rw [F.out.2.2.2.2.2]
            have hbel8 : Below wr.heap.size wr w8 := hbel6.trans (hb8.mono hbel6.size)
            have hkk : ¬ (k : Int) < n := by omega
            go_wp2
            go_ret
            exact ⟨rfl, hbel.trans (hbel8.mono hbel.size)⟩
          · go_wp2_with fail
            refine (contains_calls w6 _ _ _ _ (rK.below hbel6) q).mono ?_
            rintro e w8 ⟨rfl, hb8⟩
            rw [F.out.2.2.2.2.2]
            have hbel8 : Below wr.heap.size wr w8 := hbel6.trans (hb8.mono hbel6.size)
            have hkk : (k : Int) < n := by omega
            obtain ⟨x, hx⟩ : ∃ x, rs[k]? = some x := ⟨_, List.getElem?_eq_getElem (by have := E.out; omega)⟩
            obtain ⟨_, _, ⟨⟩, _, _, hcx⟩ := (rAll.below hbel8).cell k x hx
            simp only [Nat.zero_add] at hcx
            have hhx := hxk.out x hx
            clear hx
            go_wp2_with fail
            refine (contains_calls w8 _ _ _ _ (rAll.below hbel8) x.2).mono ?_
            rintro e w9 ⟨rfl, hb9⟩
            rw [hhx]
            go_wp2
            go_ret
            exact ⟨rfl, (hbel.trans (hbel8.mono hbel.size)).trans (hb9.mono (Nat.le_trans hbel.size hbel8.size))⟩
        | false =>
          have hb2 : b2 = true := by have := F.out.2.2.2.1; rw [hc0, hc1] at this; simpa using this.symm
          by_cases hkn : k = n
          · exfalso
            have h1 := F.out.2.2.1
            rw [hb2, hkn, List.drop_eq_nil_of_le (by have := E.out; omega)] at h1
            cases h1
          · have hkn' : (k : Int) < n := by omega
            go_wp2_with fail
            refine (contains_calls w6 _ _ _ _ (rTail.below hbel6) q).mono ?_
            rintro e w7 ⟨rfl, hb7⟩
            rw [← F.out.2.2.1, hb2]
            have hbel7 : Below wr.heap.size wr w7 := hbel6.trans (hb7.mono hbel6.size)
            go_wp2_with fail
            refine (contains_calls w7 _ _ _ _ (rK.below hbel7) q).mono ?_
            rintro e w8 ⟨rfl, hb8⟩
            rw [F.out.2.2.2.2.2]
            have hbel8 : Below wr.heap.size wr w8 := hbel7.trans (hb8.mono hbel7.size)
            have hkk : (k : Int) < n := by omega
            obtain ⟨x, hx⟩ : ∃ x, rs[k]? = some x := ⟨_, List.getElem?_eq_getElem (by have := E.out; omega)⟩
            obtain ⟨_, _, ⟨⟩, _, _, hcx⟩ := (rAll.below hbel8).cell k x hx
            simp only [Nat.zero_add] at hcx
            have hhx := hxk.out x hx
            clear hx
            go_wp2_with fail
            refine (contains_calls w8 _ _ _ _ (rAll.below hbel8) x.2).mono ?_
            rintro e w9 ⟨rfl, hb9⟩
            rw [hhx]
            go_wp2
            go_ret
            exact ⟨rfl, (hbel.trans (hbel8.mono hbel.size)).trans (hb9.mono (Nat.le_trans hbel.size hbel8.size))⟩
      | false =>
        have hDn : decide (D.length < n) = false := by
          have := F.out.2.2.2.2.1
          rw [hc0] at this
          exact this.symm
        cases hc1 : b1 with
        | true =>
          exfalso
          have := F.out.2.2.2.1
          rw [hc0, hc1] at this
          cases this
        | false =>
          have hb2 : b2 = false := by have := F.out.2.2.2.1; rw [hc0, hc1] at this; simpa using this.symm
          by_cases hkn : k = n
          · have hnk : n - k = 0 := by omega
            go_wp2_with fail
            refine (contains_calls w6 _ _ _ _ (rows_none w6 _) q).mono ?_
            rintro e w7 ⟨rfl, hb7⟩
            rw [has_nil]
            have hbel7 : Below wr.heap.size wr w7 := hbel6.trans (hb7.mono hbel6.size)
            go_wp2_with fail
            refine (contains_calls w7 _ _ _ _ (rK.below hbel7) q).mono ?_
            rintro e w8 ⟨rfl, hb8⟩
            rw [F.out.2.2.2.2.2]
            have hbel8 : Below wr.heap.size wr w8 := hbel7.trans (hb8.mono hbel7.size)
            go_wp2
            go_ret
            exact ⟨rfl, hbel.trans (hbel8.mono hbel.size)⟩
          · have hkn' : (k : Int) < n := by omega
            go_wp2_with fail
            refine (contains_calls w6 _ _ _ _ (rTail.below hbel6) q).mono ?_
            rintro e w7 ⟨rfl, hb7⟩
            rw [← F.out.2.2.1, hb2]
            have hbel7 : Below wr.heap.size wr w7 := hbel6.trans (hb7.mono hbel6.size)
            go_wp2_with fail
            refine (contains_calls w7 _ _ _ _ (rK.below hbel7) q).mono ?_
            rintro e w8 ⟨rfl, hb8⟩
            rw [F.out.2.2.2.2.2]
            have hbel8 : Below wr.heap.size wr w8 := hbel7.trans (hb8.mono hbel7.size)
            have hkk : (k : Int) < n := by omega
            obtain ⟨x, hx⟩ : ∃ x, rs[k]? = some x := ⟨_, List.getElem?_eq_getElem (by have := E.out; omega)⟩
            obtain ⟨_, _, ⟨⟩, _, _, hcx⟩ := (rAll.below hbel8).cell k x hx
            simp only [Nat.zero_add] at hcx
            have hhx := hxk.out x hx
            clear hx
            go_wp2_with fail
            refine (contains_calls w8 _ _ _ _ (rAll.below hbel8) x.2).mono ?_
            rintro e w9 ⟨rfl, hb9⟩
            rw [hhx]
            go_wp2
            go_ret
            exact ⟨rfl, (hbel.trans (hbel8.mono hbel.size)).trans (hb9.mono (Nat.le_trans hbel.size hbel8.size))⟩
end Go.Proofs.Qxb6614171a
