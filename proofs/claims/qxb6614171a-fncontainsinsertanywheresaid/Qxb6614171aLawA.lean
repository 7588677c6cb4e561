/-
  WALKS of seat b6614171a: the law of insertion, behind its guards.
-/
import Derived.Test.Qxb6614171aStore

namespace Go.Proofs.Qxb6614171a
open Go.RowKit

theorem run_make_rows' (w : World) (n : Nat) (hn : n ≤ 1000000) :
    (Instr.makeSlice 26 (.int .i64 0) (.int .i64 ((n : Int) + 1))).run Try.prog w = .ok (.slice (some ⟨w.heap.size, 0, none⟩) 0 (n + 1)) (w.alloc (.cells (zer2 (n + 1)).toArray 31)) := by
  have := run_make_rows w (n + 1) (by omega)
  rwa [Int.natCast_add] at this

theorem below_drewN {B : Nat} {a w : World} (h : Below B a w) (n : Nat) : Below B a (w.drewN n) := ⟨h.os, h.tape, h.output, h.size, h.block⟩

set_option maxRecDepth 100000 in
set_option maxHeartbeats 2000000 in
theorem law3_main (w : World) (a : Option Addr) (n c p : Nat) (rs : List R) (h : IsRows w a n rs) (id uri q : ByteArray) (h1 : id.size ≤ 262144) (h2 : uri.size ≤ 262144) (h3 : q.size ≤ 262144) (hp : p ≤ n) :
    Calls Try.prog 3 #[.slice a n c, .int .i64 p, .string id, .string uri, .string q] w fun e w' => e = .returned (.bool true) ∧ Below w.heap.size w w' := by
  have g1 : decide ((262144 : Int) < id.size) = false := by simp; omega
  have g2 : decide ((262144 : Int) < uri.size) = false := by simp; omega
  have g3 : decide ((262144 : Int) < q.size) = false := by simp; omega
  have g4 : decide ((p : Int) < 0) = false := by simp
  have g5 : decide (n < p) = false := by simp; omega
  have E : Hid (rs.length = n) := h.len
  go_enter Try.func3, Try.ntmps3
  go_wp2_with fail
  refine (zzBytesA_calls w a n c rs h p id uri q).mono ?_
  rintro e w1 ⟨⟨b, rfl⟩, rfl⟩
  cases b with
  | false =>
    go_wp2
    go_ret
    exact ⟨rfl, Below.refl _ _⟩
  | true =>
  go_wp2_with fail
  refine (tooBig_calls w1 a n c rs h _).mono ?_
  rintro e w2 ⟨⟨b, rfl, hn⟩, z, rfl⟩
  cases b with
  | true =>
    go_wp2
    go_ret
    exact ⟨rfl, below_drewN (Below.refl _ _) z⟩
  | false =>
  have hn' : n ≤ 65536 := hn rfl
  clear hn
  have hbel2 : Below w1.heap.size w1 (w1.drewN z) := below_drewN (Below.refl _ _) z
  generalize w1.drewN z = w2 at hbel2 ⊢
  have hr2 := h.below hbel2
  go_wp2_with fail
  refine (toStore_calls w2 a n c rs hr2 hn').mono ?_
  rintro e w3 ⟨rfl, hg3⟩
  have hbel3 : Below w1.heap.size w1 w3 := hbel2.trans ((((Below.refl _ _).alloc (Nat.le_refl _) _).trans (hg3.below (by simp))).mono hbel2.size)
  have hlt23 : w1.heap.size ≤ w2.heap.size := hbel2.size
  have hB3 : Has w3 w2.heap.size 31 (enc2 rs) := hg3.here
  clear hg3 hbel2 hr2
  have hmk := run_make_rows' w3 n (by omega)
  have hst := Grew.start w3 (n + 1)
  have hbel4 : Below w1.heap.size w1 (w3.alloc (.cells (zer2 (n + 1)).toArray 31)) := hbel3.alloc hbel3.size _
  have hB4 : Has (w3.alloc (.cells (zer2 (n + 1)).toArray 31)) w2.heap.size 31 (enc2 rs) := hB3.alloc _
  have hlt34 : w2.heap.size < w3.heap.size := hB3.lt
  clear hB3
  go_wp2
  clear hmk
  go_loopw [12, 13] (fun o i w' => ∃ k : Nat, i = .int .i64 k ∧ k ≤ p ∧ o = .slice (some ⟨w3.heap.size, 0, none⟩) k (n + 1) ∧ Grew w3.heap.size (enc2 (rs.take k) ++ zer2 (n + 1 - k)) (w3.alloc (.cells (zer2 (n + 1)).toArray 31)) w') (fun _ i _ => p - (intOf i).toNat)
  case atStart => exact ⟨0, rfl, by omega, rfl, by simpa using hst⟩
  case round =>
    clear hst
    obtain ⟨k, rfl, hkn, rfl, hg⟩ := hrel
    have hbel : Below w1.heap.size w1 wr := hbel4.trans ((hg.below (by simp)).mono (by omega))
    have hl : (rs.take k).length = k := by rw [List.length_take]; have := E.out; omega
    have hd1 := hg.here.cell (fill_fst hl (by omega))
    have hd2 := hg.here.cell (fill_snd hl (by omega))
    have hfr := hg.here.thawed
    have hBl := hg.lt
    by_cases hlt : (k : Int) < p
    · obtain ⟨x, hx⟩ : ∃ x, rs[k]? = some x := ⟨_, List.getElem?_eq_getElem (by have := E.out; omega)⟩
      obtain ⟨bb, off, rfl, hbb, q1, q2⟩ := (h.below hbel).cell k x hx
      have hroom : k + 1 ≤ n + 1 := by omega
      have hkn2 : (k : Int) < n := by omega
      have hfin : Hid (Grew w3.heap.size (enc2 (rs.take (k + 1)) ++ zer2 (n + 1 - (k + 1))) (w3.alloc (.cells (zer2 (n + 1)).toArray 31)) ((((wr.setCell ⟨w3.heap.size, k * 2, none⟩ (.string x.1)).setCell ⟨w3.heap.size, k * 2 + 1, none⟩ (.string x.2)).alloc (.cells #[.string x.1, .string x.2] 31)).drew)) := by
        rw [show n + 1 - k = (n + 1 - (k + 1)) + 1 from by omega] at hg
        have h1 := (((hg.fill (r := x) hl).alloc (.cells #[.string x.1, .string x.2] 31)).drew)
        rw [← take_snoc hx] at h1
        exact h1
      clear hx hl hbel
      go_wp2
      go_region
      all_goals
        go_wp2
        go_roundw
        case rel => exact ⟨k + 1, by go_num, by omega, rfl, hfin.out⟩
        case measure => simp [intOf]; omega
    · have hkp : k = p := by omega
      subst hkp
      have hroom : k + 1 ≤ n + 1 := by omega
      have hg2 : Grew w3.heap.size (enc2 ((rs.take k ++ [(id, uri)]) ++ (rs.drop k).take 0) ++ zer2 (n - k)) (w3.alloc (.cells (zer2 (n + 1)).toArray 31)) (((wr.setCell ⟨w3.heap.size, k * 2, none⟩ (.string id)).setCell ⟨w3.heap.size, k * 2 + 1, none⟩ (.string uri)).alloc (.cells #[.string id, .string uri] 31)) := by
        rw [show n + 1 - k = (n - k) + 1 from by omega] at hg
        have h1 := ((hg.fill (r := (id, uri)) hl).alloc (.cells #[.string id, .string uri] 31))
        simpa using h1
      clear hl hbel hg
      go_wp2
      clear hd1 hd2 hfr hBl
      go_loopw [12, 14] (fun o i w' => ∃ m : Nat, i = .int .i64 m ∧ k ≤ m ∧ m ≤ n ∧ o = .slice (some ⟨w3.heap.size, 0, none⟩) (m + 1) (n + 1) ∧ Grew w3.heap.size (enc2 ((rs.take k ++ [(id, uri)]) ++ (rs.drop k).take (m - k)) ++ zer2 (n - m)) (w3.alloc (.cells (zer2 (n + 1)).toArray 31)) w') (fun _ i _ => n - (intOf i).toNat)
      case atStart => exact ⟨k, rfl, by omega, by omega, rfl, by simpa using hg2⟩
      case round =>
        clear hg2
        obtain ⟨m, rfl, hkm, hmn, rfl, hg⟩ := hrel
        have hbel : Below w1.heap.size w1 wr := hbel4.trans ((hg.below (by simp)).mono (by omega))
        by_cases hlt2 : (m : Int) < n
        · obtain ⟨x, hx⟩ : ∃ x, rs[m]? = some x := ⟨_, List.getElem?_eq_getElem (by have := E.out; omega)⟩
          obtain ⟨bb, off, rfl, hbb, q1, q2⟩ := (h.below hbel).cell m x hx
          have hl : ((rs.take k ++ [(id, uri)]) ++ (rs.drop k).take (m - k)).length = m + 1 := by have := E.out; simp; omega
          have hd1 := hg.here.cell (fill_fst hl (by omega))
          have hd2 := hg.here.cell (fill_snd hl (by omega))
          have hfr := hg.here.thawed
          have hBl := hg.lt
          have hroom : m + 1 + 1 ≤ n + 1 := by omega
          have hfin : Hid (Grew w3.heap.size (enc2 ((rs.take k ++ [(id, uri)]) ++ (rs.drop k).take (m + 1 - k)) ++ zer2 (n - (m + 1))) (w3.alloc (.cells (zer2 (n + 1)).toArray 31)) ((((wr.setCell ⟨w3.heap.size, (m + 1) * 2, none⟩ (.string x.1)).setCell ⟨w3.heap.size, (m + 1) * 2 + 1, none⟩ (.string x.2)).alloc (.cells #[.string x.1, .string x.2] 31)).drew)) := by
            rw [show n - m = (n - (m + 1)) + 1 from by omega] at hg
            have h1 := (((hg.fill (r := x) hl).alloc (.cells #[.string x.1, .string x.2] 31)).drew)
            rw [List.append_assoc, ← take_snoc (l := rs.drop k) (i := m - k) (by rw [List.getElem?_drop, show k + (m - k) = m from by omega]; exact hx), show m - k + 1 = m + 1 - k from by omega] at h1
            exact h1
          clear hx hl hbel
          go_wp2
          go_region
          all_goals
            go_wp2
            go_roundw
            case rel => exact ⟨m + 1, by go_num, by omega, by omega, rfl, hfin.out⟩
            case measure => simp [intOf]; omega
        · have hmn' : m = n := by omega
          obtain ⟨G, hGd⟩ : ∃ G, G = rs.take k ++ [(id, uri)] ++ rs.drop k := ⟨_, rfl⟩
          have hG : Has wr w3.heap.size 31 (enc2 ([] ++ G) ++ zer2 0) := by
            have h1 := hg.here
            rw [hmn', List.take_of_length_le (l := rs.drop k) (by have := E.out; simp; omega), Nat.sub_self] at h1
            rw [hGd]; exact h1
          have hB : Has wr w2.heap.size 31 (enc2 ([] ++ rs) ++ zer2 0) := by
            have h1 := hg.has hB4 (by omega)
            simpa [zer2] using h1
          have hg1 : Hid (has G uri = true) := by
            show has G uri = true
            rw [hGd]
            exact has_mem (r := (id, uri)) (by simp)
          have hgq : Hid (has G q = ((q.toList == uri.toList) || has rs q)) := by
            show has G q = _
            have e : has rs q = (has (rs.take k) q || has (rs.drop k) q) := by rw [← has_append, List.take_append_drop]
            rw [hGd, has_append, has_append, has_cons, has_nil, e]
            have e2 : (uri.toList == q.toList) = (q.toList == uri.toList) := by rw [Bool.eq_iff_iff]; simp; exact eq_comm
            rw [e2]
            cases has (rs.take k) q <;> cases has (rs.drop k) q <;> cases (q.toList == uri.toList) <;> rfl
          have HM : Hid (m + 1 = G.length) := by show m + 1 = G.length; rw [hGd]; have := E.out; simp; omega
          clear hg hmn' hB4 hbel4 hGd
          go_wp2_with fail
          have hrows : IsRows wr (some ⟨w3.heap.size, 0, none⟩) (m + 1) G := hG.rows (by simp) HM.out.symm (by unfold maxLen; omega)
          refine (contains_calls wr _ _ _ _ hrows uri).mono ?_
          rintro e w5 ⟨rfl, hbel5⟩
          rw [hg1.out]
          go_wp2_with fail
          refine (contains_calls w5 _ _ _ _ (hrows.below hbel5) q).mono ?_
          rintro e w6 ⟨rfl, hbel6⟩
          have hbel6' : Below wr.heap.size wr w6 := hbel5.trans (hbel6.mono hbel5.size)
          have hbase : IsRows w6 (some ⟨w2.heap.size, 0, none⟩) n rs := (hB.rows (by simp) E.out (by unfold maxLen; omega)).below hbel6'
          clear hbel5 hbel6
          cases hqu : (q.toList == uri.toList) with
          | true =>
            have hfin : Hid (has G q = true) := by show has G q = true; rw [hgq.out, hqu]; rfl
            go_wp2
            go_ret
            exact ⟨congrArg (fun b => Ending.returned (.bool b)) hfin.out, hbel.trans (hbel6'.mono hbel.size)⟩
          | false =>
            have hfin : Hid ((has G q == has rs q) = true) := by show (has G q == has rs q) = true; rw [hgq.out, hqu]; simp
            go_wp2_with fail
            refine (contains_calls w6 _ _ _ _ hbase q).mono ?_
            rintro e w7 ⟨rfl, hbel7⟩
            go_wp2
            go_ret
            exact ⟨congrArg (fun b => Ending.returned (.bool b)) hfin.out, (hbel.trans (hbel6'.mono hbel.size)).trans (hbel7.mono (Nat.le_trans hbel.size hbel6'.size))⟩
end Go.Proofs.Qxb6614171a
