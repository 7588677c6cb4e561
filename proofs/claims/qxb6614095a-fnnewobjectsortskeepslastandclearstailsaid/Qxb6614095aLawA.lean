/-
  WALKS of seat b6614095a: the first law, at equal lengths of at most 4096.
-/
import Derived.Test.Qxb6614095aObjD
import Derived.Test.Qxb6614095aWorldC

namespace Go.Proofs.Qxb6614095a
open Go.RowKit

/-- What stands in memory while the first law builds its table: the members, the table's keys, its values. -/
structure St (w0 : World) (B B1 B2 n : Nat) (c0 : List Value) (ks : List ByteArray) (vs : List Int) (w : World) : Prop where
  bel : Below w0.heap.size w0 w
  ge : w0.heap.size ≤ B
  n1 : B < B1
  n2 : B1 < B2
  b0 : Has w B 31 c0
  b1 : Has w B1 9 (cS n ks)
  b2 : Has w B2 2 (cI n vs)
section
variable {w0 w : World} {B B1 B2 n : Nat} {c0 : List Value} {ks : List ByteArray} {vs : List Int}
theorem St.drewN (h : St w0 B B1 B2 n c0 ks vs w) (k : Nat) : St w0 B B1 B2 n c0 ks vs (w.drewN k) := ⟨⟨h.bel.os, h.bel.tape, h.bel.output, h.bel.size, h.bel.block⟩, h.ge, h.n1, h.n2, h.b0, h.b1, h.b2⟩
theorem St.alloc (h : St w0 B B1 B2 n c0 ks vs w) (o : Obj) : St w0 B B1 B2 n c0 ks vs (w.alloc o) := ⟨h.bel.alloc h.bel.size o, h.ge, h.n1, h.n2, h.b0.alloc o, h.b1.alloc o, h.b2.alloc o⟩
theorem St.setS (h : St w0 B B1 B2 n c0 ks vs w) (i : Nat) (x : ByteArray) (hi : i < ks.length) : St w0 B B1 B2 n c0 (ks.set i x) vs (w.setCell ⟨B1, i, none⟩ (.string x)) :=
  ⟨h.bel.setCell (p := ⟨B1, i, none⟩) (Nat.le_trans h.ge (Nat.le_of_lt h.n1)) _, h.ge, h.n1, h.n2, h.b0.set_other (p := ⟨B1, i, none⟩) (Nat.ne_of_gt h.n1) _, by rw [← cS_set hi]; exact h.b1.set i _, h.b2.set_other (p := ⟨B1, i, none⟩) (Nat.ne_of_lt h.n2) _⟩
theorem St.setI (h : St w0 B B1 B2 n c0 ks vs w) (i : Nat) (x : Int) (hi : i < vs.length) : St w0 B B1 B2 n c0 ks (vs.set i x) (w.setCell ⟨B2, i, none⟩ (.int .i64 x)) :=
  ⟨h.bel.setCell (p := ⟨B2, i, none⟩) (Nat.le_trans h.ge (Nat.le_of_lt (Nat.lt_trans h.n1 h.n2))) _, h.ge, h.n1, h.n2, h.b0.set_other (p := ⟨B2, i, none⟩) (Nat.ne_of_gt (Nat.lt_trans h.n1 h.n2)) _, h.b1.set_other (p := ⟨B2, i, none⟩) (Nat.ne_of_gt h.n2) _, by rw [← cI_set hi]; exact h.b2.set i _⟩
end

theorem Has.fresh (w : World) (e : TypeId) (cs : List Value) : Has (w.alloc (.cells cs.toArray e)) w.heap.size e cs := by
  show (w.heap.push _)[w.heap.size]? = _
  exact Array.getElem?_push_size
theorem St.start {w0 w3 : World} {n : Nat} {c0 : List Value} (hbel : Below w0.heap.size w0 w3) (h0 : Has w3 w0.heap.size 31 c0) :
    St w0 w0.heap.size w3.heap.size (w3.heap.size + 1) n c0 [] [] ((w3.alloc (.cells (cS n []).toArray 9)).alloc (.cells (cI n []).toArray 2)) := by
  refine ⟨(hbel.alloc hbel.size _).alloc (by have := hbel.size; simp; omega) _, Nat.le_refl _, h0.lt, by omega, (h0.alloc _).alloc _, (Has.fresh _ _ _).alloc _, ?_⟩
  have hs : (w3.alloc (.cells (cS n []).toArray 9)).heap.size = w3.heap.size + 1 := by simp
  rw [← hs]; exact Has.fresh _ _ _

theorem set_same {α : Type} {l : List α} {p : Nat} {x : α} (h : l[p]? = some x) : l.set p x = l := by
  obtain ⟨hp, rfl⟩ := List.getElem?_eq_some_iff.1 h
  simp
theorem cS_room {n : Nat} {l : List ByteArray} (h : l.length < n) : (cS n l)[l.length]? = some (.string ⟨#[]⟩) := by rw [← cS_grow h]; exact cS_get (by simp)
theorem cI_room {n : Nat} {l : List Int} (h : l.length < n) : (cI n l)[l.length]? = some (.int .i64 0) := by rw [← cI_grow h]; exact cI_get (by simp)
theorem St.pushS {w0 w : World} {B B1 B2 n : Nat} {c0 : List Value} {ks : List ByteArray} {vs : List Int} (h : St w0 B B1 B2 n c0 ks vs w) (hk : ks.length < n) : St w0 B B1 B2 n c0 (ks ++ [(⟨#[]⟩ : ByteArray)]) vs (w.setCell ⟨B1, ks.length, none⟩ (.string ⟨#[]⟩)) := by
  have h1 : St w0 B B1 B2 n c0 (ks ++ [(⟨#[]⟩ : ByteArray)]) vs w := ⟨h.bel, h.ge, h.n1, h.n2, h.b0, by rw [cS_grow hk]; exact h.b1, h.b2⟩
  have h2 := h1.setS ks.length ⟨#[]⟩ (by simp)
  simpa using h2
theorem St.pushI {w0 w : World} {B B1 B2 n : Nat} {c0 : List Value} {ks : List ByteArray} {vs : List Int} (h : St w0 B B1 B2 n c0 ks vs w) (hv : vs.length < n) : St w0 B B1 B2 n c0 ks (vs ++ [0]) (w.setCell ⟨B2, vs.length, none⟩ (.int .i64 0)) := by
  have h1 : St w0 B B1 B2 n c0 ks (vs ++ [0]) w := ⟨h.bel, h.ge, h.n1, h.n2, h.b0, h.b1, by rw [cI_grow hv]; exact h.b2⟩
  have h2 := h1.setI vs.length 0 (by simp)
  simpa using h2
/-- The search in the table has ended at a key that is there. -/
theorem tab_hit {l t : List M} {p : Nat} {m x : M} (hN : Norm l t) (hm : t[p]? = some m) (hk : m.1 = x.1) : Norm (l ++ [x]) (t.set p x) := by
  obtain ⟨hp, rfl⟩ := List.getElem?_eq_some_iff.1 hm
  have e : t = t.take p ++ t[p] :: t.drop (p + 1) := by rw [← List.drop_eq_getElem_cons hp, List.take_append_drop]
  have e2 : t.set p x = t.take p ++ x :: t.drop (p + 1) := by
    rw [List.set_eq_take_append_cons_drop, if_pos hp]
  rw [e2]
  exact norm_replace (m := t[p]) (by rw [← e]; exact hN) hk
/-- .. at a place for a key that is not there. -/
theorem tab_miss {l t : List M} {p : Nat} {x : M} (hN : Norm l t) (hlow : ∀ m ∈ t.take p, klt m.1 x.1 = true) (hhigh : ∀ m, t[p]? = some m → klt m.1 x.1 = false ∧ m.1 ≠ x.1) : Norm (l ++ [x]) (t.take p ++ x :: t.drop p) := by
  refine norm_insert (by rw [List.take_append_drop]; exact hN) hlow ?_
  rcases Nat.lt_or_ge p t.length with hp | hp
  · obtain ⟨h1, h2⟩ := hhigh t[p] (List.getElem?_eq_getElem hp)
    have e := List.drop_eq_getElem_cons hp
    rw [e]
    refine asc_rest ?_ h1 h2
    rw [← e]
    exact List.Pairwise.sublist (List.drop_sublist _ _) hN.1
  · rw [List.drop_eq_nil_of_le hp]; simp

set_option maxRecDepth 100000 in
set_option maxHeartbeats 2000000 in
theorem law1_main (w : World) (a c : Option Addr) (n ca cc : Nat) (ks : List ByteArray) (vs : List Int) (hk : IsStrs w a n ks) (hv : IsInts w c n vs) (hn : n ≤ 4096) :
    Calls Try.prog 3 #[.slice a n ca, .slice c n cc] w fun e w' => e = .returned (.bool true) ∧ Below w.heap.size w w' := by
  have hn1 : decide ((4096 : Int) < n) = false := by simp; omega
  go_enter Try.func3, Try.ntmps3
  go_wp2_with fail
  refine (zzBytes1_calls w a c n n ca cc ks vs hk hv).mono ?_
  rintro e w1 ⟨⟨b, rfl⟩, rfl⟩
  cases b with
  | false =>
    go_wp2
    go_ret
    exact ⟨rfl, Below.refl _ _⟩
  | true =>
  go_wp2_with fail
  refine (add_calls w1 n a ca _ ks hk).mono ?_
  rintro e w2 ⟨⟨t, rfl⟩, rfl⟩
  by_cases ht : 1048576 < t
  · go_wp2
    go_ret
    exact ⟨rfl, Below.refl _ _⟩
  have ht' : decide (1048576 < t) = false := by simpa using ht
  clear ht
  have hne : (((n : Nat) : Int) != (n : Int)) = false := by simp
  go_wp2_with fail
  refine (members_calls w2 a c n ca cc ks vs hk hv (by omega)).mono ?_
  rintro e w3 ⟨rfl, hg⟩
  have hmS := make_S w3 n (by omega)
  have hmI := make_I (w3.alloc (.cells (cS n []).toArray 9)) n (by omega)
  have hbel3 : Below w2.heap.size w2 w3 := ((Below.refl _ _).alloc (Nat.le_refl _) _).trans (hg.below (by simp))
  have hst0 := St.start (n := n) hbel3 hg.here
  go_wp2
  clear hmS hmI
  go_loopw [8, 9, 10] (fun mk mv i w' => ∃ (k : Nat) (t : List M), i = .int .i64 k ∧ k ≤ n ∧ mk = .slice (some ⟨w3.heap.size, 0, none⟩) t.length n ∧ mv = .slice (some ⟨w3.heap.size + 1, 0, none⟩) t.length n ∧ t.length ≤ k ∧ Norm ((ks.zip vs).take k) t ∧ St w2 w2.heap.size w3.heap.size (w3.heap.size + 1) n (enc (ks.zip vs)) (t.map (·.1)) (t.map (·.2)) w') (fun _ _ i _ => n - (intOf i).toNat)
  case atStart => exact ⟨0, [], rfl, by omega, rfl, rfl, by simp, by simpa using norm_asc List.Pairwise.nil, by simpa using hst0⟩
  case round =>
    clear hst0
    obtain ⟨k, t, rfl, hkn, rfl, rfl, htk, hN, hst⟩ := hrel
    by_cases hlt : (k : Int) < n
    · obtain ⟨x, hx⟩ : ∃ x, ks[k]? = some x := ⟨_, List.getElem?_eq_getElem (by have := hk.len; omega)⟩
      obtain ⟨v, hv'⟩ : ∃ v, vs[k]? = some v := ⟨_, List.getElem?_eq_getElem (by have := hv.len; omega)⟩
      obtain ⟨b1, o1, rfl, hb1, hc1⟩ := hk.cell k x hx
      obtain ⟨b2, o2, rfl, hb2, hc2⟩ := hv.cell k v hv'
      have hc1' : wr.cell? ⟨b1, o1 + k, none⟩ = some (.string x) := by rw [hst.bel.cell (p := ⟨b1, o1 + k, none⟩) hb1]; exact hc1
      have hc2' : wr.cell? ⟨b2, o2 + k, none⟩ = some (.int .i64 v) := by rw [hst.bel.cell (p := ⟨b2, o2 + k, none⟩) hb2]; exact hc2
      have X : Hid ((ks.zip vs).take (k + 1) = (ks.zip vs).take k ++ [(x, v)]) := by
        have hl : k < (ks.zip vs).length := by have := hk.len; have := hv.len; simp; omega
        show (ks.zip vs).take (k + 1) = _
        rw [List.take_succ_eq_append_getElem hl]
        congr 1
        simp [(List.getElem?_eq_some_iff.1 hx).2, (List.getElem?_eq_some_iff.1 hv').2]
      have HC2 : Hid (w2.cell? ⟨b2, o2 + k, none⟩ = some (.int .i64 v)) := hc2
      clear hx hv' hc1 hc2
      go_wp2
      go_loop [12] (fun q => ∃ p : Nat, q = .int .i64 p ∧ p ≤ t.length ∧ ∀ m ∈ t.take p, klt m.1 x = true) (fun q => t.length - (intOf q).toNat)
      case atStart => exact ⟨0, rfl, by omega, by simp⟩
      case round =>
        obtain ⟨p, rfl, hpt, hlow⟩ := hrel
        by_cases hp : (p : Int) < t.length
        · obtain ⟨m, hm⟩ : ∃ m, t[p]? = some m := ⟨_, List.getElem?_eq_getElem (by omega)⟩
          have hcm : wr.cell? ⟨w3.heap.size, p, none⟩ = some (.string m.1) := hst.b1.cell (cS_get (by simp [hm]))
          have HM : Hid (t[p]? = some m) := hm
          clear hm
          cases hmx : Op.bytesLess m.1.toList x.toList with
          | true =>
            go_wp2
            go_round
            case rel =>
              refine ⟨p + 1, by go_num, by omega, ?_⟩
              obtain ⟨hpl, rfl⟩ := List.getElem?_eq_some_iff.1 HM.out
              rw [List.take_succ_eq_append_getElem hpl]
              intro m' hm'
              rcases List.mem_append.1 hm' with h | h
              · exact hlow m' h
              · simp at h; subst h; exact hmx
            case measure => simp [intOf]; omega
          | false =>
            cases hmeq : (m.1.toList == x.toList) with
            | true =>
              have hfr := hst.b2.thawed
              have hold : wr.cell? ⟨w3.heap.size + 1, p, none⟩ = some (.int .i64 m.2) := hst.b2.cell (cI_get (by simp [HM.out]))
              go_wp2
              go_roundw
              case rel =>
                have hkx : m.1 = x := ba_inj (by simpa using hmeq)
                refine ⟨k + 1, t.set p (x, v), by go_num, by omega, by simp, by simp, by simp; omega, by rw [X.out]; exact tab_hit hN HM.out hkx, ?_⟩
                have h1 := hst.setI p v (by simp; omega)
                rw [List.map_set, List.map_set]
                rw [set_same (by simp [HM.out, hkx])]
                exact h1
              case measure => simp [intOf]; omega
            | false =>
              have hhigh : ∀ m', t[p]? = some m' → klt m'.1 (x, v).1 = false ∧ m'.1 ≠ (x, v).1 := by
                intro m' hm'
                rw [HM.out] at hm'; cases hm'
                exact ⟨hmx, fun e => by rw [e] at hmeq; simp at hmeq⟩
              have hpn : p ≤ t.length := by omega
              have htn : t.length < n := by omega
              have r1 : wr.cell? ⟨w3.heap.size, t.length, none⟩ = some (.string ⟨#[]⟩) := hst.b1.cell (by simpa using cS_room (n := n) (l := t.map (·.1)) (by simpa using htn))
              have r2 : wr.cell? ⟨w3.heap.size + 1, t.length, none⟩ = some (.int .i64 0) := hst.b2.cell (by simpa using cI_room (n := n) (l := t.map (·.2)) (by simpa using htn))
              have f1 := hst.b1.thawed
              have f2 := hst.b2.thawed
              have l1 := hst.b1.lt
              have l2 := hst.b2.lt
              have hN' : Norm ((ks.zip vs).take (k + 1)) (t.take p ++ (x, v) :: t.drop p) := by rw [X.out]; exact tab_miss hN hlow hhigh
              clear hhigh hlow hN
              have hst1 : St w2 w2.heap.size w3.heap.size (w3.heap.size + 1) n (enc (ks.zip vs)) ((t.take p ++ (t.drop p ++ ((⟨#[]⟩, 0) : M) :: [])).map (·.1)) ((t.take p ++ (t.drop p ++ ((⟨#[]⟩, 0) : M) :: [])).map (·.2)) ((((wr.setCell ⟨w3.heap.size, t.length, none⟩ (.string ⟨#[]⟩)).setCell ⟨w3.heap.size + 1, t.length, none⟩ (.int .i64 0)).alloc (.cells #[.string ⟨#[]⟩] 9)).alloc (.cells #[.int .i64 0] 2)) := by
                have h1 := (((hst.pushS (by simpa using htn)).pushI (by simpa using htn)).alloc (.cells #[.string ⟨#[]⟩] 9)).alloc (.cells #[.int .i64 0] 2)
                rw [← List.append_assoc, List.take_append_drop]
                simpa using h1
              go_wp2
              clear r1 r2 f1 f2 l1 l2
              go_loopw [13] (fun q w' => ∃ (g : Nat) (D E : List M) (s : M), q = .int .i64 g ∧ g = p + D.length ∧ t.drop p = D ++ E ∧ St w2 w2.heap.size w3.heap.size (w3.heap.size + 1) n (enc (ks.zip vs)) ((t.take p ++ (D ++ s :: E)).map (·.1)) ((t.take p ++ (D ++ s :: E)).map (·.2)) w') (fun q _ => (intOf q).toNat)
              case atStart => exact ⟨t.length, t.drop p, [], (⟨#[]⟩, 0), rfl, by simp; omega, by simp, hst1⟩
              case round =>
                clear hst1
                obtain ⟨g, D, E, s, rfl, hgD, hDE, hs⟩ := hrel
                have hgt : g ≤ t.length := by have := congrArg List.length hDE; simp at this; omega
                rcases List.eq_nil_or_concat D with hD | ⟨D', d, hD⟩
                · subst hD
                  have hgp : ¬ (p : Int) < g := by simp at hgD; omega
                  have hgp' : g = p := by simpa using hgD
                  have hE : E = t.drop p := by simpa using hDE.symm
                  clear hgD hDE
                  have hl : ∀ z : M, (t.take p ++ ([] ++ z :: E))[p]? = some z := by intro z; rw [show p = (t.take p).length from by simp; omega]; simp
                  have r1 := hs.b1.cell (cS_get (n := n) (i := p) (x := s.1) (by rw [List.getElem?_map, hl]; rfl))
                  have r2 := hs.b2.cell (cI_get (n := n) (i := p) (x := s.2) (by rw [List.getElem?_map, hl]; rfl))
                  have f1 := hs.b1.thawed
                  have f2 := hs.b2.thawed
                  have l1 := hs.b1.lt
                  have l2 := hs.b2.lt
                  have hc2r : wr.cell? ⟨b2, o2 + k, none⟩ = some (.int .i64 v) := by rw [hs.bel.cell (p := ⟨b2, o2 + k, none⟩) hb2]; exact HC2.out
                  have hb2' : ¬ b2 = w3.heap.size := by have := hs.ge; have := hs.n1; omega
                  have hb2'' : ¬ b2 = w3.heap.size + 1 := by have := hs.ge; have := hs.n1; omega
                  have hp1 : (p : Int) < (t.length : Int) + 1 := by omega
                  have hfin := (hs.setS p x (by simp; omega)).setI p v (by simp; omega)
                  have hfin' : St w2 w2.heap.size w3.heap.size (w3.heap.size + 1) n (enc (ks.zip vs)) ((t.take p ++ (x, v) :: t.drop p).map (·.1)) ((t.take p ++ (x, v) :: t.drop p).map (·.2)) ((wr.setCell ⟨w3.heap.size, p, none⟩ (.string x)).setCell ⟨w3.heap.size + 1, p, none⟩ (.int .i64 v)) := by
                    have e3 : (t.take p ++ ([] ++ s :: E)).set p (x, v) = t.take p ++ (x, v) :: t.drop p := by
                      have e0 : p = (t.take p).length := by simp; omega
                      rw [hE, List.nil_append]
                      conv => lhs; arg 2; rw [e0]
                      exact set_mid _ _ _ _
                    have e1 : ((t.take p ++ ([] ++ s :: E)).map (fun m : M => m.1)).set p x = (t.take p ++ (x, v) :: t.drop p).map (fun m : M => m.1) := by rw [← e3, List.map_set]
                    have e2 : ((t.take p ++ ([] ++ s :: E)).map (fun m : M => m.2)).set p v = (t.take p ++ (x, v) :: t.drop p).map (fun m : M => m.2) := by rw [← e3, List.map_set]
                    rw [e1, e2] at hfin
                    exact hfin
                  have HG : Hid (g = p) := hgp'
                  clear hfin hl hE hgp' hs
                  go_wp2
                  go_roundw
                  case rel => exact ⟨k + 1, t.take p ++ (x, v) :: t.drop p, by go_num, by omega, by simp; omega, by simp; omega, by simp; omega, hN', hfin'⟩
                  case measure => simp [intOf]; omega
                · rw [List.concat_eq_append] at hD
                  have hgp : (p : Int) < g := by rw [hD] at hgD; simp at hgD; omega
                  have hl1 : ∀ z : M, (t.take p ++ (D ++ z :: E))[g]? = some z := by
                    intro z; rw [show g = (t.take p ++ D).length from by simp; omega, ← List.append_assoc]; exact get_mid _ _ _
                  have hl2 : (t.take p ++ (D ++ s :: E))[g - 1]? = some d := by
                    rw [show g - 1 = (t.take p ++ D').length from by rw [hD] at hgD; simp at hgD ⊢; omega, hD, show t.take p ++ ((D' ++ [d]) ++ s :: E) = (t.take p ++ D') ++ d :: (s :: E) from by simp]; exact get_mid _ _ _
                  have r1 := hs.b1.cell (cS_get (n := n) (i := g) (x := s.1) (by rw [List.getElem?_map, hl1]; rfl))
                  have r2 := hs.b2.cell (cI_get (n := n) (i := g) (x := s.2) (by rw [List.getElem?_map, hl1]; rfl))
                  have r3 := hs.b1.cell (cS_get (n := n) (i := g - 1) (x := d.1) (by rw [List.getElem?_map, hl2]; rfl))
                  have r4 := hs.b2.cell (cI_get (n := n) (i := g - 1) (x := d.2) (by rw [List.getElem?_map, hl2]; rfl))
                  have f1 := hs.b1.thawed
                  have f2 := hs.b2.thawed
                  have l1 := hs.b1.lt
                  have l2 := hs.b2.lt
                  have hfin' : St w2 w2.heap.size w3.heap.size (w3.heap.size + 1) n (enc (ks.zip vs)) ((t.take p ++ (D' ++ d :: (d :: E))).map (·.1)) ((t.take p ++ (D' ++ d :: (d :: E))).map (·.2)) ((wr.setCell ⟨w3.heap.size, g, none⟩ (.string d.1)).setCell ⟨w3.heap.size + 1, g, none⟩ (.int .i64 d.2)) := by
                    have hlen : g < (t.take p ++ (D ++ s :: E)).length := (List.getElem?_eq_some_iff.1 (hl1 s)).1
                    have hfin := (hs.setS g d.1 (by rw [List.length_map]; exact hlen)).setI g d.2 (by rw [List.length_map]; exact hlen)
                    have e3 : (t.take p ++ (D ++ s :: E)).set g d = t.take p ++ (D' ++ d :: (d :: E)) := by
                      rw [show g = (t.take p ++ D).length from by simp; omega, ← List.append_assoc, set_mid, hD]; simp
                    have e1 : ((t.take p ++ (D ++ s :: E)).map (·.1)).set g d.1 = (t.take p ++ (D' ++ d :: (d :: E))).map (·.1) := by rw [← e3, List.map_set]
                    have e2 : ((t.take p ++ (D ++ s :: E)).map (·.2)).set g d.2 = (t.take p ++ (D' ++ d :: (d :: E))).map (·.2) := by rw [← e3, List.map_set]
                    rw [e1, e2] at hfin
                    exact hfin
                  have HG : Hid (g = p + D'.length + 1 ∧ t.drop p = D' ++ (d :: E)) := ⟨by rw [hgD, hD]; simp; omega, by rw [hDE, hD]; simp⟩
                  have hg1 : (1 : Int) ≤ g := by omega
                  have hg2 : (g : Int) < (t.length : Int) + 1 := by omega
                  clear hl1 hl2 hgD hDE hD hs
                  go_wp2
                  go_roundw
                  case rel => exact ⟨g - 1, D', d :: E, d, by congr 1; omega, by have := HG.out.1; omega, HG.out.2, hfin'⟩
                  case measure => simp [intOf]; omega
        · have hp' : decide (p < t.length) = false := by simp; omega
          have hhigh : ∀ m', t[p]? = some m' → klt m'.1 (x, v).1 = false ∧ m'.1 ≠ (x, v).1 := by
            intro m' hm'
            rw [List.getElem?_eq_none (by omega)] at hm'; cases hm'
          clear hp
          have hpn : p ≤ t.length := by omega
          have htn : t.length < n := by omega
          have r1 : wr.cell? ⟨w3.heap.size, t.length, none⟩ = some (.string ⟨#[]⟩) := hst.b1.cell (by simpa using cS_room (n := n) (l := t.map (·.1)) (by simpa using htn))
          have r2 : wr.cell? ⟨w3.heap.size + 1, t.length, none⟩ = some (.int .i64 0) := hst.b2.cell (by simpa using cI_room (n := n) (l := t.map (·.2)) (by simpa using htn))
          have f1 := hst.b1.thawed
          have f2 := hst.b2.thawed
          have l1 := hst.b1.lt
          have l2 := hst.b2.lt
          have hN' : Norm ((ks.zip vs).take (k + 1)) (t.take p ++ (x, v) :: t.drop p) := by rw [X.out]; exact tab_miss hN hlow hhigh
          clear hhigh hlow hN
          have hst1 : St w2 w2.heap.size w3.heap.size (w3.heap.size + 1) n (enc (ks.zip vs)) ((t.take p ++ (t.drop p ++ ((⟨#[]⟩, 0) : M) :: [])).map (·.1)) ((t.take p ++ (t.drop p ++ ((⟨#[]⟩, 0) : M) :: [])).map (·.2)) ((((wr.setCell ⟨w3.heap.size, t.length, none⟩ (.string ⟨#[]⟩)).setCell ⟨w3.heap.size + 1, t.length, none⟩ (.int .i64 0)).alloc (.cells #[.string ⟨#[]⟩] 9)).alloc (.cells #[.int .i64 0] 2)) := by
            have h1 := (((hst.pushS (by simpa using htn)).pushI (by simpa using htn)).alloc (.cells #[.string ⟨#[]⟩] 9)).alloc (.cells #[.int .i64 0] 2)
            rw [← List.append_assoc, List.take_append_drop]
            simpa using h1
          go_wp2
          clear r1 r2 f1 f2 l1 l2
          go_loopw [13] (fun q w' => ∃ (g : Nat) (D E : List M) (s : M), q = .int .i64 g ∧ g = p + D.length ∧ t.drop p = D ++ E ∧ St w2 w2.heap.size w3.heap.size (w3.heap.size + 1) n (enc (ks.zip vs)) ((t.take p ++ (D ++ s :: E)).map (·.1)) ((t.take p ++ (D ++ s :: E)).map (·.2)) w') (fun q _ => (intOf q).toNat)
          case atStart => exact ⟨t.length, t.drop p, [], (⟨#[]⟩, 0), rfl, by simp; omega, by simp, hst1⟩
          case round =>
            clear hst1
            obtain ⟨g, D, E, s, rfl, hgD, hDE, hs⟩ := hrel
            have hgt : g ≤ t.length := by have := congrArg List.length hDE; simp at this; omega
            rcases List.eq_nil_or_concat D with hD | ⟨D', d, hD⟩
            · subst hD
              have hgp : ¬ (p : Int) < g := by simp at hgD; omega
              have hgp' : g = p := by simpa using hgD
              have hE : E = t.drop p := by simpa using hDE.symm
              clear hgD hDE
              have hl : ∀ z : M, (t.take p ++ ([] ++ z :: E))[p]? = some z := by intro z; rw [show p = (t.take p).length from by simp; omega]; simp
              have r1 := hs.b1.cell (cS_get (n := n) (i := p) (x := s.1) (by rw [List.getElem?_map, hl]; rfl))
              have r2 := hs.b2.cell (cI_get (n := n) (i := p) (x := s.2) (by rw [List.getElem?_map, hl]; rfl))
              have f1 := hs.b1.thawed
              have f2 := hs.b2.thawed
              have l1 := hs.b1.lt
              have l2 := hs.b2.lt
              have hc2r : wr.cell? ⟨b2, o2 + k, none⟩ = some (.int .i64 v) := by rw [hs.bel.cell (p := ⟨b2, o2 + k, none⟩) hb2]; exact HC2.out
              have hb2' : ¬ b2 = w3.heap.size := by have := hs.ge; have := hs.n1; omega
              have hb2'' : ¬ b2 = w3.heap.size + 1 := by have := hs.ge; have := hs.n1; omega
              have hp1 : (p : Int) < (t.length : Int) + 1 := by omega
              have hfin := (hs.setS p x (by simp; omega)).setI p v (by simp; omega)
              have hfin' : St w2 w2.heap.size w3.heap.size (w3.heap.size + 1) n (enc (ks.zip vs)) ((t.take p ++ (x, v) :: t.drop p).map (·.1)) ((t.take p ++ (x, v) :: t.drop p).map (·.2)) ((wr.setCell ⟨w3.heap.size, p, none⟩ (.string x)).setCell ⟨w3.heap.size + 1, p, none⟩ (.int .i64 v)) := by
                have e3 : (t.take p ++ ([] ++ s :: E)).set p (x, v) = t.take p ++ (x, v) :: t.drop p := by
                  have e0 : p = (t.take p).length := by simp; omega
                  rw [hE, List.nil_append]
                  conv => lhs; arg 2; rw [e0]
                  exact set_mid _ _ _ _
                have e1 : ((t.take p ++ ([] ++ s :: E)).map (fun m : M => m.1)).set p x = (t.take p ++ (x, v) :: t.drop p).map (fun m : M => m.1) := by rw [← e3, List.map_set]
                have e2 : ((t.take p ++ ([] ++ s :: E)).map (fun m : M => m.2)).set p v = (t.take p ++ (x, v) :: t.drop p).map (fun m : M => m.2) := by rw [← e3, List.map_set]
                rw [e1, e2] at hfin
                exact hfin
              have HG : Hid (g = p) := hgp'
              clear hfin hl hE hgp' hs
              go_wp2
              go_roundw
              case rel => exact ⟨k + 1, t.take p ++ (x, v) :: t.drop p, by go_num, by omega, by simp; omega, by simp; omega, by simp; omega, hN', hfin'⟩
              case measure => simp [intOf]; omega
            · rw [List.concat_eq_append] at hD
              have hgp : (p : Int) < g := by rw [hD] at hgD; simp at hgD; omega
              have hl1 : ∀ z : M, (t.take p ++ (D ++ z :: E))[g]? = some z := by
                intro z; rw [show g = (t.take p ++ D).length from by simp; omega, ← List.append_assoc]; exact get_mid _ _ _
              have hl2 : (t.take p ++ (D ++ s :: E))[g - 1]? = some d := by
                rw [show g - 1 = (t.take p ++ D').length from by rw [hD] at hgD; simp at hgD ⊢; omega, hD, show t.take p ++ ((D' ++ [d]) ++ s :: E) = (t.take p ++ D') ++ d :: (s :: E) from by simp]; exact get_mid _ _ _
              have r1 := hs.b1.cell (cS_get (n := n) (i := g) (x := s.1) (by rw [List.getElem?_map, hl1]; rfl))
              have r2 := hs.b2.cell (cI_get (n := n) (i := g) (x := s.2) (by rw [List.getElem?_map, hl1]; rfl))
              have r3 := hs.b1.cell (cS_get (n := n) (i := g - 1) (x := d.1) (by rw [List.getElem?_map, hl2]; rfl))
              have r4 := hs.b2.cell (cI_get (n := n) (i := g - 1) (x := d.2) (by rw [List.getElem?_map, hl2]; rfl))
              have f1 := hs.b1.thawed
              have f2 := hs.b2.thawed
              have l1 := hs.b1.lt
              have l2 := hs.b2.lt
              have hfin' : St w2 w2.heap.size w3.heap.size (w3.heap.size + 1) n (enc (ks.zip vs)) ((t.take p ++ (D' ++ d :: (d :: E))).map (·.1)) ((t.take p ++ (D' ++ d :: (d :: E))).map (·.2)) ((wr.setCell ⟨w3.heap.size, g, none⟩ (.string d.1)).setCell ⟨w3.heap.size + 1, g, none⟩ (.int .i64 d.2)) := by
                have hlen : g < (t.take p ++ (D ++ s :: E)).length := (List.getElem?_eq_some_iff.1 (hl1 s)).1
                have hfin := (hs.setS g d.1 (by rw [List.length_map]; exact hlen)).setI g d.2 (by rw [List.length_map]; exact hlen)
                have e3 : (t.take p ++ (D ++ s :: E)).set g d = t.take p ++ (D' ++ d :: (d :: E)) := by
                  rw [show g = (t.take p ++ D).length from by simp; omega, ← List.append_assoc, set_mid, hD]; simp
                have e1 : ((t.take p ++ (D ++ s :: E)).map (·.1)).set g d.1 = (t.take p ++ (D' ++ d :: (d :: E))).map (·.1) := by rw [← e3, List.map_set]
                have e2 : ((t.take p ++ (D ++ s :: E)).map (·.2)).set g d.2 = (t.take p ++ (D' ++ d :: (d :: E))).map (·.2) := by rw [← e3, List.map_set]
                rw [e1, e2] at hfin
                exact hfin
              have HG : Hid (g = p + D'.length + 1 ∧ t.drop p = D' ++ (d :: E)) := ⟨by rw [hgD, hD]; simp; omega, by rw [hDE, hD]; simp⟩
              have hg1 : (1 : Int) ≤ g := by omega
              have hg2 : (g : Int) < (t.length : Int) + 1 := by omega
              clear hl1 hl2 hgD hDE hD hs
              go_wp2
              go_roundw
              case rel => exact ⟨g - 1, D', d :: E, d, by congr 1; omega, by have := HG.out.1; omega, HG.out.2, hfin'⟩
              case measure => simp [intOf]; omega
    · have htab : Norm (ks.zip vs) t := by
        rwa [List.take_of_length_le (by have := hk.len; simp; omega)] at hN
      clear hN
      go_wp2_with fail
      refine (newObject_calls wr w2.heap.size n (ks.zip vs) hst.b0 (by have := hk.len; have := hv.len; simp; omega) (by omega)).mono ?_
      rintro e w4 ⟨r, hr, hrn, rfl, hg4⟩
      have hrt : r = t := norm_unique hr htab fun _ => rfl
      subst hrt
      have hbel4 : Below w2.heap.size w2 w4 := hst.bel.trans (hg4.below hst.b0.lt)
      have h1 : Has w4 w3.heap.size 9 (cS n (r.map (·.1))) := (hg4.block _ hst.b1.lt (Nat.ne_of_gt hst.n1)).trans hst.b1
      have h2 : Has w4 (w3.heap.size + 1) 2 (cI n (r.map (·.2))) := (hg4.block _ hst.b2.lt (Nat.ne_of_gt (Nat.lt_trans hst.n1 hst.n2))).trans hst.b2
      have hst4 : St w2 w2.heap.size w3.heap.size (w3.heap.size + 1) n (enc r ++ zers (n - r.length)) (r.map (·.1)) (r.map (·.2)) w4 := ⟨hbel4, hst.ge, hst.n1, hst.n2, hg4.here, h1, h2⟩
      clear hg4 h1 h2 hbel4 hst hr htab hg hbel3 hk hv
      have hlen : (((r.length : Nat) : Int) != (r.length : Int)) = false := by simp
      go_wp2
      go_loopw [15] (fun j w' => ∃ i : Nat, j = .int .i64 i ∧ i ≤ r.length ∧ St w2 w2.heap.size w3.heap.size (w3.heap.size + 1) n (enc r ++ zers (n - r.length)) (r.map (·.1)) (r.map (·.2)) w') (fun j _ => r.length - (intOf j).toNat)
      case atStart => exact ⟨0, rfl, by omega, hst4⟩
      case round =>
        clear hst4
        obtain ⟨i, rfl, hir, hst⟩ := hrel
        by_cases hi : i < r.length
        · obtain ⟨m, hm⟩ : ∃ m, r[i]? = some m := ⟨_, List.getElem?_eq_getElem hi⟩
          have q1 : wr.cell? ⟨w2.heap.size, i * 2, none⟩ = some (.string m.1) := hst.b0.cell (by rw [List.getElem?_append_left (by rw [enc_length]; omega)]; exact enc_key r i m hm)
          have q2 : wr.cell? ⟨w2.heap.size, i * 2 + 1, none⟩ = some (.iface 2 (.int .i64 m.2)) := hst.b0.cell (by rw [List.getElem?_append_left (by rw [enc_length]; omega)]; exact enc_val r i m hm)
          have q3 : wr.cell? ⟨w3.heap.size, i, none⟩ = some (.string m.1) := hst.b1.cell (cS_get (by simp [hm]))
          have q4 : wr.cell? ⟨w3.heap.size + 1, i, none⟩ = some (.int .i64 m.2) := hst.b2.cell (cI_get (by simp [hm]))
          have hi1 : (i : Int) < r.length := by omega
          have hi2 : (i : Int) < n := by omega
          have l0 := hst.b0.lt
          have l1 := hst.b1.lt
          have l2 := hst.b2.lt
          have hmm : (m.2 != m.2) = false := by simp
          have HM : Hid (r[i]? = some m) := hm
          clear hm
          go_wp2
          go_quiet (fail)
          clear q1 q2 q3 q4 l0 l1 l2
          have hst' := hst.drewN nq
          clear hst
          generalize wr.drewN nq = wq at hst' ⊢
          have q1 : wq.cell? ⟨w2.heap.size, i * 2, none⟩ = some (.string m.1) := hst'.b0.cell (by rw [List.getElem?_append_left (by rw [enc_length]; omega)]; exact enc_key r i m HM.out)
          have q2 : wq.cell? ⟨w2.heap.size, i * 2 + 1, none⟩ = some (.iface 2 (.int .i64 m.2)) := hst'.b0.cell (by rw [List.getElem?_append_left (by rw [enc_length]; omega)]; exact enc_val r i m HM.out)
          have q4 : wq.cell? ⟨w3.heap.size + 1, i, none⟩ = some (.int .i64 m.2) := hst'.b2.cell (cI_get (by simp [HM.out]))
          have l0 := hst'.b0.lt
          have l1 := hst'.b1.lt
          have l2 := hst'.b2.lt
          go_wp2_with fail
          refine (intOf_calls _ _ _).mono ?_
          rintro e w5 ⟨rfl, rfl⟩
          go_wp2_with fail
          refine (intOf_calls _ _ _).mono ?_
          rintro e w6 ⟨rfl, rfl⟩
          go_wp2
          go_roundw
          case rel => exact ⟨i + 1, by go_num, by omega, (hst'.alloc _).alloc _⟩
          case measure => simp [intOf]; omega
        · go_wp2
          go_loopw [20] (fun j w' => ∃ i : Nat, j = .int .i64 i ∧ r.length ≤ i ∧ i ≤ n ∧ St w2 w2.heap.size w3.heap.size (w3.heap.size + 1) n (enc r ++ zers (n - r.length)) (r.map (·.1)) (r.map (·.2)) w') (fun j _ => n - (intOf j).toNat)
          case atStart => exact ⟨r.length, rfl, Nat.le_refl _, hrn, hst⟩
          case round =>
            clear hst
            obtain ⟨i, rfl, hri, hin, hst⟩ := hrel
            by_cases hi : i < n
            · have q1 : wr.cell? ⟨w2.heap.size, i * 2, none⟩ = some (.string ⟨#[]⟩) := hst.b0.cell (by rw [List.getElem?_append_right (by rw [enc_length]; omega), zers_get, enc_length, if_pos (by omega), if_pos (by omega)])
              have q2 : wr.cell? ⟨w2.heap.size, i * 2 + 1, none⟩ = some .nilIface := hst.b0.cell (by rw [List.getElem?_append_right (by rw [enc_length]; omega), zers_get, enc_length, if_pos (by omega), if_neg (by omega)])
              have hi1 : (i : Int) < n := by omega
              have l0 := hst.b0.lt
              go_wp2_with fail
              refine (isNil_calls _ _).mono ?_
              rintro e w5 ⟨rfl, rfl⟩
              go_wp2
              go_roundw
              case rel => exact ⟨i + 1, by go_num, by omega, by omega, hst.alloc _⟩
              case measure => simp [intOf]; omega
            · go_wp2
              go_ret
              exact ⟨rfl, hst.bel⟩
end Go.Proofs.Qxb6614095a
