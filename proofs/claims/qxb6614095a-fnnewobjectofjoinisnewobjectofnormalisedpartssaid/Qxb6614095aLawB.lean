/-
  WALKS of seat b6614095a: the second law, at equal lengths of at most 4096.
-/
import Derived.Test.Qxb6614095aObjF
import Derived.Test.Qxb6614095aPlainG
import Derived.Deep.RegionWith
namespace Go.Proofs.Qxb6614095a
open Go.RowKit

theorem Grew.fill {B : Nat} {l : List M} {z i : Nat} {m : M} {x y : World} (h : Grew B (enc l ++ zers (z + 1)) x y) (hl : l.length = i) :
    Grew B (enc (l ++ [m]) ++ zers z) x ((y.setCell ⟨B, i * 2, none⟩ (.string m.1)).setCell ⟨B, i * 2 + 1, none⟩ (.iface 2 (.int .i64 m.2))) := by
  subst hl
  rw [← enc_zers_set]
  exact h.put _ _ _
theorem fill_key {l : List M} {z i : Nat} (hl : l.length = i) (hz : 0 < z) : (enc l ++ zers z)[i * 2]? = some (.string ⟨#[]⟩) := by
  subst hl
  rw [List.getElem?_append_right (by rw [enc_length]; omega), zers_get, enc_length, if_pos (by omega), if_pos (by omega)]
theorem fill_val {l : List M} {z i : Nat} (hl : l.length = i) (hz : 0 < z) : (enc l ++ zers z)[i * 2 + 1]? = some .nilIface := by
  subst hl
  rw [List.getElem?_append_right (by rw [enc_length]; omega), zers_get, enc_length, if_pos (by omega), if_neg (by omega)]
theorem row_key {l : List M} {rest : List Value} {i : Nat} {m : M} (h : l[i]? = some m) : (enc l ++ rest)[i * 2]? = some (.string m.1) := by
  have := (List.getElem?_eq_some_iff.1 h).1
  rw [List.getElem?_append_left (by rw [enc_length]; omega)]; exact enc_key l i m h
theorem row_val {l : List M} {rest : List Value} {i : Nat} {m : M} (h : l[i]? = some m) : (enc l ++ rest)[i * 2 + 1]? = some (.iface 2 (.int .i64 m.2)) := by
  have := (List.getElem?_eq_some_iff.1 h).1
  rw [List.getElem?_append_left (by rw [enc_length]; omega)]; exact enc_val l i m h
theorem Grew.start (w : World) (z : Nat) : Grew w.heap.size (enc [] ++ zers z) (w.alloc (.cells (zers z).toArray 31)) (w.alloc (.cells (zers z).toArray 31)) :=
  ⟨rfl, rfl, rfl, Nat.le_refl _, fun _ _ _ => rfl, by show (w.heap.push _)[w.heap.size]? = _; simp [enc]⟩
theorem run_make_members' (w : World) (n m : Nat) (hn : n + m ≤ 1099511627776) :
    (Instr.makeSlice 26 (.int .i64 ((n : Int) + m)) (.int .i64 ((n : Int) + m))).run Try.prog w = .ok (.slice (some ⟨w.heap.size, 0, none⟩) (n + m) (n + m)) (w.alloc (.cells (zers (n + m)).toArray 31)) := by
  have := run_make_members w (n + m) hn
  rwa [Int.natCast_add] at this
theorem zip_get {ks : List ByteArray} {vs : List Int} {i : Nat} {x : ByteArray} {v : Int} (hx : ks[i]? = some x) (hv : vs[i]? = some v) : (ks.zip vs)[i]? = some (x, v) := by
  rw [List.getElem?_zip_eq_some]; exact ⟨hx, hv⟩
theorem take_snoc {l : List M} {i : Nat} {m : M} (h : l[i]? = some m) : l.take (i + 1) = l.take i ++ [m] := by
  obtain ⟨hi, rfl⟩ := List.getElem?_eq_some_iff.1 h
  exact List.take_succ_eq_append_getElem hi

theorem hidden {p : Prop} (h : p) : Hid p := h
theorem info4 : (Try.prog.info? 4).map (fun i => (i.zero, i.size, i.bytes)) = some (some (.bool false), 1, 1) := by kernel_rfl
theorem run_make_bools (w : World) (n : Nat) (hn : n ≤ 1099511627776) :
    (Instr.makeSlice 38 (.int .i64 n) (.int .i64 n)).run Try.prog w = .ok (.slice (some ⟨w.heap.size, 0, none⟩) n n) (w.alloc (.cells ((List.replicate n false).map Value.bool).toArray 4)) := by
  obtain ⟨i, hi, hz, hs, hb⟩ := info_parts info4
  have h := run_make (P := Try.prog) w 38 4 i _ Try.underlying38 hi hz .i64 .i64 n n (by omega) (by omega) (by rw [hb]; omega) (by omega)
  rw [hs] at h
  simp only [Int.toNat_natCast, Nat.mul_one] at h
  rw [h, show (Value.bool false).cells = #[.bool false] from rfl, made_one, List.map_replicate]
theorem Has.fresh (w : World) (e : TypeId) (cs : List Value) : Has (w.alloc (.cells cs.toArray e)) w.heap.size e cs := by
  show (w.heap.push _)[w.heap.size]? = _
  exact Array.getElem?_push_size

set_option maxRecDepth 100000 in
set_option maxHeartbeats 4000000 in
theorem law2_main (w : World) (a c a' c' : Option Addr) (n ca cc n' ca' cc' : Nat) (ks ks' : List ByteArray) (vs vs' : List Int) (hk : IsStrs w a n ks) (hv : IsInts w c n vs) (hk' : IsStrs w a' n' ks') (hv' : IsInts w c' n' vs') (hn : n ≤ 4096) (hn' : n' ≤ 4096) :
    Calls Try.prog 4 #[.slice a n ca, .slice c n cc, .slice a' n' ca', .slice c' n' cc'] w fun e w' => e = .returned (.bool true) ∧ Below w.heap.size w w' := by
  have g1 : decide ((4096 : Int) < n) = false := by simp; omega
  have g2 : decide ((4096 : Int) < n') = false := by simp; omega
  have g3 : decide ((1048576 : Int) < 8 * ((n : Int) + n') + 16 * ((n : Int) + n')) = false := by simp; omega
  have hA : (ks.zip vs).length = n := by have := hk.len; have := hv.len; simp; omega
  have hB : (ks'.zip vs').length = n' := by have := hk'.len; have := hv'.len; simp; omega
  have LA : Hid ((ks.zip vs).length = n ∧ (ks'.zip vs').length = n') := ⟨hA, hB⟩
  clear hA hB
  go_enter Try.func4, Try.ntmps4
  go_wp2_with fail
  refine (zzBytes2_calls w a c a' c' n n ca cc n' n' ca' cc' ks ks' vs vs' hk hv hk' hv').mono ?_
  rintro e w1 ⟨⟨b, rfl⟩, rfl⟩
  cases b with
  | false =>
    go_wp2
    go_ret
    exact ⟨rfl, Below.refl _ _⟩
  | true =>
  go_wp2_with fail
  refine (add_calls w1 n a ca _ ks hk).mono ?_
  rintro e w2 ⟨⟨t, rfl⟩, rfl⟩
  by_cases ht : 1048576 < t
  · go_wp2
    go_ret
    exact ⟨rfl, Below.refl _ _⟩
  have ht' : decide (1048576 < t) = false := by simpa using ht
  clear ht
  go_wp2_with fail
  refine (add_calls w2 n' a' ca' _ ks' hk').mono ?_
  rintro e w3 ⟨⟨t2, rfl⟩, rfl⟩
  by_cases ht2 : 1048576 < t2
  · go_wp2
    go_ret
    exact ⟨rfl, Below.refl _ _⟩
  have ht2' : decide (1048576 < t2) = false := by simpa using ht2
  clear ht2
  have hne : (((n : Nat) : Int) != (n : Int)) = false := by simp
  have hne' : (((n' : Nat) : Int) != (n' : Int)) = false := by simp
  have hmk := run_make_members' w3 n n' (by omega)
  go_wp2
  clear hmk
  have hst := Grew.start w3 (n + n')
  go_loopw [13] (fun i w' => ∃ k : Nat, i = .int .i64 k ∧ k ≤ n ∧ Grew w3.heap.size (enc ((ks.zip vs).take k) ++ zers (n + n' - k)) (w3.alloc (.cells (zers (n + n')).toArray 31)) w') (fun i _ => n - (intOf i).toNat)
  case atStart => exact ⟨0, rfl, by omega, by simpa using hst⟩
  case round =>
    clear hst
    obtain ⟨k, rfl, hkn, hg⟩ := hrel
    have hbel : Below w3.heap.size w3 wr := ((Below.refl _ _).alloc (Nat.le_refl _) _).trans (hg.below (by simp))
    by_cases hlt : (k : Int) < n
    · obtain ⟨x, hx⟩ : ∃ x, ks[k]? = some x := ⟨_, List.getElem?_eq_getElem (by have := hk.len; omega)⟩
      obtain ⟨v, hvx⟩ : ∃ v, vs[k]? = some v := ⟨_, List.getElem?_eq_getElem (by have := hv.len; omega)⟩
      obtain ⟨b1, o1, rfl, hb1, hc1⟩ := (hk.below hbel).cell k x hx
      obtain ⟨b2, o2, rfl, hb2, hc2⟩ := (hv.below hbel).cell k v hvx
      have hBl := hg.lt
      have hfr := hg.thawed
      have hl : ((ks.zip vs).take k).length = k := by have := LA.out.1; rw [List.length_take]; omega
      have hd1 := hg.cell (fill_key hl (by omega))
      have hd2 := hg.cell (fill_val hl (by omega))
      have hfin : Hid (Grew w3.heap.size (enc ((ks.zip vs).take (k + 1)) ++ zers (n + n' - (k + 1))) (w3.alloc (.cells (zers (n + n')).toArray 31)) ((((wr.setCell ⟨w3.heap.size, k * 2, none⟩ (.string x)).setCell ⟨w3.heap.size, k * 2 + 1, none⟩ (.iface 2 (.int .i64 v))).alloc (.cells #[.string x, .iface 2 (.int .i64 v)] 31)).drew)) := by
        rw [show n + n' - k = (n + n' - (k + 1)) + 1 from by omega] at hg
        have h1 := (((hg.fill (m := (x, v)) hl).alloc (.cells #[.string x, .iface 2 (.int .i64 v)] 31)).drew)
        rw [← take_snoc (zip_get hx hvx)] at h1
        exact h1
      clear hx hvx hl hbel
      go_wp2
      go_region_with (go_at_call 12; refine (member_calls _ _ _).mono ?_; rintro e w' ⟨rfl, rfl⟩)
      all_goals
        go_wp2
        go_roundw
        case rel => exact ⟨k + 1, by go_num, by omega, hfin.out⟩
        case measure => simp [intOf]; omega
    · have hkn' : k = n := by omega
      have hg2 : Grew w3.heap.size (enc (ks.zip vs ++ (ks'.zip vs').take 0) ++ zers (n' - 0)) (w3.alloc (.cells (zers (n + n')).toArray 31)) wr := by
        rw [hkn', List.take_of_length_le (by have := LA.out.1; omega), show n + n' - n = n' from by omega] at hg
        simpa using hg
      clear hg hkn' hbel
      go_wp2
      go_loopw [14] (fun i w' => ∃ k : Nat, i = .int .i64 k ∧ k ≤ n' ∧ Grew w3.heap.size (enc (ks.zip vs ++ (ks'.zip vs').take k) ++ zers (n' - k)) (w3.alloc (.cells (zers (n + n')).toArray 31)) w') (fun i _ => n' - (intOf i).toNat)
      case atStart => exact ⟨0, rfl, by omega, hg2⟩
      case round =>
        clear hg2
        obtain ⟨j, rfl, hjn, hg⟩ := hrel
        have hbel : Below w3.heap.size w3 wr := ((Below.refl _ _).alloc (Nat.le_refl _) _).trans (hg.below (by simp))
        by_cases hlt2 : (j : Int) < n'
        · obtain ⟨x, hx⟩ : ∃ x, ks'[j]? = some x := ⟨_, List.getElem?_eq_getElem (by have := hk'.len; omega)⟩
          obtain ⟨v, hvx⟩ : ∃ v, vs'[j]? = some v := ⟨_, List.getElem?_eq_getElem (by have := hv'.len; omega)⟩
          obtain ⟨b1, o1, rfl, hb1, hc1⟩ := (hk'.below hbel).cell j x hx
          obtain ⟨b2, o2, rfl, hb2, hc2⟩ := (hv'.below hbel).cell j v hvx
          have hBl := hg.lt
          have hfr := hg.thawed
          have hl : (ks.zip vs ++ (ks'.zip vs').take j).length = n + j := by have := LA.out; rw [List.length_append, List.length_take]; omega
          have hd1 := hg.cell (fill_key hl (by omega))
          have hd2 := hg.cell (fill_val hl (by omega))
          have hfin : Hid (Grew w3.heap.size (enc (ks.zip vs ++ (ks'.zip vs').take (j + 1)) ++ zers (n' - (j + 1))) (w3.alloc (.cells (zers (n + n')).toArray 31)) ((((wr.setCell ⟨w3.heap.size, (n + j) * 2, none⟩ (.string x)).setCell ⟨w3.heap.size, (n + j) * 2 + 1, none⟩ (.iface 2 (.int .i64 v))).alloc (.cells #[.string x, .iface 2 (.int .i64 v)] 31)).drew)) := by
            rw [show n' - j = (n' - (j + 1)) + 1 from by omega] at hg
            have h1 := (((hg.fill (m := (x, v)) hl).alloc (.cells #[.string x, .iface 2 (.int .i64 v)] 31)).drew)
            rw [List.append_assoc, ← take_snoc (zip_get hx hvx)] at h1
            exact h1
          have hidx : (n : Int) + j < (n : Int) + n' := by omega
          have hidx2 : ((n + j : Nat) : Int) < ((n + n' : Nat) : Int) := by omega
          have hwr : IntKind.i64.wrap ((n : Int) + j) = ((n + j : Nat) : Int) := by rw [IntKind.wrap_i64]; omega
          clear hx hvx hl hbel
          go_wp2
          go_region_with (go_at_call 12; refine (member_calls _ _ _).mono ?_; rintro e w' ⟨rfl, rfl⟩)
          all_goals
            go_wp2
            go_roundw
            case rel => exact ⟨j + 1, by go_num, by omega, hfin.out⟩
            case measure => simp [intOf]; omega
        · have hj' : j = n' := by omega
          have hg2 : Grew w3.heap.size (enc (ks.zip vs ++ ks'.zip vs')) (w3.alloc (.cells (zers (n + n')).toArray 31)) wr := by
            rw [hj', List.take_of_length_le (by have := LA.out.2; omega), Nat.sub_self] at hg
            simpa [zers] using hg
          clear hg hj'
          go_wp2_with fail
          refine (newObject_calls wr w3.heap.size (n + n') (ks.zip vs ++ ks'.zip vs') hg2.here (by have := LA.out; rw [List.length_append]; omega) (by omega)).mono ?_
          rintro e w4 ⟨rw', hNw, hlw, rfl, hg4⟩
          have hbel4 : Below w3.heap.size w3 w4 := hbel.trans (hg4.below hg2.lt)
          have hW4 : Has w4 w3.heap.size 31 (enc rw' ++ zers (n + n' - rw'.length)) := hg4.here
          clear hg2 hg4 hbel
          go_wp2_with fail
          refine (members_calls w4 a c n ca cc ks vs (hk.below hbel4) (hv.below hbel4) (by omega)).mono ?_
          rintro e w5 ⟨rfl, hg5⟩
          have hbel5 : Below w4.heap.size w4 w5 := ((Below.refl _ _).alloc (Nat.le_refl _) _).trans (hg5.below (by simp))
          have hW5 : Has w5 w3.heap.size 31 (enc rw' ++ zers (n + n' - rw'.length)) := Below.has hbel5 hW4 hW4.lt
          go_wp2_with fail
          refine (newObject_calls w5 w4.heap.size n (ks.zip vs) hg5.here LA.out.1 (by omega)).mono ?_
          rintro e w6 ⟨ra, hNa, hla, rfl, hg6⟩
          have hW6 : Has w6 w3.heap.size 31 (enc rw' ++ zers (n + n' - rw'.length)) := hg6.has hW5 (Nat.ne_of_lt hW4.lt)
          have hA6 : Has w6 w4.heap.size 31 (enc ra ++ zers (n - ra.length)) := hg6.here
          have hlt34 : w3.heap.size < w4.heap.size := hW4.lt
          have hbel6 : Below w3.heap.size w3 w6 := (hbel4.trans (hbel5.mono (Nat.le_of_lt hlt34))).trans ((hg6.below hg5.lt).mono (Nat.le_of_lt hlt34))
          clear hbel4 hbel5 hW4 hW5 hg5 hg6
          go_wp2_with fail
          refine (members_calls w6 a' c' n' ca' cc' ks' vs' (hk'.below hbel6) (hv'.below hbel6) (by omega)).mono ?_
          rintro e w7 ⟨rfl, hg7⟩
          have hbel7 : Below w6.heap.size w6 w7 := ((Below.refl _ _).alloc (Nat.le_refl _) _).trans (hg7.below (by simp))
          have hW7 : Has w7 w3.heap.size 31 (enc rw' ++ zers (n + n' - rw'.length)) := Below.has hbel7 hW6 hW6.lt
          have hA7 : Has w7 w4.heap.size 31 (enc ra ++ zers (n - ra.length)) := Below.has hbel7 hA6 hA6.lt
          go_wp2_with fail
          refine (newObject_calls w7 w6.heap.size n' (ks'.zip vs') hg7.here LA.out.2 (by omega)).mono ?_
          rintro e w8 ⟨rb, hNb, hlb, rfl, hg8⟩
          have hlt46 : w4.heap.size < w6.heap.size := hA6.lt
          have hW8 : Has w8 w3.heap.size 31 (enc rw' ++ zers (n + n' - rw'.length)) := hg8.has hW7 (by omega)
          have hA8 : Has w8 w4.heap.size 31 (enc ra ++ zers (n - ra.length)) := hg8.has hA7 (by omega)
          have hB8 : Has w8 w6.heap.size 31 (enc rb ++ zers (n' - rb.length)) := hg8.here
          have hbel8 : Below w3.heap.size w3 w8 := (hbel6.trans (hbel7.mono (by omega))).trans ((hg8.below hg7.lt).mono (by omega))
          have hlt68 : w6.heap.size < w8.heap.size := hB8.lt
          clear hbel6 hbel7 hW6 hW7 hA6 hA7 hg7 hg8
          have hmk := run_make_members' w8 ra.length rb.length (by omega)
          go_wp2
          clear hmk
          have hst := Grew.start w8 (ra.length + rb.length)
          have hbel9 : Below w3.heap.size w3 (w8.alloc (.cells (zers (ra.length + rb.length)).toArray 31)) := hbel8.alloc hbel8.size _
          have hW9 : Has (w8.alloc (.cells (zers (ra.length + rb.length)).toArray 31)) w3.heap.size 31 (enc rw' ++ zers (n + n' - rw'.length)) := hW8.alloc _
          have hA9 : Has (w8.alloc (.cells (zers (ra.length + rb.length)).toArray 31)) w4.heap.size 31 (enc ra ++ zers (n - ra.length)) := hA8.alloc _
          have hB9 : Has (w8.alloc (.cells (zers (ra.length + rb.length)).toArray 31)) w6.heap.size 31 (enc rb ++ zers (n' - rb.length)) := hB8.alloc _
          clear hbel8 hW8 hA8 hB8
          go_loopw [19] (fun i w' => ∃ g : Nat, i = .int .i64 g ∧ g ≤ ra.length ∧ Grew w8.heap.size (enc (ra.take g) ++ zers (ra.length + rb.length - g)) (w8.alloc (.cells (zers (ra.length + rb.length)).toArray 31)) w') (fun i _ => ra.length - (intOf i).toNat)
          case atStart => exact ⟨0, rfl, by omega, by simpa using hst⟩
          case round =>
            clear hst
            obtain ⟨g, rfl, hgn, hg⟩ := hrel
            by_cases hlt3 : (g : Int) < ra.length
            · obtain ⟨x, hx⟩ : ∃ x, ra[g]? = some x := ⟨_, List.getElem?_eq_getElem (by omega)⟩
              have hAr : Has wr w4.heap.size 31 (enc ra ++ zers (n - ra.length)) := hg.has hA9 (by omega)
              have q1 := hAr.cell (row_key (i := g) hx)
              have q2 := hAr.cell (row_val (i := g) hx)
              have hl : (ra.take g).length = g := by rw [List.length_take]; omega
              have hfr := hg.thawed
              have hd1 := hg.cell (fill_key hl (by omega))
              have hd2 := hg.cell (fill_val hl (by omega))
              have hidx : (g : Int) < (ra.length : Int) + rb.length := by omega
              have hfin : Hid (Grew w8.heap.size (enc (ra.take (g + 1)) ++ zers (ra.length + rb.length - (g + 1))) (w8.alloc (.cells (zers (ra.length + rb.length)).toArray 31)) ((wr.setCell ⟨w8.heap.size, g * 2, none⟩ (.string x.1)).setCell ⟨w8.heap.size, g * 2 + 1, none⟩ (.iface 2 (.int .i64 x.2)))) := by
                rw [show ra.length + rb.length - g = (ra.length + rb.length - (g + 1)) + 1 from by omega] at hg
                have h1 := hg.fill (m := x) hl
                rw [← take_snoc hx] at h1
                exact h1
              clear hx hl hAr
              go_wp2
              go_roundw
              case rel => exact ⟨g + 1, by go_num, by omega, hfin.out⟩
              case measure => simp [intOf]; omega
            · have hg' : g = ra.length := by omega
              have hg2 : Grew w8.heap.size (enc (ra ++ rb.take 0) ++ zers (rb.length - 0)) (w8.alloc (.cells (zers (ra.length + rb.length)).toArray 31)) wr := by
                rw [hg', List.take_of_length_le (Nat.le_refl _), show ra.length + rb.length - ra.length = rb.length from by omega] at hg
                simpa using hg
              clear hg hg'
              go_wp2
              go_loopw [20] (fun i w' => ∃ h : Nat, i = .int .i64 h ∧ h ≤ rb.length ∧ Grew w8.heap.size (enc (ra ++ rb.take h) ++ zers (rb.length - h)) (w8.alloc (.cells (zers (ra.length + rb.length)).toArray 31)) w') (fun i _ => rb.length - (intOf i).toNat)
              case atStart => exact ⟨0, rfl, by omega, hg2⟩
              case round =>
                clear hg2
                obtain ⟨h, rfl, hhn, hg⟩ := hrel
                by_cases hlt4 : (h : Int) < rb.length
                · obtain ⟨x, hx⟩ : ∃ x, rb[h]? = some x := ⟨_, List.getElem?_eq_getElem (by omega)⟩
                  have hBr : Has wr w6.heap.size 31 (enc rb ++ zers (n' - rb.length)) := hg.has hB9 (by omega)
                  have q1 := hBr.cell (row_key (i := h) hx)
                  have q2 := hBr.cell (row_val (i := h) hx)
                  have hl : (ra ++ rb.take h).length = ra.length + h := by rw [List.length_append, List.length_take]; omega
                  have hfr := hg.thawed
                  have hd1 := hg.cell (fill_key hl (by omega))
                  have hd2 := hg.cell (fill_val hl (by omega))
                  have hidx : (ra.length : Int) + h < (ra.length : Int) + rb.length := by omega
                  have hfin : Hid (Grew w8.heap.size (enc (ra ++ rb.take (h + 1)) ++ zers (rb.length - (h + 1))) (w8.alloc (.cells (zers (ra.length + rb.length)).toArray 31)) ((wr.setCell ⟨w8.heap.size, (ra.length + h) * 2, none⟩ (.string x.1)).setCell ⟨w8.heap.size, (ra.length + h) * 2 + 1, none⟩ (.iface 2 (.int .i64 x.2)))) := by
                    rw [show rb.length - h = (rb.length - (h + 1)) + 1 from by omega] at hg
                    have h1 := hg.fill (m := x) hl
                    rw [List.append_assoc, ← take_snoc hx] at h1
                    exact h1
                  clear hx hl hBr
                  go_wp2
                  go_roundw
                  case rel => exact ⟨h + 1, by go_num, by omega, hfin.out⟩
                  case measure => simp [intOf]; omega
                · have hh' : h = rb.length := by omega
                  have hg2 : Grew w8.heap.size (enc (ra ++ rb)) (w8.alloc (.cells (zers (ra.length + rb.length)).toArray 31)) wr := by
                    rw [hh', List.take_of_length_le (Nat.le_refl _), Nat.sub_self] at hg
                    simpa [zers] using hg
                  have hW10 : Has wr w3.heap.size 31 (enc rw' ++ zers (n + n' - rw'.length)) := hg2.has hW9 (by omega)
                  have hbel10 : Below w3.heap.size w3 wr := hbel9.trans ((hg2.below (by simp)).mono (by omega))
                  clear hg hh' hA9 hB9 hW9 hbel9
                  go_wp2_with fail
                  refine (newObject_calls wr w8.heap.size (ra.length + rb.length) (ra ++ rb) hg2.here (by rw [List.length_append]) (by omega)).mono ?_
                  rintro e w11 ⟨rj, hNj, hlj, rfl, hg11⟩
                  have hjw : rj = rw' := norm_join hNa hNb hNj hNw
                  subst hjw
                  have hW11 : Has w11 w3.heap.size 31 (enc rj ++ zers (n + n' - rj.length)) := hg11.has hW10 (by omega)
                  have hJ11 : Has w11 w8.heap.size 31 (enc rj ++ zers (ra.length + rb.length - rj.length)) := hg11.here
                  have hbel11 : Below w3.heap.size w3 w11 := hbel10.trans ((hg11.below hg2.lt).mono (by omega))
                  clear hg2 hg11 hW10 hbel10 hNj hNa hNb
                  go_wp2_with fail
                  refine (sameObject_calls w11 w3.heap.size w8.heap.size (n + n') (ra.length + rb.length) rj _ _ hW11 hJ11 (by omega) (by omega)).mono ?_
                  rintro e w12 ⟨rfl, hbel12⟩
                  have hW12 : Has w12 w3.heap.size 31 (enc rj ++ zers (n + n' - rj.length)) := Below.has hbel12 hW11 hW11.lt
                  have hbelA : Below w3.heap.size w3 w12 := hbel11.trans (hbel12.mono hbel11.size)
                  clear hW11 hJ11 hbel11 hbel12
                  go_wp2
                  go_loopw [22] (fun i w' => ∃ q : Nat, i = .int .i64 q ∧ 1 ≤ q ∧ ∃ z, w' = w12.drewN z) (fun i _ => rj.length - (intOf i).toNat)
                  case atStart => exact ⟨1, rfl, by omega, 0, rfl⟩
                  case round =>
                    obtain ⟨q, rfl, hq1, z, rfl⟩ := hrel
                    by_cases hq2 : (q : Int) < rj.length
                    · obtain ⟨x, hx⟩ : ∃ x, rj[q - 1]? = some x := ⟨_, List.getElem?_eq_getElem (by omega)⟩
                      obtain ⟨y, hy⟩ : ∃ y, rj[q]? = some y := ⟨_, List.getElem?_eq_getElem (by omega)⟩
                      have q1 := hW12.cell (row_key (i := q - 1) hx)
                      have q2 := hW12.cell (row_key (i := q) hy)
                      have hxy : Op.bytesLess x.1.toList y.1.toList = true := hNw.1.get_lt (by omega) hx hy
                      have hwr : IntKind.i64.wrap ((q : Int) - 1) = ((q - 1 : Nat) : Int) := by rw [IntKind.wrap_i64]; omega
                      have hq3 : ((q - 1 : Nat) : Int) < rj.length := by omega
                      clear hx hy
                      go_wp2
                      go_quiet (fail)
                      go_wp2
                      go_roundw
                      case rel => exact ⟨q + 1, by go_num, by omega, z + nq, by simp [World.drewN]⟩
                      case measure => simp [intOf]; omega
                    · have hmk := run_make_bools (w12.drewN z) rj.length (by omega)
                      have hW13 : Has ((w12.drewN z).alloc (.cells ((List.replicate rj.length false).map Value.bool).toArray 4)) w3.heap.size 31 (enc rj ++ zers (n + n' - rj.length)) := Has.alloc (w := w12.drewN z) hW12 _
                      have hF13 : Has ((w12.drewN z).alloc (.cells ((List.replicate rj.length false).map Value.bool).toArray 4)) (w12.drewN z).heap.size 4 ((List.replicate rj.length false).map Value.bool) := Has.fresh _ _ _
                      have hbel13 : Below w3.heap.size w3 ((w12.drewN z).alloc (.cells ((List.replicate rj.length false).map Value.bool).toArray 4)) := Below.alloc (w := w12.drewN z) ⟨hbelA.os, hbelA.tape, hbelA.output, hbelA.size, hbelA.block⟩ hbelA.size _
                      have hlt3F : w3.heap.size < w12.heap.size := hW12.lt
                      clear hbelA hW12
                      have earr : ((List.replicate rj.length false).map Value.bool).toArray = Array.replicate rj.length (Value.bool false) := by simp
                      replace hF13 : Has ((w12.drewN z).alloc (.cells ((List.replicate rj.length false).map Value.bool).toArray 4)) w12.heap.size 4 ((fxOf (ks.zip vs ++ ks'.zip vs') rj (n + n')).map Value.bool) := by
                        have e := fxOf_end (ks.zip vs ++ ks'.zip vs') rj
                        rw [show (ks.zip vs ++ ks'.zip vs').length = n + n' from by have := LA.out; rw [List.length_append]; omega] at e
                        rw [e]; exact hF13
                      rw [earr] at hW13 hF13 hbel13
                      have hNw' : Hid (Norm (ks.zip vs ++ ks'.zip vs') rj) := hNw
                      clear earr hNw
                      go_wp2
                      clear hmk
                      go_loopw [24] (fun i w' => ∃ (g : Nat) (q : Int), i = .int .i64 q ∧ q = (g : Int) - 1 ∧ g ≤ n' ∧ Has w' w3.heap.size 31 (enc rj ++ zers (n + n' - rj.length)) ∧ Has w' w12.heap.size 4 ((fxOf (ks.zip vs ++ ks'.zip vs') rj (n + g)).map Value.bool) ∧ Below w3.heap.size w3 w') (fun i _ => (intOf i + 1).toNat)
                      case atStart => exact ⟨n', (n' : Int) - 1, rfl, rfl, by omega, hW13, hF13, hbel13⟩
                      case round =>
                        clear hW13 hF13 hbel13
                        obtain ⟨f, q, rfl, hqf, hfn, hW, hF, hbel⟩ := hrel
                        by_cases hf0 : f = 0
                        · subst hf0
                          have hq : ¬ (0 : Int) ≤ q := by omega
                          clear hqf
                          simp only [Nat.add_zero] at hF
                          go_wp2
                          go_loopw [25] (fun i w' => ∃ (g : Nat) (q : Int), i = .int .i64 q ∧ q = (g : Int) - 1 ∧ g ≤ n ∧ Has w' w3.heap.size 31 (enc rj ++ zers (n + n' - rj.length)) ∧ Has w' w12.heap.size 4 ((fxOf (ks.zip vs ++ ks'.zip vs') rj g).map Value.bool) ∧ Below w3.heap.size w3 w') (fun i _ => (intOf i + 1).toNat)
                          case atStart => exact ⟨n, (n : Int) - 1, rfl, rfl, by omega, hW, hF, hbel⟩
                          case round =>
                            clear hW hF hbel
                            obtain ⟨f, q, rfl, hqf, hfn, hW, hF, hbel⟩ := hrel
                            by_cases hf0 : f = 0
                            · subst hf0
                              have hq : ¬ (0 : Int) ≤ q := by omega
                              clear hqf
                              rw [fxOf_zero hNw'.out] at hF
                              go_wp2
                              go_loop [26] (fun i => ∃ p : Nat, i = .int .i64 p ∧ p ≤ rj.length) (fun i => rj.length - (intOf i).toNat)
                              case atStart => exact ⟨0, rfl, by omega⟩
                              case round =>
                                obtain ⟨p, rfl, hp⟩ := hrel
                                by_cases hp2 : (p : Int) < rj.length
                                · have hc : wr.cell? ⟨w12.heap.size, p, none⟩ = some (.bool true) := hF.cell (by rw [List.getElem?_map, List.getElem?_replicate, if_pos (by omega)]; rfl)
                                  go_wp2
                                  go_round
                                  case rel => exact ⟨p + 1, by go_num, by omega⟩
                                  case measure => simp [intOf]; omega
                                · go_wp2
                                  go_ret
                                  exact ⟨rfl, hbel⟩
                            · obtain ⟨q, rfl⟩ : ∃ q' : Nat, q = (q' : Int) := ⟨f - 1, by omega⟩
                              obtain ⟨x, hx⟩ : ∃ x, ks[q]? = some x := ⟨_, List.getElem?_eq_getElem (by have := hk.len; omega)⟩
                              obtain ⟨v, hvx⟩ : ∃ v, vs[q]? = some v := ⟨_, List.getElem?_eq_getElem (by have := hv.len; omega)⟩
                              obtain ⟨b1, o1, rfl, hb1, hc1⟩ := (hk.below hbel).cell q x hx
                              obtain ⟨b2, o2, rfl, hb2, hc2⟩ := (hv.below hbel).cell q v hvx
                              have hLx : (ks.zip vs ++ ks'.zip vs')[q]? = some (x, v) := by
                                rw [List.getElem?_append_left (by have := LA.out.1; omega)]
                                exact zip_get hx hvx
                              obtain ⟨p, m, hp, hmk, hmv, hset⟩ := settle_step hNw'.out hLx
                              have hf' : f = q + 1 := by omega
                              rw [hf'] at hF
                              have hcall := fun (W : World) (h1 : Has W w3.heap.size 31 (enc rj ++ zers (n + n' - rj.length))) (h2 : Has W w12.heap.size 4 ((fxOf (ks.zip vs ++ ks'.zip vs') rj (q + 1)).map Value.bool)) =>
                                settle_calls W w3.heap.size w12.heap.size (n + n') rj _ _ x v p m h1 h2 (fxOf_length _ _ _) (by omega) hlw hNw'.out.1 hp hmk hmv
                              rw [← hset] at hcall
                              have HC := hidden hcall
                              have hqn : (q : Int) < n := by omega
                              have hq0 : (0 : Int) ≤ q := by omega
                              have hneB : w3.heap.size ≠ w12.heap.size := by omega
                              clear hx hvx hLx hp hmk hmv hset hcall hqf hf' hf0
                              go_wp2
                              go_region_with (go_at_call 14; refine (HC.out wr.drew hW hF).mono ?_; rintro e w' ⟨rfl, hch⟩)
                              all_goals
                                go_wp2
                                go_roundw
                                case rel => exact ⟨q, (q : Int) - 1, rfl, rfl, by omega, hch.has (w := wr.drew) hW hneB, hch.here, hbel.drew.trans ((hch.below (w := wr.drew) hF.lt).mono (Nat.le_of_lt hlt3F))⟩
                                case measure => simp [intOf]
                        · obtain ⟨q, rfl⟩ : ∃ q' : Nat, q = (q' : Int) := ⟨f - 1, by omega⟩
                          obtain ⟨x, hx⟩ : ∃ x, ks'[q]? = some x := ⟨_, List.getElem?_eq_getElem (by have := hk'.len; omega)⟩
                          obtain ⟨v, hvx⟩ : ∃ v, vs'[q]? = some v := ⟨_, List.getElem?_eq_getElem (by have := hv'.len; omega)⟩
                          obtain ⟨b1, o1, rfl, hb1, hc1⟩ := (hk'.below hbel).cell q x hx
                          obtain ⟨b2, o2, rfl, hb2, hc2⟩ := (hv'.below hbel).cell q v hvx
                          have hLx : (ks.zip vs ++ ks'.zip vs')[n + q]? = some (x, v) := by
                            rw [List.getElem?_append_right (by have := LA.out.1; omega), show n + q - (ks.zip vs).length = q from by have := LA.out.1; omega]
                            exact zip_get hx hvx
                          obtain ⟨p, m, hp, hmk, hmv, hset⟩ := settle_step hNw'.out hLx
                          have hf' : n + f = n + q + 1 := by omega
                          rw [hf'] at hF
                          have hcall := fun (W : World) (h1 : Has W w3.heap.size 31 (enc rj ++ zers (n + n' - rj.length))) (h2 : Has W w12.heap.size 4 ((fxOf (ks.zip vs ++ ks'.zip vs') rj (n + q + 1)).map Value.bool)) =>
                            settle_calls W w3.heap.size w12.heap.size (n + n') rj _ _ x v p m h1 h2 (fxOf_length _ _ _) (by omega) hlw hNw'.out.1 hp hmk hmv
                          rw [← hset] at hcall
                          have HC := hidden hcall
                          have hqn : (q : Int) < n' := by omega
                          have hq0 : (0 : Int) ≤ q := by omega
                          have HQ : Hid (f = q + 1) := (by omega : f = q + 1)
                          have hneB : w3.heap.size ≠ w12.heap.size := by omega
                          clear hx hvx hLx hp hmk hmv hset hcall hqf hf' hf0
                          go_wp2
                          go_region_with (go_at_call 14; refine (HC.out wr.drew hW hF).mono ?_; rintro e w' ⟨rfl, hch⟩)
                          all_goals
                            go_wp2
                            go_roundw
                            case rel => exact ⟨q, (q : Int) - 1, rfl, rfl, by omega, hch.has (w := wr.drew) hW hneB, hch.here, hbel.drew.trans ((hch.below (w := wr.drew) hF.lt).mono (Nat.le_of_lt hlt3F))⟩
                            case measure => simp [intOf]
end Go.Proofs.Qxb6614095a
