/-
  WALKS of seat b6614095a: jsonval.NewObject.
-/
import Derived.Test.Qxb6614095aObjA
namespace Go.Proofs.Qxb6614095a
open Go.RowKit

theorem mix_get {r Z : List M} {i : Nat} (h : r.length ≤ i) : (r ++ Z.drop r.length)[i]? = Z[i]? := by
  rw [List.getElem?_append_right h, List.getElem?_drop, show r.length + (i - r.length) = i from by omega]
theorem mix_set {r Z : List M} {x : M} (h : r.length < Z.length) : (r ++ Z.drop r.length).set r.length x = (r ++ [x]) ++ Z.drop (r ++ [x]).length := by
  have e : Z.drop r.length = Z[r.length] :: Z.drop (r.length + 1) := List.drop_eq_getElem_cons h
  rw [e, set_mid]
  simp

theorem keep_last {Z r : List M} {i : Nat} {x : M} (hx : Z[i]? = some x) (hi : Z.length ≤ i + 1) (h : r ++ keepLast (Z.drop i) = keepLast Z) : (r ++ [x]) ++ keepLast (Z.drop (i + 1)) = keepLast Z := by
  obtain ⟨hl, rfl⟩ := List.getElem?_eq_some_iff.1 hx
  rw [← h, List.drop_eq_getElem_cons hl, List.drop_eq_nil_of_le hi]
  simp [keepLast]
theorem keep_same {Z r : List M} {i : Nat} {x y : M} (hx : Z[i]? = some x) (hy : Z[i + 1]? = some y) (he : x.1 = y.1) (h : r ++ keepLast (Z.drop i) = keepLast Z) : r ++ keepLast (Z.drop (i + 1)) = keepLast Z := by
  obtain ⟨hl, rfl⟩ := List.getElem?_eq_some_iff.1 hx
  obtain ⟨hl2, rfl⟩ := List.getElem?_eq_some_iff.1 hy
  rw [← h, List.drop_eq_getElem_cons hl, List.drop_eq_getElem_cons hl2]
  simp [keepLast, he]
theorem keep_other {Z r : List M} {i : Nat} {x y : M} (hx : Z[i]? = some x) (hy : Z[i + 1]? = some y) (he : x.1 ≠ y.1) (h : r ++ keepLast (Z.drop i) = keepLast Z) : (r ++ [x]) ++ keepLast (Z.drop (i + 1)) = keepLast Z := by
  obtain ⟨hl, rfl⟩ := List.getElem?_eq_some_iff.1 hx
  obtain ⟨hl2, rfl⟩ := List.getElem?_eq_some_iff.1 hy
  rw [← h, List.drop_eq_getElem_cons hl, List.drop_eq_getElem_cons hl2]
  simp [keepLast, he]

set_option maxRecDepth 100000 in
set_option maxHeartbeats 1000000 in
theorem newObject_calls (w : World) (B n : Nat) (L : List M) (H : Holds w B L) (hn : L.length = n) (hb40 : n ≤ 1099511627776) :
    Calls Try.prog 8 #[.slice (some ⟨B, 0, none⟩) n n] w fun e w' => ∃ r : List M, Norm L r ∧ r.length ≤ n ∧ e = .returned (.slice (some ⟨B, 0, none⟩) r.length n) ∧ Grew B (enc r ++ zers (n - r.length)) w w' := by
  have E : Hid (L.length = n) := hn
  clear hn
  go_enter Try.func8, Try.ntmps8
  go_wp2_with fail
  refine (inOrder_calls w B n L H E.out hb40).mono ?_
  rintro e w1 ⟨⟨b, rfl, hb⟩, q, rfl⟩
  cases b with
  | true =>
    have hasc : Hid (Asc L) := hb rfl
    clear hb
    go_wp2
    go_ret
    refine ⟨L, norm_asc hasc.out, by have := E.out; omega, ?_, ?_⟩
    · have := E.out; simp [this]
    · have h1 := E.out
      have := ((Moved.refl H).drewN q).grew
      simpa [h1, zers] using this
  | false =>
    clear hb
    go_wp2_with fail
    refine (Stable_calls (w.drewN q) B n L H E.out hb40).mono ?_
    rintro e w2 ⟨rfl, Z, sZ, mZ, hm2⟩
    have hZn : Hid (Z.length = n) := by have h1 := same_length mZ; have h2 := E.out; exact (by omega : Z.length = n)
    have hg2 : Grew B (enc Z) w w2 := (((Moved.refl H).drewN q).trans hm2).grew
    clear hm2
    go_wp2
    go_loopw [3, 4, 5, 14] (fun kept _ _ t w' => ∃ (i : Nat) (r : List M), kept = .int .i64 r.length ∧ t = .int .i64 i ∧ i ≤ n ∧ r.length ≤ i ∧ r ++ keepLast (Z.drop i) = keepLast Z ∧ Grew B (enc (r ++ Z.drop r.length)) w w') (fun _ _ _ t _ => n - (intOf t).toNat)
    case atStart => exact ⟨0, [], rfl, rfl, by omega, by simp, by simp, by simpa using hg2⟩
    case round =>
      obtain ⟨i, r, rfl, rfl, hin, hri, hkeep, hg⟩ := hrel
      have hkeep' : Hid (r ++ keepLast (Z.drop i) = keepLast Z) := hkeep
      clear hkeep hg2
      by_cases hlt : (i : Int) < n
      · obtain ⟨x, hx⟩ : ∃ x, Z[i]? = some x := ⟨_, List.getElem?_eq_getElem (by have := hZn.out; omega)⟩
        have hk1 := hg.cell (enc_key _ i x (by rw [mix_get hri]; exact hx))
        have hv1 := hg.cell (enc_val _ i x (by rw [mix_get hri]; exact hx))
        have hBl := hg.lt
        have hx' : Hid (Z[i]? = some x) := hx
        clear hx
        by_cases hlt2 : (i : Int) + 1 < n
        · obtain ⟨y, hy⟩ : ∃ y, Z[i + 1]? = some y := ⟨_, List.getElem?_eq_getElem (by have := hZn.out; omega)⟩
          have hk2 := hg.cell (enc_key _ (i + 1) y (by rw [mix_get (by omega)]; exact hy))
          have hy' : Hid (Z[i + 1]? = some y) := hy
          have hwr : IntKind.i64.wrap ((i : Int) + 1) = ((i + 1 : Nat) : Int) := by rw [IntKind.wrap_i64]; omega
          have hwr2 : ((i + 1 : Nat) : Int) < (n : Int) := by omega
          clear hy
          go_wp2
          go_quiet (fail)
          cases hxy : (y.1.toList == x.1.toList) with
          | true =>
            go_wp2
            go_roundw
            case rel =>
              have he : x.1 = y.1 := (ba_inj (by simpa using hxy)).symm
              exact ⟨i + 1, r, rfl, by go_num, by omega, by omega, keep_same hx'.out hy'.out he hkeep'.out, (hg.alloc _).drewN _⟩
            case measure => simp [intOf]; omega
          | false =>
            have hrn : (r.length : Int) < n := by omega
            obtain ⟨z, hz⟩ : ∃ z, Z[r.length]? = some z := ⟨_, List.getElem?_eq_getElem (by have := hZn.out; omega)⟩
            have hz1 := hg.cell (enc_key _ r.length z (by rw [mix_get (Nat.le_refl _)]; exact hz))
            have hz2 := hg.cell (enc_val _ r.length z (by rw [mix_get (Nat.le_refl _)]; exact hz))
            clear hz
            have hfr := hg.thawed
            go_wp2
            go_roundw
            case rel =>
              have he : x.1 ≠ y.1 := by intro e; rw [e] at hxy; simp at hxy
              have h1 := ((hg.alloc (Obj.cells #[Value.string x.fst, Value.iface 2 (Value.int IntKind.i64 x.snd)] 31)).put (r.length * 2) (.string x.1) (.iface 2 (.int .i64 x.2)))
              rw [← enc_set, mix_set (by have := hZn.out; omega)] at h1
              exact ⟨i + 1, r ++ [x], by simp, by go_num, by omega, by simp; omega, keep_other hx'.out hy'.out he hkeep'.out, h1.drewN _⟩
            case measure => simp [intOf]; omega
        · have hwr : IntKind.i64.wrap ((i : Int) + 1) = ((i + 1 : Nat) : Int) := by rw [IntKind.wrap_i64]; omega
          have hwr2 : decide ((i : Int) + 1 < (n : Int)) = false := by simp; omega
          go_wp2
          go_quiet (fail)
          have hrn : (r.length : Int) < n := by omega
          obtain ⟨z, hz⟩ : ∃ z, Z[r.length]? = some z := ⟨_, List.getElem?_eq_getElem (by have := hZn.out; omega)⟩
          have hz1 := hg.cell (enc_key _ r.length z (by rw [mix_get (Nat.le_refl _)]; exact hz))
          have hz2 := hg.cell (enc_val _ r.length z (by rw [mix_get (Nat.le_refl _)]; exact hz))
          clear hz
          have hfr := hg.thawed
          go_wp2
          go_roundw
          case rel =>
            have h1 := ((hg.alloc (Obj.cells #[Value.string x.fst, Value.iface 2 (Value.int IntKind.i64 x.snd)] 31)).put (r.length * 2) (.string x.1) (.iface 2 (.int .i64 x.2)))
            rw [← enc_set, mix_set (by have := hZn.out; omega)] at h1
            exact ⟨i + 1, r ++ [x], by simp, by go_num, by omega, by simp; omega, keep_last hx'.out (by have := hZn.out; omega) hkeep'.out, h1.drewN _⟩
          case measure => simp [intOf]; omega
      · have hr : r = keepLast Z := by
          have h1 := hkeep'.out
          rw [List.drop_eq_nil_of_le (by have := hZn.out; omega)] at h1
          simpa [keepLast] using h1
        have hN : Norm L r := by rw [hr]; exact norm_keepLast sZ mZ
        clear hr
        have hrn : (r.length : Int) ≤ n := by omega
        by_cases hfull : r.length = n
        · have hcl := run_clear_none
          go_wp2
          go_ret
          refine ⟨r, hN, by omega, by simp [hfull], ?_⟩
          have h1 := hg
          rw [List.drop_eq_nil_of_le (by have := hZn.out; omega)] at h1
          simpa [hfull, zers] using h1
        · have hlen : ∀ j, j < (n - r.length) * 2 → (wr.cell? ⟨B, r.length * 2 + j, none⟩).isSome = true := by
            intro j hj
            have h1 : r.length * 2 + j < (enc (r ++ Z.drop r.length)).length := by rw [enc_length]; have := hZn.out; simp; omega
            rw [hg.cell (List.getElem?_eq_getElem h1)]; rfl
          have hcl := fun ty => run_clear wr ty B (r.length * 2) (n - r.length) (n - r.length) (by omega) hlen hg.thawed
          have hgc := Grew.setAll (zers (n - r.length)) _ _ _ (r.length * 2) hg (by rw [enc_length, zers_length]; have := hZn.out; simp; omega)
          have e1 : (enc (r ++ Z.drop r.length)).take (r.length * 2) = enc r := by
            rw [enc_append, ← enc_length r]; simp
          rw [e1] at hgc
          clear hlen e1 hkeep'
          have hnr : (r.length : Int) < n := by omega
          go_wp2
          go_ret
          exact ⟨r, hN, by omega, rfl, hgc⟩
end Go.Proofs.Qxb6614095a
