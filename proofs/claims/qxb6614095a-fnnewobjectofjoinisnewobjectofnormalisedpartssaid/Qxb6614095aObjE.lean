/-
  WALKS of seat b6614095a: zzb1Settle.
-/
import Derived.Test.Qxb6614095aObjD
import Derived.Test.Qxb6614095aWorldC
namespace Go.Proofs.Qxb6614095a
open Go.RowKit

/-- Block B holds these cells of type e now; every other block that was there is as it was. -/
structure Chg (B : Nat) (e : TypeId) (cs : List Value) (w w' : World) : Prop where
  os : w'.os = w.os
  tape : w'.tape = w.tape
  output : w'.output = w.output
  size : w.heap.size ≤ w'.heap.size
  block : ∀ k, k < w.heap.size → k ≠ B → w'.heap[k]? = w.heap[k]?
  here : Has w' B e cs

theorem Chg.refl {B : Nat} {e : TypeId} {cs : List Value} {w : World} (h : Has w B e cs) : Chg B e cs w w := ⟨rfl, rfl, rfl, Nat.le_refl _, fun _ _ _ => rfl, h⟩
theorem Chg.alloc {B : Nat} {e : TypeId} {cs : List Value} {w w' : World} (h : Chg B e cs w w') (o : Obj) : Chg B e cs w (w'.alloc o) :=
  ⟨h.os, h.tape, h.output, by have := h.size; simp; omega, fun k hk hb => by rw [Below.heap_alloc _ _ _ (Nat.lt_of_lt_of_le hk h.size)]; exact h.block k hk hb, h.here.alloc o⟩
theorem Chg.set {B : Nat} {e : TypeId} {cs : List Value} {w w' : World} (h : Chg B e cs w w') (o : Nat) (u : Value) : Chg B e (cs.set o u) w (w'.setCell ⟨B, o, none⟩ u) :=
  ⟨h.os, h.tape, h.output, by have := h.size; simp [World.setCell]; omega, fun k hk hb => by rw [Below.heap_setCell _ _ _ _ hb]; exact h.block k hk hb, h.here.set o u⟩
theorem Chg.has {B B' : Nat} {e e' : TypeId} {cs cs' : List Value} {w w' : World} (h : Chg B e cs w w') (h' : Has w B' e' cs') (hne : B' ≠ B) : Has w' B' e' cs' :=
  (h.block B' h'.lt hne).trans h'
theorem Chg.below {B : Nat} {e : TypeId} {cs : List Value} {w w' : World} (h : Chg B e cs w w') (hB : B < w.heap.size) : Below B w w' := ⟨h.os, h.tape, h.output, h.size, fun k hk => h.block k (by omega) (by omega)⟩
theorem Grew.has {B B' : Nat} {e' : TypeId} {cs cs' : List Value} {w w' : World} (h : Grew B cs w w') (h' : Has w B' e' cs') (hne : B' ≠ B) : Has w' B' e' cs' :=
  (h.block B' h'.lt hne).trans h'
theorem Below.has {B B' : Nat} {e' : TypeId} {cs' : List Value} {w w' : World} (h : Below B w w') (h' : Has w B' e' cs') (hlt : B' < B) : Has w' B' e' cs' :=
  (h.block B' hlt).trans h'

theorem Asc.get_lt {l : List M} (h : Asc l) {s t : Nat} {x y : M} (hst : s < t) (hx : l[s]? = some x) (hy : l[t]? = some y) : lt x y = true := by
  obtain ⟨hs, rfl⟩ := List.getElem?_eq_some_iff.1 hx
  obtain ⟨ht, rfl⟩ := List.getElem?_eq_some_iff.1 hy
  exact List.pairwise_iff_getElem.1 h s t hs ht hst
theorem Asc.get_le {l : List M} (h : Asc l) {s t : Nat} {x y : M} (hst : s ≤ t) (hx : l[s]? = some x) (hy : l[t]? = some y) : lt y x = false := by
  rcases Nat.lt_or_ge s t with h1 | h1
  · exact klt_asymm (h.get_lt h1 hx hy)
  · have : s = t := by omega
    subst this
    rw [hx] at hy; cases hy; exact klt_irrefl _
theorem set_same {α : Type} {l : List α} {p : Nat} {x : α} (h : l[p]? = some x) : l.set p x = l := by
  obtain ⟨hp, rfl⟩ := List.getElem?_eq_some_iff.1 h
  simp
set_option maxRecDepth 100000 in
set_option maxHeartbeats 1000000 in
theorem settle_calls (w : World) (B F n : Nat) (rw' : List M) (rest : List Value) (fx : List Bool) (k : ByteArray) (v : Int) (p : Nat) (m : M)
    (hB : Has w B 31 (enc rw' ++ rest)) (hF : Has w F 4 (fx.map .bool)) (hlen : fx.length = rw'.length) (hn : n ≤ 1000000) (hrn : rw'.length ≤ n) (hasc : Asc rw') (hm : rw'[p]? = some m) (hk : m.1 = k) (hv : fx[p]? = some true ∨ m.2 = v) :
    Calls Try.prog 14 #[.slice (some ⟨B, 0, none⟩) rw'.length n, .slice (some ⟨F, 0, none⟩) rw'.length rw'.length, .string k, .int .i64 v] w fun e w' => e = .returned (.bool true) ∧ Chg F 4 ((fx.set p true).map .bool) w w' := by
  subst hk
  have hpl : p < rw'.length := (List.getElem?_eq_some_iff.1 hm).1
  have HM : Hid (rw'[p]? = some m ∧ fx.length = rw'.length) := ⟨hm, hlen⟩
  have key : ∀ i x, rw'[i]? = some x → w.cell? ⟨B, i * 2, none⟩ = some (.string x.1) := fun i x hx => hB.cell (by
    have := (List.getElem?_eq_some_iff.1 hx).1
    rw [List.getElem?_append_left (by rw [enc_length]; omega)]; exact enc_key rw' i x hx)
  have kv : w.cell? ⟨B, p * 2 + 1, none⟩ = some (.iface 2 (.int .i64 m.2)) := hB.cell (by
    rw [List.getElem?_append_left (by rw [enc_length]; omega)]; exact enc_val rw' p m hm)
  have hkp := key p m hm
  have KEY : Hid (∀ i x, rw'[i]? = some x → w.cell? ⟨B, i * 2, none⟩ = some (.string x.1)) := key
  obtain ⟨f, hf⟩ : ∃ f, fx[p]? = some f := ⟨_, List.getElem?_eq_getElem (by omega)⟩
  have hfc : w.cell? ⟨F, p, none⟩ = some (.bool f) := hF.cell (by simp [hf])
  have HF : Hid (fx[p]? = some f ∧ (fx[p]? = some true ∨ m.2 = v)) := ⟨hf, hv⟩
  have hth := hF.thawed
  have hlF := hF.lt
  have hlB := hB.lt
  clear key hm hlen hf hv
  go_enter Try.func14, Try.ntmps14
  go_wp2
  go_loop [9, 10, 11] (fun lo hi mid => ∃ a b : Nat, lo = .int .i64 a ∧ hi = .int .i64 b ∧ a ≤ p ∧ p ≤ b ∧ b ≤ rw'.length) (fun lo hi _ => (intOf hi).toNat - (intOf lo).toNat)
  case atStart => exact ⟨0, rw'.length, rfl, rfl, by omega, by omega, by omega⟩
  case round =>
    obtain ⟨a, b, rfl, rfl, hap, hpb, hbl⟩ := hrel
    by_cases hab : a < b
    · have hab' : (a : Int) < b := by omega
      have hmid1 : 0 ≤ (a : Int) + ((b : Int) - a) / 2 := by omega
      have hmid2 : (a : Int) + ((b : Int) - a) / 2 < rw'.length := by omega
      obtain ⟨x, hx⟩ : ∃ x, rw'[a + (b - a) / 2]? = some x := ⟨_, List.getElem?_eq_getElem (by omega)⟩
      have hcx := KEY.out _ x hx
      have HX : Hid (rw'[a + (b - a) / 2]? = some x) := hx
      clear hx
      cases hlt : Op.bytesLess x.1.toList m.1.toList with
      | true =>
        have hq : a + (b - a) / 2 < p := by
          rcases Nat.lt_or_ge (a + (b - a) / 2) p with h | h
          · exact h
          · have := hasc.get_le h HM.out.1 HX.out
            rw [show lt x m = klt x.1 m.1 from rfl, show klt x.1 m.1 = Op.bytesLess x.1.toList m.1.toList from rfl, hlt] at this
            cases this
        go_wp2
        go_round
        case rel => exact ⟨a + (b - a) / 2 + 1, b, by congr 1; omega, rfl, by omega, hpb, hbl⟩
        case measure => simp [intOf]; omega
      | false =>
        have hq : p ≤ a + (b - a) / 2 := by
          rcases Nat.lt_or_ge (a + (b - a) / 2) p with h | h
          · have := hasc.get_lt h HX.out HM.out.1
            rw [show lt x m = klt x.1 m.1 from rfl, show klt x.1 m.1 = Op.bytesLess x.1.toList m.1.toList from rfl, hlt] at this
            cases this
          · exact h
        go_wp2
        go_round
        case rel => exact ⟨a, a + (b - a) / 2, rfl, by congr 1; omega, by omega, by omega, by omega⟩
        case measure => simp [intOf]; omega
    · have hap' : a = p := by omega
      have hbp' : b = p := by omega
      subst hap' hbp'
      have hge : ¬ ((rw'.length : Int) ≤ b) := by omega
      have hge' : decide (rw'.length ≤ b) = false := by simp; omega
      have hbl' : (b : Int) < rw'.length := by omega
      cases f with
      | true =>
        go_wp2
        go_ret
        refine ⟨rfl, ?_⟩
        rw [set_same (by simp [HF.out.1])]
        exact Chg.refl hF
      | false =>
        have hmv : m.2 = v := by
          rcases HF.out.2 with h | h
          · rw [HF.out.1] at h; cases h
          · exact h
        subst hmv
        have hmm : (m.2 != m.2) = false := by simp
        go_wp2_with fail
        refine (intOf_calls _ _ _).mono ?_
        rintro e w' ⟨rfl, rfl⟩
        go_wp2
        go_ret
        refine ⟨rfl, ?_⟩
        rw [List.map_set]
        exact ((Chg.refl hF).set b (.bool true)).alloc _
end Go.Proofs.Qxb6614095a
