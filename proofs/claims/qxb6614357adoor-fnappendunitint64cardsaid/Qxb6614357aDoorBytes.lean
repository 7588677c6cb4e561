/-
  WALKS of seat b6614357aD: cloneBytes, bytesEqual.
-/
import Derived.Test.Qxb6614357aDoorUnit
import Derived.Laws.CopyOwn
import Derived.BigQuiet
namespace Go.Proofs.Qxb6614357aDoor
open Go.Shelf Go.Sort Go.RowKit Ieee
set_option maxRecDepth 100000

/-- Byte cells. -/
def cells (zs : List Int) : List Value := zs.map (fun z => Value.int .u8 z)
/-- A slice of these bytes, wherever it lies. -/
def IsBytes (w : World) (v : Value) (n : Nat) (zs : List Int) : Prop :=
  zs.length = n ∧ n ≤ maxLen ∧ ((v = .slice none 0 0 ∧ n = 0) ∨ ∃ a c, v = .slice (some a) n c ∧ ∀ j z, zs[j]? = some z → w.cell? (a.add j) = some (.int .u8 z))

theorem cells_length (zs : List Int) : (cells zs).length = zs.length := by simp [cells]
theorem cells_one (zs : List Int) : ∀ v ∈ cells zs, v.oneCell' = true := by
  intro v hv; simp only [cells, List.mem_map] at hv; obtain ⟨b, _, rfl⟩ := hv; rfl

theorem made_size (n : Nat) : (madeCells #[Value.int .u8 0] n).size = n := size_madeCells _ _

set_option maxHeartbeats 1000000 in
theorem clone_calls (B n : Nat) (v : Value) (zs : List Int) (w : World) (h : IsBytes w v n zs) (hn : n ≤ 1048576 + 64) (hBw : B ≤ w.heap.size) :
    Calls Tryd.prog 6 #[v] w fun e w' => ∃ v', e = .returned v' ∧ w'.ownsRow B 5 1 v' n (cells zs) ∧ w.grownBy w' none ∧ (∀ k, v'.ownBlock = some k → k = w.heap.size) := by
  obtain ⟨hl, hm, h⟩ := h
  rcases h with ⟨rfl, rfl⟩ | ⟨a, c, rfl, hc⟩
  · have : zs = [] := List.eq_nil_of_length_eq_zero hl
    subst this
    have hnil := fun w => Lib.run_eql_slice_nil (P := Tryd.prog) w 22 5 none 0 0 0 0 Tryd.underlying22
    go_enter Tryd.func6, Tryd.ntmps6
    go_wp2
    go_ret
    exact ⟨_, rfl, World.ownsRow_nil _ _ _ _, grow_refl _ _, fun k hk => by cases hk⟩
  · obtain ⟨i0, hi, hz0, hz1, hz2⟩ := info_parts info5
    have hmk : (Instr.makeSlice 22 (.int .i64 (n : Int)) (.int .i64 (n : Int))).run Tryd.prog w = .ok (.slice (some ⟨w.heap.size, 0, none⟩) n n) (w.alloc (.cells (madeCells #[.int .u8 0] n) 5)) := by
      have := run_make (P := Tryd.prog) w 22 5 i0 (.int .u8 0) Tryd.underlying22 hi hz0 .i64 .i64 n n (by omega) (by omega) (by rw [hz2]; omega) (by omega)
      rw [hz1, Nat.mul_one, Int.toNat_natCast] at this
      exact this
    have hnil := fun w => Lib.run_eql_slice_nil (P := Tryd.prog) w 22 5 (some a) n c 0 0 Tryd.underlying22
    have hlt : w.heap.size < (w.alloc (.cells (madeCells #[.int .u8 0] n) 5)).heap.size := by simp
    have hg0 : (w.alloc (.cells (madeCells #[.int .u8 0] n) 5)).heap[w.heap.size]? = some (.cells (madeCells #[.int .u8 0] n) 5 (0, 0)) := Array.getElem?_push_size
    have hsrc : ∀ j u, (cells zs)[j]? = some u → (w.alloc (.cells (madeCells #[.int .u8 0] n) 5)).cell? (a.add j) = some u := by
      intro j u hj
      simp only [cells, List.getElem?_map] at hj
      obtain ⟨z, hz, rfl⟩ := Option.map_eq_some_iff.1 hj
      have hcz := hc j z hz
      exact (grow_alloc w _).cell hcz (by simp)
    go_enter Tryd.func6, Tryd.ntmps6
    have hcp := run_copy_row (P := Tryd.prog) (w.alloc (.cells (madeCells #[.int .u8 0] n) 5)) 22 22 3 5 w.heap.size 0 n n a n c (madeCells #[.int .u8 0] n) 5 (cells zs) Tryd.underlying22 (by rw [hi]; exact congrArg some hz1) hg0 (by rw [cells_length, hl]; exact (Nat.min_self n).symm) hsrc (by rw [cells_length, hl, made_size]; omega) (cells_one zs)
    go_wp2
    go_ret
    refine ⟨_, rfl, ⟨by rw [cells_length, hl, Nat.mul_one], .inr ⟨w.heap.size, n, _, rfl, hBw, setRow_heap _ _ _ _ _ _ hg0, Nat.le_refl _, hm, ?_, ?_⟩⟩, ?_, fun k hk => (Option.some.inj hk).symm⟩
    · simp [cells_length, hl, made_size]
    · simp [cells_length, hl]
    · exact ⟨rfl, rfl, rfl, by simp [World.setRow], fun k hk _ => by rw [setRow_other _ _ _ _ (by omega)]; exact Below.heap_alloc _ _ _ hk⟩

theorem owns_bytes {w : World} {B n : Nat} {v : Value} {zs : List Int} (h : w.ownsRow B 5 1 v n (cells zs)) : IsBytes w v n zs := by
  obtain ⟨hl, h⟩ := h
  rw [cells_length, Nat.mul_one] at hl
  rcases h with ⟨rfl, rfl⟩ | ⟨g, cap, cur, rfl, _, hh, h1, h2, h3, h4⟩
  · exact ⟨hl, Nat.zero_le _, .inl ⟨rfl, rfl⟩⟩
  · refine ⟨hl, Nat.le_trans h1 h2, .inr ⟨_, _, rfl, fun j z hj => ?_⟩⟩
    have hj' : (cells zs)[j]? = some (.int .u8 z) := by simp only [cells, List.getElem?_map, hj]; rfl
    rw [← h4, Nat.mul_one] at hj'
    have hjn : j < n := by
      have := (List.getElem?_eq_some_iff.1 hj').1
      simp at this; omega
    rw [List.getElem?_take, if_pos hjn] at hj'
    rw [Lib.add_plain]
    simp only [World.cell?, hh, Nat.zero_add]
    simpa using hj'
theorem bytes_keep {w w' : World} {v : Value} {n : Nat} {zs : List Int} (h : IsBytes w v n zs) {r : Option Nat} (hg : w.grownBy w' r) (hr : ∀ a c, v = .slice (some a) n c → some a.block ≠ r) : IsBytes w' v n zs := by
  obtain ⟨hl, hm, h⟩ := h
  refine ⟨hl, hm, ?_⟩
  rcases h with h | ⟨a, c, e, hc⟩
  · exact .inl h
  · refine .inr ⟨a, c, e, fun j z hj => ?_⟩
    have hb : (a.add j).block = a.block := by unfold Addr.add; split <;> rfl
    exact hg.cell (hc j z hj) (by rw [hb]; exact hr a c e)

set_option maxHeartbeats 1000000 in
theorem eq_calls (w : World) (u v : Value) (n m : Nat) (zs ys : List Int) (hu : IsBytes w u n zs) (hv : IsBytes w v m ys) (hn : n ≤ 2097152) (hm : m ≤ 2097152) :
    Calls Tryd.prog 8 #[u, v] w fun e w' => e = .returned (.bool (decide (zs = ys))) ∧ ∃ q, w' = w.drewN q := by
  obtain ⟨hlu, _, hu⟩ := hu
  obtain ⟨hlv, _, hv⟩ := hv
  obtain ⟨oa, c, rfl, ha⟩ : ∃ oa c, u = .slice oa n c ∧ ∀ j z, zs[j]? = some z → ∃ a, oa = some a ∧ w.cell? (a.add j) = some (.int .u8 z) := by
    rcases hu with ⟨rfl, rfl⟩ | ⟨a, c, rfl, hc⟩
    · exact ⟨none, 0, rfl, fun j z hj => by rw [List.eq_nil_of_length_eq_zero hlu] at hj; cases hj⟩
    · exact ⟨some a, c, rfl, fun j z hj => ⟨a, rfl, hc j z hj⟩⟩
  obtain ⟨ob, d, rfl, hb⟩ : ∃ oa c, v = .slice oa m c ∧ ∀ j z, ys[j]? = some z → ∃ a, oa = some a ∧ w.cell? (a.add j) = some (.int .u8 z) := by
    rcases hv with ⟨rfl, rfl⟩ | ⟨a, c, rfl, hc⟩
    · exact ⟨none, 0, rfl, fun j z hj => by rw [List.eq_nil_of_length_eq_zero hlv] at hj; cases hj⟩
    · exact ⟨some a, c, rfl, fun j z hj => ⟨a, rfl, hc j z hj⟩⟩
  by_cases hnm : n = m
  · subst hnm
    have LU : Hid (zs.length = n) := hlu
    have LV : Hid (ys.length = n) := hlv
    have HA : Hid (∀ j z, zs[j]? = some z → ∃ a, oa = some a ∧ w.cell? (a.add j) = some (.int .u8 z)) := ha
    have HB : Hid (∀ j z, ys[j]? = some z → ∃ a, ob = some a ∧ w.cell? (a.add j) = some (.int .u8 z)) := hb
    clear hlu hlv ha hb
    go_enter Tryd.func8, Tryd.ntmps8
    go_wp2_with fail
    go_loopw [5] (fun i w' => ∃ k q : Nat, i = .int .i64 k ∧ k ≤ n ∧ w' = w.drewN q ∧ ∀ j, j < k → zs[j]? = ys[j]?) (fun i _ => n - (intOf i).toNat)
    case atStart => exact ⟨0, 0, rfl, by omega, rfl, fun j h => absurd h (Nat.not_lt_zero j)⟩
    case round =>
      obtain ⟨k, q, rfl, hkn, rfl, hall⟩ := hrel
      by_cases hk : k < n
      · have hk' : (k : Int) < n := by omega
        obtain ⟨z, hz⟩ : ∃ z, zs[k]? = some z := ⟨_, List.getElem?_eq_getElem (by have := LU.out; omega)⟩
        obtain ⟨y, hy⟩ : ∃ y, ys[k]? = some y := ⟨_, List.getElem?_eq_getElem (by have := LV.out; omega)⟩
        obtain ⟨a, rfl, ca⟩ := HA.out k z hz
        obtain ⟨b, rfl, cb⟩ := HB.out k y hy
        by_cases hzy : z = y
        · have hne : (z != y) = false := by rw [hzy]; simp
          have hnext : Hid (∀ j, j < k + 1 → zs[j]? = ys[j]?) := by
            intro j hj
            by_cases hjk : j = k
            · subst hjk; rw [hz, hy, hzy]
            · exact hall j (by omega)
          clear hall hz hy
          go_wp2_with fail
          go_quiet (fail)
          go_wp2
          go_roundw
          case rel => exact ⟨k + 1, q + nq, by go_num, by omega, by simp [World.drewN], hnext.out⟩
          case measure => simp [intOf]; omega
        · have hne : (z != y) = true := by simpa using hzy
          have hf : Hid (decide (zs = ys) = false) := by
            refine decide_eq_false (fun e => hzy ?_)
            rw [e, hy] at hz; exact (Option.some.inj hz).symm
          clear hall hz hy
          go_wp2_with fail
          go_quiet (fail)
          go_wp2
          go_ret
          exact ⟨congrArg (fun b => Ending.returned (.bool b)) hf.out.symm, q + nq, by simp [World.drewN, Nat.add_assoc]⟩
      · have hkn' : k = n := by omega
        have ht : Hid (decide (zs = ys) = true) := by
          refine decide_eq_true (List.ext_getElem? fun j => ?_)
          by_cases hj : j < k
          · exact hall j hj
          · rw [List.getElem?_eq_none (by have := LU.out; omega), List.getElem?_eq_none (by have := LV.out; omega)]
        clear hall
        go_wp2
        go_ret
        exact ⟨congrArg (fun b => Ending.returned (.bool b)) ht.out.symm, q, rfl⟩
  · have hf : decide (zs = ys) = false := decide_eq_false (fun e => hnm (by rw [← hlu, ← hlv, e]))
    rw [hf]
    have hne : ((n : Int) != (m : Int)) = true := by rw [bne_iff_ne]; omega
    clear ha hb hlu hlv hf
    go_enter Tryd.func8, Tryd.ntmps8
    go_wp2
    go_ret
    exact ⟨rfl, 0, rfl⟩
end Go.Proofs.Qxb6614357aDoor
