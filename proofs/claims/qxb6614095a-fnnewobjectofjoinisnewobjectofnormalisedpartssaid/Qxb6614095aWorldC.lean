/-
  THE WORLD's SIDE of seat b6614095a: the two rows of the law's own table.
-/
import Derived.Test.Qxb6614095aWorldB
import Derived.Test.Qxb6614095aPlainF
namespace Go.Proofs.Qxb6614095a
open Go.RowKit

/-- Block B is just these cells. -/
def Has (w : World) (B : Nat) (e : TypeId) (cs : List Value) : Prop := w.heap[B]? = some (.cells cs.toArray e)

section
variable {w : World} {B : Nat} {e : TypeId} {cs : List Value}
theorem Has.cell (h : Has w B e cs) {o : Nat} {u : Value} (hu : cs[o]? = some u) : w.cell? ⟨B, o, none⟩ = some u := by simp [World.cell?, show w.heap[B]? = _ from h, hu]
theorem Has.thawed (h : Has w B e cs) (o : Nat) : w.frozen? ⟨B, o, none⟩ = false := by simp [World.frozen?, show w.heap[B]? = _ from h]
theorem Has.lt (h : Has w B e cs) : B < w.heap.size := lt_of_block h
theorem Has.alloc (h : Has w B e cs) (o : Obj) : Has (w.alloc o) B e cs := by unfold Has; rw [Below.heap_alloc _ _ _ h.lt]; exact h
theorem Has.set (h : Has w B e cs) (o : Nat) (u : Value) : Has (w.setCell ⟨B, o, none⟩ u) B e (cs.set o u) := by
  have h' : w.heap[B]? = _ := h
  simp only [Has, World.setCell, Array.getElem?_modify]
  simp [h']
theorem Has.set_other (h : Has w B e cs) {p : Addr} (hp : p.block ≠ B) (u : Value) : Has (w.setCell p u) B e cs := by
  unfold Has; rw [Below.heap_setCell _ _ _ _ (Ne.symm hp)]; exact h
end

/-- The cells of a row of strings with room for n. -/
def cS (n : Nat) (l : List ByteArray) : List Value := l.map .string ++ List.replicate (n - l.length) (.string ⟨#[]⟩)
/-- The cells of a row of int64 with room for n. -/
def cI (n : Nat) (l : List Int) : List Value := l.map (.int .i64) ++ List.replicate (n - l.length) (.int .i64 0)

theorem cS_get {n : Nat} {l : List ByteArray} {i : Nat} {x : ByteArray} (h : l[i]? = some x) : (cS n l)[i]? = some (.string x) := by
  have := (List.getElem?_eq_some_iff.1 h).1
  unfold cS
  rw [List.getElem?_append_left (by simpa using this)]; simp [h]
theorem cI_get {n : Nat} {l : List Int} {i : Nat} {x : Int} (h : l[i]? = some x) : (cI n l)[i]? = some (.int .i64 x) := by
  have := (List.getElem?_eq_some_iff.1 h).1
  unfold cI
  rw [List.getElem?_append_left (by simpa using this)]; simp [h]
theorem cS_set {n : Nat} {l : List ByteArray} {i : Nat} {x : ByteArray} (h : i < l.length) : (cS n l).set i (.string x) = cS n (l.set i x) := by
  unfold cS
  rw [List.set_append_left _ _ (by simpa using h)]; simp [List.map_set]
theorem cI_set {n : Nat} {l : List Int} {i : Nat} {x : Int} (h : i < l.length) : (cI n l).set i (.int .i64 x) = cI n (l.set i x) := by
  unfold cI
  rw [List.set_append_left _ _ (by simpa using h)]; simp [List.map_set]
theorem cS_grow {n : Nat} {l : List ByteArray} (h : l.length < n) : cS n (l ++ [(⟨#[]⟩ : ByteArray)]) = cS n l := by
  unfold cS
  rw [show n - l.length = (n - (l ++ [(⟨#[]⟩ : ByteArray)]).length) + 1 from by simp; omega, List.replicate_succ]
  simp
theorem cI_grow {n : Nat} {l : List Int} (h : l.length < n) : cI n (l ++ [0]) = cI n l := by
  unfold cI
  rw [show n - l.length = (n - (l ++ [0]).length) + 1 from by simp; omega, List.replicate_succ]
  simp
theorem cS_length {n : Nat} {l : List ByteArray} (h : l.length ≤ n) : (cS n l).length = n := by unfold cS; simp; omega
theorem cI_length {n : Nat} {l : List Int} (h : l.length ≤ n) : (cI n l).length = n := by unfold cI; simp; omega

theorem setRow_same {w : World} {B : Nat} {e : TypeId} {cs : List Value} (h : Has w B e cs) : w.setRow B cs.toArray = w := by
  have h' : w.heap[B]? = _ := h
  have e1 : (w.setRow B cs.toArray).heap = w.heap := by
    apply Array.ext_getElem?
    intro i
    unfold World.setRow
    rw [Array.getElem?_modify]
    by_cases hi : B = i
    · subst hi; simp [h']
    · simp [hi]
  have e2 : w.setRow B cs.toArray = { w with heap := (w.setRow B cs.toArray).heap } := rfl
  rw [e2, e1]

theorem info9 : (Try.prog.info? 9).map (fun i => (i.zero, i.size, i.bytes)) = some (some (.string ⟨#[]⟩), 1, 16) := by kernel_rfl
theorem info2 : (Try.prog.info? 2).map (fun i => (i.zero, i.size, i.bytes)) = some (some (.int .i64 0), 1, 8) := by kernel_rfl

theorem take_set_drop {α : Type} (cs : List α) (k : Nat) (v : α) (h : cs[k]? = some v) : cs.take k ++ [v] ++ cs.drop (k + 1) = cs := by
  obtain ⟨hk, rfl⟩ := List.getElem?_eq_some_iff.1 h
  rw [← List.take_succ_eq_append_getElem hk, List.take_append_drop]

/-- 'mk = append(mk, "")' within the room: the cell was empty already. -/
theorem append_S {w : World} {B n k : Nat} {l : List ByteArray} (h : Has w B 9 (cS n l)) (hk : l.length = k) (hkn : k < n) (ad : Addr) (hnew : w.cell? ad = some (.string ⟨#[]⟩)) (ty : TypeId) :
    (Builtin.append_ #[22, 22] ty #[.slice (some ⟨B, 0, none⟩) k n, .slice (some ad) 1 1]).run Try.prog w = .ok (.slice (some ⟨B, 0, none⟩) (k + 1) n) w := by
  obtain ⟨i, hi, hz, hs, hb⟩ := info_parts info9
  have hl : (cS n l).length = n := cS_length (by omega)
  have hget : (cS n l)[k]? = some (.string ⟨#[]⟩) := by rw [← cS_grow (by omega)]; exact cS_get (by rw [← hk]; simp)
  have hr := run_append_room (P := Try.prog) w 22 ty 9 i Try.underlying22 hi B k n (cS n l).toArray h ad 1 1 [.string ⟨#[]⟩] (by simp [hs]) (by
    intro j u hj
    cases j with
    | zero => simp at hj; subst hj; simpa [Addr.add] using hnew
    | succ j => simp at hj) (by intro u hu; simp at hu; subst hu; rfl) (by omega) (by simp [hs, hl]; omega)
  rw [hr, hs]
  simp only [Nat.mul_one, List.length_singleton]
  rw [take_set_drop _ _ _ hget, setRow_same h]

theorem append_I {w : World} {B n k : Nat} {l : List Int} (h : Has w B 2 (cI n l)) (hk : l.length = k) (hkn : k < n) (ad : Addr) (hnew : w.cell? ad = some (.int .i64 0)) (ty : TypeId) :
    (Builtin.append_ #[23, 23] ty #[.slice (some ⟨B, 0, none⟩) k n, .slice (some ad) 1 1]).run Try.prog w = .ok (.slice (some ⟨B, 0, none⟩) (k + 1) n) w := by
  obtain ⟨i, hi, hz, hs, hb⟩ := info_parts info2
  have hl : (cI n l).length = n := cI_length (by omega)
  have hget : (cI n l)[k]? = some (.int .i64 0) := by rw [← cI_grow (by omega)]; exact cI_get (by rw [← hk]; simp)
  have hr := run_append_room (P := Try.prog) w 23 ty 2 i Try.underlying23 hi B k n (cI n l).toArray h ad 1 1 [.int .i64 0] (by simp [hs]) (by
    intro j u hj
    cases j with
    | zero => simp at hj; subst hj; simpa [Addr.add] using hnew
    | succ j => simp at hj) (by intro u hu; simp at hu; subst hu; rfl) (by omega) (by simp [hs, hl]; omega)
  rw [hr, hs]
  simp only [Nat.mul_one, List.length_singleton]
  rw [take_set_drop _ _ _ hget, setRow_same h]

theorem made_one (z : Value) (n : Nat) : madeCells #[z] n = (List.replicate n z).toArray := by
  apply Array.toList_inj.1
  apply List.ext_getElem?
  intro i
  by_cases h : i < n
  · simp [madeCells, h, Nat.mod_one]
  · simp [madeCells, h]

/-- 'make([]string, 0, n)', 'make([]int64, 0, n)'. -/
theorem make_S (w : World) (n : Nat) (hn : n ≤ 1099511627776) :
    (Instr.makeSlice 22 (.int .i64 0) (.int .i64 n)).run Try.prog w = .ok (.slice (some ⟨w.heap.size, 0, none⟩) 0 n) (w.alloc (.cells (cS n []).toArray 9)) := by
  obtain ⟨i, hi, hz, hs, hb⟩ := info_parts info9
  have h := run_make (P := Try.prog) w 22 9 i _ Try.underlying22 hi hz .i64 .i64 0 n (by omega) (by omega) (by rw [hb]; omega) (by omega)
  rw [hs] at h
  simp only [Int.toNat_natCast, Int.toNat_zero, Nat.mul_one] at h
  rw [h, show (Value.string ⟨#[]⟩).cells = #[.string ⟨#[]⟩] from rfl, made_one]
  simp [cS]
theorem make_I (w : World) (n : Nat) (hn : n ≤ 1099511627776) :
    (Instr.makeSlice 23 (.int .i64 0) (.int .i64 n)).run Try.prog w = .ok (.slice (some ⟨w.heap.size, 0, none⟩) 0 n) (w.alloc (.cells (cI n []).toArray 2)) := by
  obtain ⟨i, hi, hz, hs, hb⟩ := info_parts info2
  have h := run_make (P := Try.prog) w 23 2 i _ Try.underlying23 hi hz .i64 .i64 0 n (by omega) (by omega) (by rw [hb]; omega) (by omega)
  rw [hs] at h
  simp only [Int.toNat_natCast, Int.toNat_zero, Nat.mul_one] at h
  rw [h, show (Value.int .i64 0).cells = #[.int .i64 0] from rfl, made_one]
  simp [cI]
end Go.Proofs.Qxb6614095a
