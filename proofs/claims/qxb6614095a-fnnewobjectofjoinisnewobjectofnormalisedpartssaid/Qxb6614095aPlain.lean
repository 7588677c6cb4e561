/-
  PLAIN LAWS of seat b6614095a: the stable order told without Go. No text of the dump is imported.
-/
import Derived.Lib.Strings
namespace Go.Proofs.Qxb6614095a

/-- A member: its key, and the number that its value holds. -/
abbrev M := ByteArray × Int

def klt (a b : ByteArray) : Bool := Op.bytesLess a.toList b.toList

theorem bl_irrefl : ∀ x : List UInt8, Op.bytesLess x x = false
  | [] => rfl
  | a :: x => by simp [Op.bytesLess, bl_irrefl x]

theorem bl_trans : ∀ x y z : List UInt8, Op.bytesLess x y = true → Op.bytesLess y z = true → Op.bytesLess x z = true
  | _, [], _, h, _ => by simp [Op.bytesLess] at h
  | _, _ :: _, [], _, h => by simp [Op.bytesLess] at h
  | [], _ :: _, _ :: _, _, _ => rfl
  | a :: x, b :: y, c :: z, h1, h2 => by
    simp only [Op.bytesLess, Bool.or_eq_true, decide_eq_true_eq, Bool.and_eq_true, beq_iff_eq] at h1 h2 ⊢
    rcases h1 with h1 | ⟨rfl, h1⟩
    · rcases h2 with h2 | ⟨rfl, h2⟩
      · exact .inl (UInt8.lt_trans h1 h2)
      · exact .inl h1
    · rcases h2 with h2 | ⟨rfl, h2⟩
      · exact .inl h2
      · exact .inr ⟨rfl, bl_trans x y z h1 h2⟩

theorem bl_total : ∀ x y : List UInt8, Op.bytesLess x y = false → Op.bytesLess y x = false → x = y
  | [], [], _, _ => rfl
  | [], _ :: _, h, _ => by simp [Op.bytesLess] at h
  | _ :: _, [], _, h => by simp [Op.bytesLess] at h
  | a :: x, b :: y, h1, h2 => by
    simp only [Op.bytesLess, Bool.or_eq_false_iff, decide_eq_false_iff_not, Bool.and_eq_false_iff, beq_eq_false_iff_ne] at h1 h2
    have hab : a = b := UInt8.le_antisymm (UInt8.not_lt.1 h2.1) (UInt8.not_lt.1 h1.1)
    subst hab
    have h3 : Op.bytesLess x y = false := by rcases h1.2 with h | h; exact absurd rfl h; exact h
    have h4 : Op.bytesLess y x = false := by rcases h2.2 with h | h; exact absurd rfl h; exact h
    rw [bl_total x y h3 h4]

theorem ba_inj {a b : ByteArray} (h : a.toList = b.toList) : a = b := by
  rw [Lib.toList_data, Lib.toList_data] at h
  exact ByteArray.ext (Array.toList_inj.1 h)

theorem klt_irrefl (a : ByteArray) : klt a a = false := bl_irrefl _
theorem klt_trans {a b c : ByteArray} (h1 : klt a b = true) (h2 : klt b c = true) : klt a c = true := bl_trans _ _ _ h1 h2
theorem klt_total {a b : ByteArray} (h1 : klt a b = false) (h2 : klt b a = false) : a = b := ba_inj (bl_total _ _ h1 h2)
theorem klt_asymm {a b : ByteArray} (h : klt a b = true) : klt b a = false := by
  cases h2 : klt b a with
  | false => rfl
  | true => have := klt_trans h h2; rw [klt_irrefl] at this; cases this
/-- 'not greater' is transitive. -/
theorem kle_trans {a b c : ByteArray} (h1 : klt b a = false) (h2 : klt c b = false) : klt c a = false := by
  cases h : klt c a with
  | false => rfl
  | true =>
    cases h3 : klt a b with
    | true => have := klt_trans h h3; rw [h2] at this; cases this
    | false => have := klt_total h3 h1; subst this; rw [h] at h2; cases h2
theorem klt_of_lt_of_le {a b c : ByteArray} (h1 : klt a b = true) (h2 : klt c b = false) : klt a c = true := by
  cases h : klt a c with
  | true => rfl
  | false => have := kle_trans h2 h; rw [h1] at this; cases this
theorem klt_of_le_of_lt {a b c : ByteArray} (h1 : klt b a = false) (h2 : klt b c = true) : klt a c = true := by
  cases h : klt a c with
  | true => rfl
  | false => have := kle_trans h h1; rw [h2] at this; cases this

def lt (x y : M) : Bool := klt x.1 y.1
/-- Sorted by key: none behind is less. -/
def Srt (l : List M) : Prop := l.Pairwise fun x y => lt y x = false
/-- For each key the members of that key are the same, in the same order. -/
def Same (l l' : List M) : Prop := ∀ k : ByteArray, l.filter (fun m => decide (m.1 = k)) = l'.filter (fun m => decide (m.1 = k))

theorem Same.refl (l : List M) : Same l l := fun _ => rfl
theorem Same.trans {a b c : List M} (h : Same a b) (h' : Same b c) : Same a c := fun k => (h k).trans (h' k)
theorem Same.symm {a b : List M} (h : Same a b) : Same b a := fun k => (h k).symm
theorem Same.append {a a' b b' : List M} (h : Same a a') (h' : Same b b') : Same (a ++ b) (a' ++ b') := fun k => by
  rw [List.filter_append, List.filter_append, h k, h' k]
theorem Same.mem {a b : List M} (h : Same a b) {m : M} (hm : m ∈ a) : m ∈ b := by
  have h1 : m ∈ a.filter (fun x => decide (x.1 = m.1)) := List.mem_filter.2 ⟨hm, by simp⟩
  rw [h m.1] at h1
  exact (List.mem_filter.1 h1).1
theorem Same.mem_iff {a b : List M} (h : Same a b) {m : M} : m ∈ a ↔ m ∈ b := ⟨h.mem, h.symm.mem⟩
/-- Two blocks, every member of the second less than every one of the first, may change places. -/
theorem Same.exchange {a b : List M} (h : ∀ x ∈ a, ∀ y ∈ b, lt y x = true) : Same (a ++ b) (b ++ a) := by
  intro k
  rw [List.filter_append, List.filter_append]
  cases h1 : a.filter (fun m => decide (m.1 = k)) with
  | nil => simp
  | cons x xs =>
    cases h2 : b.filter (fun m => decide (m.1 = k)) with
    | nil => simp
    | cons y ys =>
      have hx : x ∈ a.filter (fun m => decide (m.1 = k)) := by rw [h1]; exact List.mem_cons_self
      have hy : y ∈ b.filter (fun m => decide (m.1 = k)) := by rw [h2]; exact List.mem_cons_self
      have hx' := List.mem_filter.1 hx
      have hy' := List.mem_filter.1 hy
      have := h x hx'.1 y hy'.1
      have e : y.1 = x.1 := by have := hx'.2; have := hy'.2; simp_all
      rw [lt, e, klt_irrefl] at this
      cases this

theorem len_of_filters {α κ : Type} [DecidableEq κ] (key : α → κ) {a b : List α} (h : ∀ k, a.filter (fun m => decide (key m = k)) = b.filter (fun m => decide (key m = k))) : a.length = b.length := by
  classical
  have hc : a.Perm b := by
    rw [List.perm_iff_count]
    intro m
    have h1 : ∀ l : List α, l.count m = (l.filter (fun x => decide (key x = key m))).count m := by
      intro l; rw [List.count_filter (by simp)]
    rw [h1 a, h1 b, h (key m)]
  exact hc.length_eq
theorem same_length {a b : List M} (h : Same a b) : a.length = b.length := len_of_filters (fun m : M => m.1) h

theorem srt_append {a b : List M} : Srt (a ++ b) ↔ Srt a ∧ Srt b ∧ ∀ x ∈ a, ∀ y ∈ b, lt y x = false := List.pairwise_append

theorem Srt.of_sub {a b : List M} (h : Srt b) (hs : a.Sublist b) : Srt a := List.Pairwise.sublist hs h
theorem Srt.take {a : List M} (h : Srt a) (n : Nat) : Srt (a.take n) := h.of_sub (List.take_sublist _ _)
theorem Srt.drop {a : List M} (h : Srt a) (n : Nat) : Srt (a.drop n) := h.of_sub (List.drop_sublist _ _)
theorem srt_nil : Srt [] := List.Pairwise.nil
theorem srt_one (x : M) : Srt [x] := List.pairwise_singleton _ _

/-- The merge of two halves that were rotated: what symMerge needs. -/
theorem merge_join {X1 X2 Y1 Y2 Z1 Z2 : List M}
    (h21 : ∀ x ∈ X2, ∀ y ∈ Y1, lt y x = true) (hX : Srt (X1 ++ X2)) (hY : Srt (Y1 ++ Y2)) (h12 : ∀ x ∈ X1, ∀ y ∈ Y2, lt y x = false)
    (s1 : Srt Z1) (m1 : Same (X1 ++ Y1) Z1) (s2 : Srt Z2) (m2 : Same (X2 ++ Y2) Z2) :
    Srt (Z1 ++ Z2) ∧ Same ((X1 ++ X2) ++ (Y1 ++ Y2)) (Z1 ++ Z2) := by
  constructor
  · refine srt_append.2 ⟨s1, s2, fun x hx y hy => ?_⟩
    have hx' := m1.symm.mem hx
    have hy' := m2.symm.mem hy
    rw [List.mem_append] at hx' hy'
    have hX' := (srt_append.1 hX).2.2
    have hY' := (srt_append.1 hY).2.2
    rcases hx' with hx' | hx' <;> rcases hy' with hy' | hy'
    · exact hX' x hx' y hy'
    · exact h12 x hx' y hy'
    · exact klt_asymm (h21 y hy' x hx')
    · exact hY' x hx' y hy'
  · have e1 : (X1 ++ X2) ++ (Y1 ++ Y2) = X1 ++ ((X2 ++ Y1) ++ Y2) := by simp
    have e2 : X1 ++ ((Y1 ++ X2) ++ Y2) = (X1 ++ Y1) ++ (X2 ++ Y2) := by simp
    rw [e1]
    refine Same.trans (Same.append (Same.refl _) (Same.append (Same.exchange h21) (Same.refl _))) ?_
    rw [e2]
    exact Same.append m1 m2
#print axioms merge_join
end Go.Proofs.Qxb6614095a
