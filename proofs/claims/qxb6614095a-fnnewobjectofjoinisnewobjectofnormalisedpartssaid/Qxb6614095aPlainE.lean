/-
  PLAIN LAWS of seat b6614095a: the table of a list of members: keys ascending, of each key the last.
-/
import Derived.Test.Qxb6614095aPlainD
namespace Go.Proofs.Qxb6614095a

/-- Keys strictly ascending. -/
def Asc (l : List M) : Prop := l.Pairwise fun x y => lt x y = true

/-- The last member of key k. -/
def val (l : List M) (k : ByteArray) : Option M := (l.filter fun m => decide (m.1 = k)).getLast?

/-- r is the table of l. -/
def Norm (l r : List M) : Prop := Asc r ∧ ∀ k, val r k = val l k

/-- Of neighbours that share a key the last. -/
def keepLast : List M → List M
  | [] => []
  | [x] => [x]
  | x :: y :: l => if x.1 = y.1 then keepLast (y :: l) else x :: keepLast (y :: l)

theorem val_key {l : List M} {k : ByteArray} {m : M} (h : val l k = some m) : m.1 = k ∧ m ∈ l := by
  unfold val at h
  have := List.mem_of_getLast? h
  have := List.mem_filter.1 this
  exact ⟨by simpa using this.2, this.1⟩
theorem val_append (a b : List M) (k : ByteArray) : val (a ++ b) k = (val b k).or (val a k) := by
  unfold val
  rw [List.filter_append, List.getLast?_append]
theorem val_nil (k : ByteArray) : val [] k = none := rfl
theorem val_one (m : M) (k : ByteArray) : val [m] k = if m.1 = k then some m else none := by
  unfold val
  by_cases h : m.1 = k <;> simp [h]
theorem val_cons (m : M) (l : List M) (k : ByteArray) : val (m :: l) k = (val l k).or (if m.1 = k then some m else none) := by
  rw [show m :: l = [m] ++ l from rfl, val_append, val_one]
theorem val_none {l : List M} {k : ByteArray} (h : ∀ m ∈ l, m.1 ≠ k) : val l k = none := by
  unfold val
  rw [List.filter_eq_nil_iff.2 (by intro m hm; simpa using h m hm)]
  rfl
theorem val_of_mem {l : List M} {m : M} (h : m ∈ l) : ∃ m', val l m.1 = some m' := by
  unfold val
  cases h' : (l.filter fun x => decide (x.1 = m.1)).getLast? with
  | some m' => exact ⟨m', rfl⟩
  | none =>
    rw [List.getLast?_eq_none_iff, List.filter_eq_nil_iff] at h'
    exact absurd (by simp) (h' m h)
theorem Same.val {a b : List M} (h : Same a b) (k : ByteArray) : val a k = val b k := by
  unfold Qxb6614095a.val; rw [h k]

theorem keepLast_val : ∀ (l : List M) (k : ByteArray), val (keepLast l) k = val l k
  | [], _ => rfl
  | [_], _ => rfl
  | x :: y :: l, k => by
    unfold keepLast
    split
    · rename_i h
      rw [keepLast_val (y :: l) k, val_cons x]
      by_cases hk : x.1 = k
      · obtain ⟨m', hm'⟩ := val_of_mem (l := y :: l) (m := y) List.mem_cons_self
        rw [← hk, h, hm']; rfl
      · simp [hk]
    · rw [val_cons, val_cons x, keepLast_val (y :: l) k]
theorem keepLast_mem : ∀ (l : List M) (m : M), m ∈ keepLast l → m ∈ l
  | [], _, h => h
  | [_], _, h => h
  | x :: y :: l, m, h => by
    unfold keepLast at h
    split at h
    · exact List.mem_cons_of_mem _ (keepLast_mem (y :: l) m h)
    · rcases List.mem_cons.1 h with rfl | h
      · exact List.mem_cons_self
      · exact List.mem_cons_of_mem _ (keepLast_mem (y :: l) m h)
theorem keepLast_asc : ∀ (l : List M), Srt l → Asc (keepLast l)
  | [], _ => List.Pairwise.nil
  | [_], _ => List.pairwise_singleton _ _
  | x :: y :: l, h => by
    obtain ⟨h1, h2⟩ := List.pairwise_cons.1 h
    unfold keepLast
    split
    · exact keepLast_asc (y :: l) h2
    · rename_i hne
      refine List.pairwise_cons.2 ⟨fun m hm => ?_, keepLast_asc (y :: l) h2⟩
      have hm' := keepLast_mem _ _ hm
      have hxy : lt x y = true := by
        cases hc : lt x y with
        | true => rfl
        | false => exact absurd (klt_total hc (h1 y List.mem_cons_self)) hne
      rcases List.mem_cons.1 hm' with rfl | hm'
      · exact hxy
      · exact klt_of_lt_of_le hxy ((List.pairwise_cons.1 h2).1 m hm')
theorem keepLast_length : ∀ (l : List M), (keepLast l).length ≤ l.length
  | [] => Nat.le_refl _
  | [_] => Nat.le_refl _
  | x :: y :: l => by
    have := keepLast_length (y :: l)
    unfold keepLast
    split
    · simp at this ⊢; omega
    · simp at this ⊢; omega

theorem norm_keepLast {l z : List M} (hs : Srt z) (hm : Same l z) : Norm l (keepLast z) :=
  ⟨keepLast_asc z hs, fun k => (keepLast_val z k).trans (hm.val k).symm⟩
theorem norm_asc {l : List M} (h : Asc l) : Norm l l := ⟨h, fun _ => rfl⟩

theorem Asc.val_mem {r : List M} (h : Asc r) {m : M} (hm : m ∈ r) : val r m.1 = some m := by
  induction r with
  | nil => cases hm
  | cons x l ih =>
    obtain ⟨h1, h2⟩ := List.pairwise_cons.1 h
    rw [val_cons]
    rcases List.mem_cons.1 hm with rfl | hm
    · rw [val_none (fun m' hm' e => by have := h1 m' hm'; rw [lt, e, klt_irrefl] at this; cases this)]
      simp
    · rw [ih h2 hm]; rfl

/-- Two tables of one content are one. -/
theorem asc_unique : ∀ {a b : List M}, Asc a → Asc b → (∀ k, val a k = val b k) → a = b
  | [], [], _, _, _ => rfl
  | [], y :: b, _, hb, h => by
    have h1 := hb.val_mem (m := y) List.mem_cons_self
    rw [← h] at h1; cases h1
  | x :: a, [], ha, _, h => by
    have h1 := ha.val_mem (m := x) List.mem_cons_self
    rw [h] at h1; cases h1
  | x :: a, y :: b, ha, hb, h => by
    have hx := ha.val_mem (m := x) List.mem_cons_self
    have hy := hb.val_mem (m := y) List.mem_cons_self
    obtain ⟨a1, a2⟩ := List.pairwise_cons.1 ha
    obtain ⟨b1, b2⟩ := List.pairwise_cons.1 hb
    rw [h] at hx
    rw [← h] at hy
    have mx := (val_key hx).2
    have my := (val_key hy).2
    have hxy : x = y := by
      rcases List.mem_cons.1 mx with e | mx
      · exact e
      · rcases List.mem_cons.1 my with e | my
        · exact e.symm
        · have h1 := b1 x mx
          have h2 := a1 y my
          have := klt_asymm h1
          rw [lt, this] at h2; cases h2
    subst hxy
    have ht : ∀ k, val a k = val b k := by
      intro k
      have := h k
      rw [val_cons, val_cons] at this
      by_cases hk : x.1 = k
      · rw [val_none (fun m hm e => by have h2 := a1 m hm; rw [lt, e, hk, klt_irrefl] at h2; cases h2), val_none (fun m hm e => by have h2 := b1 m hm; rw [lt, e, hk, klt_irrefl] at h2; cases h2)]
      · simpa [hk] using this
    rw [asc_unique a2 b2 ht]
theorem norm_unique {l l' r r' : List M} (h : Norm l r) (h' : Norm l' r') (hv : ∀ k, val l k = val l' k) : r = r' :=
  asc_unique h.1 h'.1 fun k => (h.2 k).trans ((hv k).trans (h'.2 k).symm)

theorem asc_snoc {l : List M} {x y : M} (h : Asc (l ++ [x])) (hxy : lt x y = true) : Asc ((l ++ [x]) ++ [y]) := by
  refine List.pairwise_append.2 ⟨h, List.pairwise_singleton _ _, ?_⟩
  intro m hm z hz
  simp at hz; subst hz
  rcases List.mem_append.1 hm with hm | hm
  · exact klt_trans ((List.pairwise_append.1 h).2.2 m hm x (by simp)) hxy
  · simp at hm; subst hm; exact hxy
end Go.Proofs.Qxb6614095a
