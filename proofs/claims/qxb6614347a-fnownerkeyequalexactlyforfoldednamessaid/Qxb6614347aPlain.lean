import Derived.Test.Qxb6614347aKey
namespace Go.Proofs.Qxb6614347a
open Go.RowKit


theorem okey_data (s : ByteArray) : (okey s).data.toList = (if endsDot s then s.data.toList.dropLast else s.data.toList).map lowB := by
  unfold okey; rw [← trim_data]
theorem okey_size (s : ByteArray) : (okey s).size = if endsDot s then s.size - 1 else s.size := by
  rw [Lib.size_eq, okey_data, List.length_map, Lib.size_eq s]
  split <;> simp
theorem app_data (a b : ByteArray) : (a ++ b).data.toList = a.data.toList ++ b.data.toList := by simp
theorem app_size (a b : ByteArray) : (a ++ b).size = a.size + b.size := by simp
theorem ends_app (a b : ByteArray) (h : 0 < b.size) : endsDot (a ++ b) = endsDot b := by
  unfold endsDot
  have : b.data.toList ≠ [] := by intro e; rw [Lib.size_eq, e] at h; simp at h
  rw [app_data, List.getLast?_append]
  cases hb : b.data.toList.getLast? with
  | none => rw [List.getLast?_eq_none_iff] at hb; exact absurd hb this
  | some x => rfl
theorem ends_nil (a b : ByteArray) (h : b.size = 0) : a ++ b = a := by
  apply ByteArray.ext
  apply Array.toList_inj.1
  rw [app_data, List.eq_nil_of_length_eq_zero (l := b.data.toList) (by rw [← Lib.size_eq]; exact h), List.append_nil]
theorem low_size (a : ByteArray) : (a ++ (⟨#[95]⟩ : ByteArray)).size = a.size + 1 := by
  rw [app_size]; rfl
theorem low95 : lowB 95 = 95 := lowB_id (by decide)
theorem ends_low (a : ByteArray) : endsDot (a ++ ⟨#[95]⟩) = false := by
  rw [ends_app _ _ (by decide)]; rfl
theorem head_data (a : ByteArray) : (okey (a ++ ⟨#[95]⟩)).data.toList = a.data.toList.map lowB ++ [95] := by
  rw [okey_data, ends_low, app_data]
  rw [if_neg (by decide), List.map_append]
  show a.data.toList.map lowB ++ [lowB 95] = _
  rw [low95]
theorem head_size (a : ByteArray) : (okey (a ++ ⟨#[95]⟩)).size = a.size + 1 := by
  rw [Lib.size_eq, head_data, Lib.size_eq a]; simp
theorem get_data (s : ByteArray) (i : Nat) (h : i < s.size) : s.data.toList[i]? = some s[i] := by
  rw [List.getElem?_eq_getElem (by rw [← Lib.size_eq]; exact h)]; rfl
theorem head_last (a D : ByteArray) (hD : D.data.toList = a.data.toList.map lowB ++ [95]) (h : a.size < D.size) : D[a.size] = 95 := by
  have h1 := get_data D a.size h
  rw [hD, List.getElem?_append_right (by rw [Lib.size_eq a, List.length_map]; exact Nat.le_refl _), List.length_map] at h1
  rw [← Lib.size_eq a, Nat.sub_self] at h1
  exact (Option.some.inj h1).symm
theorem lowB_not (c : UInt8) : ¬ (65 ≤ (lowB c).toNat ∧ (lowB c).toNat ≤ 90) := by
  by_cases h : 65 ≤ c.toNat ∧ c.toNat ≤ 90
  · rw [lowB_up h]; omega
  · rw [lowB_id h]; exact h
theorem okey_not (s : ByteArray) (i : Nat) (h : i < (okey s).size) : ¬ (65 ≤ (okey s)[i].toNat ∧ (okey s)[i].toNat ≤ 90) := by
  have h1 := get_data (okey s) i h
  rw [okey_data] at h1
  rw [List.getElem?_map] at h1
  obtain ⟨c, _, hc⟩ := Option.map_eq_some_iff.1 h1
  rw [← hc]; exact lowB_not c
/-- b is empty. -/
theorem cut_nil (a b : ByteArray) (hb : b.size = 0) : (okey (a ++ b)).toList = ((okey (a ++ ⟨#[95]⟩)).extract 0 (if endsDot (a ++ b) then a.size - 1 else a.size)).toList := by
  rw [Lib.toList_data, Lib.extract_toList, head_data, okey_data, ends_nil a b hb, Lib.size_eq a]
  cases endsDot a with
  | true =>
    simp only [if_true, List.drop_zero, Nat.sub_zero]
    rw [List.take_append_of_le_length (by simp), List.dropLast_eq_take, List.map_take]
  | false =>
    simp
/-- b is not empty. -/
theorem cut_cons (a b : ByteArray) (hb : 0 < b.size) : (okey (a ++ b)).toList = ((okey (a ++ ⟨#[95]⟩)).extract 0 a.size ++ okey b).toList := by
  rw [Lib.toList_data, Lib.toList_data, app_data, Lib.extract_data, head_data, okey_data, okey_data, ends_app a b hb, app_data, Lib.size_eq a]
  have hne : b.data.toList ≠ [] := by intro e; rw [Lib.size_eq, e] at hb; simp at hb
  cases endsDot b with
  | true =>
    simp only [if_true, List.drop_zero, Nat.sub_zero]
    rw [List.dropLast_append_of_ne_nil hne, List.map_append, List.take_append_of_le_length (by simp), List.take_of_length_le (by simp)]
  | false =>
    simp

end Go.Proofs.Qxb6614347a
