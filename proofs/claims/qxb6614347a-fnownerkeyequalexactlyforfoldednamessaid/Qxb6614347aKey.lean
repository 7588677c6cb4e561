/-
  WALKS of seat b6614347a: TrimSuffix at a dot, ownerKey, endsWithDot, the two zzBytes.
-/
import Derived.Test.Qxb6614347aLow

namespace Go.Proofs.Qxb6614347a
open Go.RowKit

/-- Does the text end in a dot? -/
def endsDot (s : ByteArray) : Bool := s.data.toList.getLast? == some 46
/-- The text without one trailing dot. -/
def trim (s : ByteArray) : ByteArray := if endsDot s then s.extract 0 (s.size - 1) else s

theorem ext_last (s : ByteArray) (h : 1 ≤ s.size) : ((s.extract (s.size - 1) s.size).toList == [46]) = endsDot s := by
  rw [Lib.extract_toList]
  unfold endsDot
  have hl : s.size = s.data.toList.length := Lib.size_eq s
  rw [hl] at h ⊢
  generalize s.data.toList = l at h ⊢
  rcases List.eq_nil_or_concat l with rfl | ⟨L, b, rfl⟩
  · simp at h
  · simp [List.concat_eq_append]

set_option maxHeartbeats 400000 in
theorem hasSuffix_calls (s : ByteArray) (w : World) (hs : s.size ≤ 1000000) :
    Calls Try.prog 14 #[.string s, .string ⟨#[46]⟩] w fun e w' => e = .returned (.bool (endsDot s)) ∧ w' = w := by
  by_cases h : 1 ≤ s.size
  · have h' : (1 : Int) ≤ s.size := by omega
    have HE := ext_last s h
    have H2 : Hid (((s.extract (s.size - 1) s.size).toList == [46]) = endsDot s) := HE
    clear HE
    go_enter Try.func14, Try.ntmps14
    go_wp2
    go_ret
    exact ⟨congrArg (fun b => Ending.returned (.bool b)) H2.out, rfl⟩
  · have h' : decide ((1 : Int) ≤ s.size) = false := by simp; omega
    have h0 : endsDot s = false := by
      unfold endsDot
      have hl : s.size = s.data.toList.length := Lib.size_eq s
      rw [List.eq_nil_of_length_eq_zero (l := s.data.toList) (by omega)]; rfl
    rw [h0]
    go_enter Try.func14, Try.ntmps14
    go_wp2
    go_ret
    exact ⟨rfl, rfl⟩

set_option maxHeartbeats 400000 in
theorem trimLite_calls (s : ByteArray) (w : World) (hs : s.size ≤ 1000000) :
    Calls Try.prog 13 #[.string s, .string ⟨#[46]⟩] w fun e w' => e = .returned (.string (trim s)) ∧ w' = w := by
  cases hd : endsDot s with
  | true =>
    have h1 : 1 ≤ s.size := by
      rcases Nat.lt_or_ge s.size 1 with h | h
      · unfold endsDot at hd
        have hl : s.size = s.data.toList.length := Lib.size_eq s
        rw [List.eq_nil_of_length_eq_zero (l := s.data.toList) (by omega)] at hd; cases hd
      · exact h
    have ht : Hid (trim s = s.extract 0 (s.size - 1)) := by show trim s = _; unfold trim; rw [hd]; rfl
    go_enter Try.func13, Try.ntmps13
    go_wp2_with fail
    refine (hasSuffix_calls s w hs).mono ?_
    rintro e w' ⟨rfl, rfl⟩
    rw [hd]
    go_wp2
    go_ret
    exact ⟨congrArg (fun b => Ending.returned (.string b)) ht.out.symm, rfl⟩
  | false =>
    have ht : Hid (trim s = s) := by show trim s = _; unfold trim; rw [hd]; rfl
    go_enter Try.func13, Try.ntmps13
    go_wp2_with fail
    refine (hasSuffix_calls s w hs).mono ?_
    rintro e w' ⟨rfl, rfl⟩
    rw [hd]
    go_wp2
    go_ret
    exact ⟨congrArg (fun b => Ending.returned (.string b)) ht.out.symm, rfl⟩

set_option maxHeartbeats 400000 in
theorem trim_calls (s : ByteArray) (w : World) (hs : s.size ≤ 1000000) :
    Calls Try.prog 12 #[.string s, .string ⟨#[46]⟩] w fun e w' => e = .returned (.string (trim s)) ∧ w' = w := by
  go_enter Try.func12, Try.ntmps12
  go_wp2_with fail
  refine (trimLite_calls s w hs).mono ?_
  rintro e w' ⟨rfl, rfl⟩
  go_wp2
  go_ret
  exact ⟨rfl, rfl⟩

/-- The owner's key. -/
def okey (s : ByteArray) : ByteArray := ⟨((trim s).data.toList.map lowB).toArray⟩

theorem trim_data (s : ByteArray) : (trim s).data.toList = if endsDot s then s.data.toList.dropLast else s.data.toList := by
  unfold trim
  cases hd : endsDot s with
  | true =>
    simp only [if_true]
    rw [Lib.extract_data, Lib.size_eq s]
    simp [List.dropLast_eq_take]
  | false => rfl
theorem trim_size (s : ByteArray) : (trim s).size ≤ s.size := by
  rw [Lib.size_eq, Lib.size_eq s, trim_data]
  split <;> simp

set_option maxHeartbeats 400000 in
theorem ownerKey_calls (s : ByteArray) (w : World) (hs : s.size ≤ 1000000) :
    Calls Try.prog 10 #[.string s] w fun e w' => e = .returned (.string (okey s)) ∧ Below w.heap.size w w' := by
  go_enter Try.func10, Try.ntmps10
  go_wp2_with fail
  refine (trim_calls s w hs).mono ?_
  rintro e w' ⟨rfl, rfl⟩
  go_wp2_with fail
  refine (low_calls (trim s) _ (Nat.le_trans (trim_size s) hs)).mono ?_
  rintro e w1 ⟨rfl, hb⟩
  go_wp2
  go_ret
  exact ⟨rfl, hb⟩

set_option maxHeartbeats 400000 in
theorem zzOwnerKey_calls (s : ByteArray) (w : World) (hs : s.size ≤ 1000000) :
    Calls Try.prog 6 #[.string s] w fun e w' => e = .returned (.string (okey s)) ∧ Below w.heap.size w w' := by
  go_enter Try.func6, Try.ntmps6
  go_wp2_with fail
  refine (ownerKey_calls s w hs).mono ?_
  rintro e w1 ⟨rfl, hb⟩
  go_wp2
  go_ret
  exact ⟨rfl, hb⟩

theorem last_byte (s : ByteArray) (h : 0 < s.size) : ((s[s.size - 1].toNat : Int) == 46) = endsDot s := by
  unfold endsDot
  have hl : s.size = s.data.toList.length := Lib.size_eq s
  have e : s.data.toList.getLast? = some s[s.size - 1] := by
    rw [List.getLast?_eq_getElem?, ← hl, List.getElem?_eq_getElem (by omega)]
    rfl
  rw [e, Bool.eq_iff_iff]
  simp only [beq_iff_eq, Option.some.injEq]
  constructor
  · intro h'
    apply UInt8.toNat_inj.1
    have : s[s.size - 1].toNat = 46 := by omega
    simpa using this
  · intro h'
    rw [h']; rfl

set_option maxHeartbeats 400000 in
theorem endsDot_calls (s : ByteArray) (w : World) (hs : s.size ≤ 1000000) :
    Calls Try.prog 9 #[.string s] w fun e w' => e = .returned (.bool (endsDot s)) ∧ w' = w := by
  by_cases h : 0 < s.size
  · have h' : (0 : Int) < s.size := by omega
    have H2 : Hid (((s[s.size - 1].toNat : Int) == 46) = endsDot s) := last_byte s h
    go_enter Try.func9, Try.ntmps9
    go_wp2
    go_ret
    exact ⟨congrArg (fun b => Ending.returned (.bool b)) H2.out, rfl⟩
  · have h' : decide ((0 : Int) < s.size) = false := decide_eq_false (by omega)
    have h'' : decide (0 < s.size) = false := decide_eq_false h
    have h0 : endsDot s = false := by
      unfold endsDot
      have hl : s.size = s.data.toList.length := Lib.size_eq s
      rw [List.eq_nil_of_length_eq_zero (l := s.data.toList) (by omega)]; rfl
    rw [h0]
    go_enter Try.func9, Try.ntmps9
    go_wp2
    go_ret
    exact ⟨rfl, rfl⟩

/-- It answers a bool. -/
def IsBool (e : Ending) : Prop := ∃ b, e = .returned (.bool b)
set_option maxHeartbeats 400000 in
theorem zzBytesA_calls (a b : ByteArray) (w : World) :
    Calls Try.prog 5 #[.string a, .string b] w fun e w' => IsBool e ∧ w' = w := by
  go_enter Try.func5, Try.ntmps5
  go_wp2
  all_goals
    go_ret
    exact ⟨⟨_, rfl⟩, rfl⟩
set_option maxHeartbeats 400000 in
theorem zzBytesB_calls (a b : ByteArray) (w : World) :
    Calls Try.prog 8 #[.string a, .string b] w fun e w' => IsBool e ∧ w' = w := by
  go_enter Try.func8, Try.ntmps8
  go_wp2
  all_goals
    go_ret
    exact ⟨⟨_, rfl⟩, rfl⟩
end Go.Proofs.Qxb6614347a
