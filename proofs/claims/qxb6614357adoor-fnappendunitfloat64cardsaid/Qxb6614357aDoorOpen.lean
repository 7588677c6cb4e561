/-
  Seat b6614357aD: the bytes that came in, opened for the walks; the table of powers, out of the row's condition.
-/
import Derived.Test.Qxb6614357aDoorBytes
import Derived.ProofKit
import Derived.OpenShut
import Derived.ChangeOld
import Derived.ChangeSlices
import Derived.Below
import Derived.LaidMore
import Derived.Lay
import Derived.Stop.LaidErr
import Derived.Laws.Cover2
namespace Go.Proofs.Qxb6614357aDoor
open Go.ChangeShapes Go.WideShapes Go.ChangeAt Go.RowKit

theorem own : ownKnob Tryd.prog.godebug = none := by kernel_rfl
theorem laidOut : laidOutB Tryd.prog = true := by kernel_rfl
theorem cells5 : Tryd.prog.cellsOf 5 = 1 := by kernel_rfl

theorem bytes_opened {H : Type} {enc : TypeId × Value → H} {W : World} {a : Option Addr} {len cap : Nat} {d : DataW H} {ps : List MemPlace}
    (h : DataW.Trod enc Tryd.prog W 0 (fun _ => true) true 22 (.slice a len cap) d ps) : len ≤ maxLen ∧ ∃ zs, IsBytes W (.slice a len cap) len zs := by
  obtain ⟨fuel, hf⟩ := h
  rcases open_ints Tryd.underlying22 Tryd.underlying5 cells5 hf with ⟨hcs, _⟩ | ⟨x, l, c, zs, hcs, _, hl, hm, hlen, _, hcell, _⟩
  · simp [Value.cells] at hcs
    obtain ⟨rfl, rfl, rfl⟩ := hcs
    exact ⟨Nat.zero_le _, [], rfl, Nat.zero_le _, .inl ⟨rfl, rfl⟩⟩
  · simp [Value.cells] at hcs
    obtain ⟨rfl, rfl, rfl⟩ := hcs
    have hlen' : zs.length = cap := by simpa using hlen
    refine ⟨by omega, zs.take len, by rw [List.length_take]; omega, by omega, .inr ⟨x, cap, rfl, fun j z hj => ?_⟩⟩
    have hjl : j < len := by
      have := (List.getElem?_eq_some_iff.1 hj).1
      rw [List.length_take] at this; omega
    rw [List.getElem?_take, if_pos hjl] at hj
    rw [hcell j (by omega)]
    simp [List.getD, hj]

/-- The three listed variables. -/
def laidList : List (String × DataW Unit) := Rows.fnAppendUnitFloat64Row.laid
theorem gT : Tryd.prog.globalNamed pow10Name = some 1 := by kernel_rfl
theorem pow_laid {W : World} (h : laidMetH Tryd.prog laidList W) : Lib.TabIs Tryd.prog W pow10Name .u64 Lib.pow10Tab := by
  rw [MakeChecks.laidMetH_plain _ _ _ (by kernel_rfl)] at h
  have h1 : laidMet Tryd.prog ((_, Rows.laid_math_bits_deBruijn32tab) :: (_, Rows.laid_math_bits_deBruijn64tab) :: (pow10Name, Lib.tabData .u64 Lib.pow10Tab) :: []) W := h
  have h2 : laidMet Tryd.prog ((pow10Name, Lib.tabData .u64 Lib.pow10Tab) :: []) W := h1.tail.tail
  exact Lib.tabIs_of_head gT (t := 77) (e := 34) (n := 20) (by kernel_rfl) (by kernel_rfl) (by kernel_rfl) (by kernel_rfl) (by kernel_rfl) h2
end Go.Proofs.Qxb6614357aDoor
