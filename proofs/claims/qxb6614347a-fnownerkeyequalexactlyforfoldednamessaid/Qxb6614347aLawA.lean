/-
  The law FnOwnerKeyEqualExactlyForFoldedNames walked.
-/
import Derived.Test.Qxb6614347aNames
namespace Go.Proofs.Qxb6614347a
open Go.RowKit

set_option maxHeartbeats 1000000 in
theorem equal_calls (x y : ByteArray) (w : World) :
    Calls Try.prog 3 #[.string x, .string y] w fun e w' => e = .returned (.bool true) ∧ Below w.heap.size w w' := by
  by_cases h1 : x.size ≤ 65536
  · by_cases h2 : y.size ≤ 65536
    · have g1 : decide ((65536 : Int) < x.size) = false := decide_eq_false (by omega)
      have g2 : decide ((65536 : Int) < y.size) = false := decide_eq_false (by omega)
      have H : Hid (same x y = ((okey x).toList == (okey y).toList)) := rfl
      go_enter Try.func3, Try.ntmps3
      go_wp2_with fail
      refine (zzBytesA_calls x y w).mono ?_
      rintro e w1 ⟨⟨b', rfl⟩, rfl⟩
      cases b' with
      | false =>
        go_wp2
        go_ret
        exact ⟨rfl, Below.refl _ _⟩
      | true =>
        go_wp2_with fail
        refine (zzOwnerKey_calls x w1 (by omega)).mono ?_
        rintro e w2 ⟨rfl, hb2⟩
        go_wp2_with fail
        refine (zzOwnerKey_calls y w2 (by omega)).mono ?_
        rintro e w3 ⟨rfl, hb3⟩
        go_wp2_with fail
        refine (names_calls x y w3 h1 h2).mono ?_
        rintro e w4 ⟨rfl, rfl⟩
        go_wp2
        go_ret
        refine ⟨congrArg (fun b => Ending.returned (.bool b)) ?_, hb2.trans (hb3.mono hb2.size)⟩
        show (((okey x).toList == (okey y).toList) == same x y) = true
        rw [H.out]
        exact beq_self_eq_true _
    · have g1 : decide ((65536 : Int) < x.size) = false := decide_eq_false (by omega)
      have g2 : decide ((65536 : Int) < y.size) = true := decide_eq_true (by omega)
      have g2' : (65536 : Int) < y.size := by omega
      go_enter Try.func3, Try.ntmps3
      go_wp2_with fail
      refine (zzBytesA_calls x y w).mono ?_
      rintro e w1 ⟨⟨b', rfl⟩, rfl⟩
      cases b' with
      | false =>
        go_wp2
        go_ret
        exact ⟨rfl, Below.refl _ _⟩
      | true =>
        go_wp2
        go_ret
        exact ⟨rfl, Below.refl _ _⟩
  · have g1 : (65536 : Int) < x.size := by omega
    go_enter Try.func3, Try.ntmps3
    go_wp2_with fail
    refine (zzBytesA_calls x y w).mono ?_
    rintro e w1 ⟨⟨b', rfl⟩, rfl⟩
    cases b' with
    | false =>
      go_wp2
      go_ret
      exact ⟨rfl, Below.refl _ _⟩
    | true =>
      go_wp2
      go_ret
      exact ⟨rfl, Below.refl _ _⟩
end Go.Proofs.Qxb6614347a
