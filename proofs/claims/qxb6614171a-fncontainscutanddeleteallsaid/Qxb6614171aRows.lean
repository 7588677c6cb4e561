/-
  No cell of these rows narrows 'for every input' (looked for: loops, veiled, ifaces, maps, wideKeys, modest, calm, conditions, laid).
  DERIVED. THE GIVEN ROWS OF THIS SEAT. 2 by the template 'for every input the law returns true; each argument reads behind the call as it read before'; 0 by the template 'total and deterministic' (their statements: Qxb6614171aTotals.lean).
  GIVEN WITH THE SEED: the statements are not yours to turn. If you find one false, say at which input.
  Laid BY PROGRAM, IN A SANDBOX (cutbox-rows.mjs): the forced cells as the released guide's own fill.sh prints them over the translation a8c81f75e2d3264f… (all of the seat's roots in one cut). By AI agents, Wed Nov 11 2026. No macro, syntax, notation, axiom, sorry.
-/
import Derived.Test.Qxb6614171aChecked
import GoSem.Claim
import GoSem.ClaimJoined
import GoSem.ClaimMapViews
import Derived.JoinedTies
import Derived.KernelRfl
namespace Go.Proofs.Qxb6614171a
/- THE CELL 'sum', in the pinned program and in every row, IS THE sha256 OF THE DUMP (.gsa) THAT Qxb6614171aProg.lean LOADS. Nothing in Lean hashes anything: it is a label: what it is worth is what the hold of that sum in a sandbox is worth. -/
noncomputable def Try.pinned : Pinned := { name := "qxb6614171a", sum := "a8c81f75e2d3264fd0b2f0a524c51447304ae5826c1fb69d77a3fdfa3eef5f09", checked := Try.checked }
namespace Rows
def none {H : Type} : Left H := { results := [], args := [] }

/-- 'zzlaws_internal_store_b1.FnContainsInsertAnywhere': WHATEVER THE INPUT: true; the input reads as it did. -/
def fnContainsInsertAnywhereSpec : ChangeSpec := { name := "fnContainsInsertAnywhere", fn := fun _ => fun
  | [d1, d2, d3, d4, d5] => { results := [.lit (.bool true)], args := [d1, d2, d3, d4, d5] }
  | _ => none }
def fnContainsInsertAnywhereRow : OpenClaim := { program := "qxb6614171a", sum := "a8c81f75e2d3264fd0b2f0a524c51447304ae5826c1fb69d77a3fdfa3eef5f09", func := "example.com/neti/neti/zzlaws_internal_store_b1.FnContainsInsertAnywhere", spec := "fnContainsInsertAnywhere", unfollowed := true, recurses := true, apart := false }
def FnContainsInsertAnywhereSaid : Prop := fnContainsInsertAnywhereRow.holds Try.pinned (OpenSpec.ofChange fnContainsInsertAnywhereSpec)

/-- ITS FALSE NEIGHBOUR: 'it returns false'. Refute it at one input. -/
def fnContainsInsertAnywhereWrong : ChangeSpec := { name := "fnContainsInsertAnywhere", fn := fun _ => fun
  | [d1, d2, d3, d4, d5] => { results := [.lit (.bool false)], args := [d1, d2, d3, d4, d5] }
  | _ => none }
def FnContainsInsertAnywhereWrongFalsely : Prop := fnContainsInsertAnywhereRow.holds Try.pinned (OpenSpec.ofChange fnContainsInsertAnywhereWrong)

/-- 'zzlaws_internal_store_b1.FnContainsCutAndDeleteAll': WHATEVER THE INPUT: true; the input reads as it did. -/
def fnContainsCutAndDeleteAllSpec : ChangeSpec := { name := "fnContainsCutAndDeleteAll", fn := fun _ => fun
  | [d1, d2, d3] => { results := [.lit (.bool true)], args := [d1, d2, d3] }
  | _ => none }
def fnContainsCutAndDeleteAllRow : OpenClaim := { program := "qxb6614171a", sum := "a8c81f75e2d3264fd0b2f0a524c51447304ae5826c1fb69d77a3fdfa3eef5f09", func := "example.com/neti/neti/zzlaws_internal_store_b1.FnContainsCutAndDeleteAll", spec := "fnContainsCutAndDeleteAll", unfollowed := true, recurses := true, apart := false }
def FnContainsCutAndDeleteAllSaid : Prop := fnContainsCutAndDeleteAllRow.holds Try.pinned (OpenSpec.ofChange fnContainsCutAndDeleteAllSpec)

/-- ITS FALSE NEIGHBOUR: 'it returns false'. Refute it at one input. -/
def fnContainsCutAndDeleteAllWrong : ChangeSpec := { name := "fnContainsCutAndDeleteAll", fn := fun _ => fun
  | [d1, d2, d3] => { results := [.lit (.bool false)], args := [d1, d2, d3] }
  | _ => none }
def FnContainsCutAndDeleteAllWrongFalsely : Prop := fnContainsCutAndDeleteAllRow.holds Try.pinned (OpenSpec.ofChange fnContainsCutAndDeleteAllWrong)

end Rows
end Go.Proofs.Qxb6614171a
