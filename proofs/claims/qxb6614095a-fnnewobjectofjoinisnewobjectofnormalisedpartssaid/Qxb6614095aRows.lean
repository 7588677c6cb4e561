/-
  No cell of these rows narrows 'for every input' (looked for: loops, veiled, ifaces, maps, wideKeys, modest, calm, conditions, laid).
  DERIVED. THE GIVEN ROWS OF THIS SEAT. 2 by the template 'for every input the law returns true; each argument reads behind the call as it read before'; 0 by the template 'total and deterministic' (their statements: Qxb6614095aTotals.lean).
  GIVEN WITH THE SEED: the statements are not yours to turn. If you find one false, say at which input.
  Laid BY PROGRAM, IN A SANDBOX (cutbox-rows.mjs): the forced cells as the released guide's own fill.sh prints them over the translation 7a88c9003dedfce4… (all of the seat's roots in one cut). By AI agents, Wed Nov 11 2026. No macro, syntax, notation, axiom, sorry.
-/
import Derived.Test.Qxb6614095aChecked
import GoSem.Claim
import GoSem.ClaimJoined
import GoSem.ClaimMapViews
import Derived.JoinedTies
import Derived.KernelRfl
namespace Go.Proofs.Qxb6614095a
/- THE CELL 'sum', in the pinned program and in every row, IS THE sha256 OF THE DUMP (.gsa) THAT Qxb6614095aProg.lean LOADS. Nothing in Lean hashes anything: it is a label: what it is worth is what the hold of that sum in a sandbox is worth. -/
noncomputable def Try.pinned : Pinned := { name := "qxb6614095a", sum := "7a88c9003dedfce4417fa343fa94577c557308046ff915fa55746a2510725a98", checked := Try.checked }
namespace Rows
def none {H : Type} : Left H := { results := [], args := [] }

/-- 'zzlaws_internal_jsonval_b1.FnNewObjectSortsKeepsLastAndClearsTail': WHATEVER THE INPUT: true; the input reads as it did. -/
def fnNewObjectSortsKeepsLastAndClearsTailSpec : ChangeSpec := { name := "fnNewObjectSortsKeepsLastAndClearsTail", fn := fun _ => fun
  | [d1, d2] => { results := [.lit (.bool true)], args := [d1, d2] }
  | _ => none }
def fnNewObjectSortsKeepsLastAndClearsTailRow : OpenClaim := { program := "qxb6614095a", sum := "7a88c9003dedfce4417fa343fa94577c557308046ff915fa55746a2510725a98", func := "example.com/chorale/chorale/zzlaws_internal_jsonval_b1.FnNewObjectSortsKeepsLastAndClearsTail", spec := "fnNewObjectSortsKeepsLastAndClearsTail", unfollowed := true, recurses := true, apart := false }
def FnNewObjectSortsKeepsLastAndClearsTailSaid : Prop := fnNewObjectSortsKeepsLastAndClearsTailRow.holds Try.pinned (OpenSpec.ofChange fnNewObjectSortsKeepsLastAndClearsTailSpec)

/-- ITS FALSE NEIGHBOUR: 'it returns false'. Refute it at one input. -/
def fnNewObjectSortsKeepsLastAndClearsTailWrong : ChangeSpec := { name := "fnNewObjectSortsKeepsLastAndClearsTail", fn := fun _ => fun
  | [d1, d2] => { results := [.lit (.bool false)], args := [d1, d2] }
  | _ => none }
def FnNewObjectSortsKeepsLastAndClearsTailWrongFalsely : Prop := fnNewObjectSortsKeepsLastAndClearsTailRow.holds Try.pinned (OpenSpec.ofChange fnNewObjectSortsKeepsLastAndClearsTailWrong)

/-- 'zzlaws_internal_jsonval_b1.FnNewObjectOfJoinIsNewObjectOfNormalisedParts': WHATEVER THE INPUT: true; the input reads as it did. -/
def fnNewObjectOfJoinIsNewObjectOfNormalisedPartsSpec : ChangeSpec := { name := "fnNewObjectOfJoinIsNewObjectOfNormalisedParts", fn := fun _ => fun
  | [d1, d2, d3, d4] => { results := [.lit (.bool true)], args := [d1, d2, d3, d4] }
  | _ => none }
def fnNewObjectOfJoinIsNewObjectOfNormalisedPartsRow : OpenClaim := { program := "qxb6614095a", sum := "7a88c9003dedfce4417fa343fa94577c557308046ff915fa55746a2510725a98", func := "example.com/chorale/chorale/zzlaws_internal_jsonval_b1.FnNewObjectOfJoinIsNewObjectOfNormalisedParts", spec := "fnNewObjectOfJoinIsNewObjectOfNormalisedParts", unfollowed := true, recurses := true, apart := false }
def FnNewObjectOfJoinIsNewObjectOfNormalisedPartsSaid : Prop := fnNewObjectOfJoinIsNewObjectOfNormalisedPartsRow.holds Try.pinned (OpenSpec.ofChange fnNewObjectOfJoinIsNewObjectOfNormalisedPartsSpec)

/-- ITS FALSE NEIGHBOUR: 'it returns false'. Refute it at one input. -/
def fnNewObjectOfJoinIsNewObjectOfNormalisedPartsWrong : ChangeSpec := { name := "fnNewObjectOfJoinIsNewObjectOfNormalisedParts", fn := fun _ => fun
  | [d1, d2, d3, d4] => { results := [.lit (.bool false)], args := [d1, d2, d3, d4] }
  | _ => none }
def FnNewObjectOfJoinIsNewObjectOfNormalisedPartsWrongFalsely : Prop := fnNewObjectOfJoinIsNewObjectOfNormalisedPartsRow.holds Try.pinned (OpenSpec.ofChange fnNewObjectOfJoinIsNewObjectOfNormalisedPartsWrong)

end Rows
end Go.Proofs.Qxb6614095a
