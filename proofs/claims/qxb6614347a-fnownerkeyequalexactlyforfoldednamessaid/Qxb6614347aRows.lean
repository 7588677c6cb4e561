/-
  No cell of these rows narrows 'for every input' (looked for: loops, veiled, ifaces, maps, wideKeys, modest, calm, conditions, laid).
  DERIVED. THE GIVEN ROWS OF THIS SEAT. 2 by the template 'for every input the law returns true; each argument reads behind the call as it read before'; 0 by the template 'total and deterministic' (their statements: Qxb6614347aTotals.lean).
  GIVEN WITH THE SEED: the statements are not yours to turn. If you find one false, say at which input.
  Laid BY PROGRAM, IN A SANDBOX (cutbox-rows.mjs): the forced cells as the released guide's own fill.sh prints them over the translation 738cc3f33fe63c85… (all of the seat's roots in one cut). By AI agents, Wed Nov 11 2026. No macro, syntax, notation, axiom, sorry.
-/
import Derived.Test.Qxb6614347aChecked
import GoSem.Claim
import GoSem.ClaimJoined
import GoSem.ClaimMapViews
import Derived.JoinedTies
import Derived.KernelRfl
namespace Go.Proofs.Qxb6614347a
/- THE CELL 'sum', in the pinned program and in every row, IS THE sha256 OF THE DUMP (.gsa) THAT Qxb6614347aProg.lean LOADS. Nothing in Lean hashes anything: it is a label: what it is worth is what the hold of that sum in a sandbox is worth. -/
noncomputable def Try.pinned : Pinned := { name := "qxb6614347a", sum := "738cc3f33fe63c851e8ce5ea55ba27210e61f1004957b999d8f955815de174c3", checked := Try.checked }
namespace Rows
def none {H : Type} : Left H := { results := [], args := [] }

/-- 'zzlaws_root_b1.FnOwnerKeyEqualExactlyForFoldedNames': WHATEVER THE INPUT: true; the input reads as it did. -/
def fnOwnerKeyEqualExactlyForFoldedNamesSpec : ChangeSpec := { name := "fnOwnerKeyEqualExactlyForFoldedNames", fn := fun _ => fun
  | [d1, d2] => { results := [.lit (.bool true)], args := [d1, d2] }
  | _ => none }
def fnOwnerKeyEqualExactlyForFoldedNamesRow : OpenClaim := { program := "qxb6614347a", sum := "738cc3f33fe63c851e8ce5ea55ba27210e61f1004957b999d8f955815de174c3", func := "example.com/sealwax/sealwax/zzlaws_root_b1.FnOwnerKeyEqualExactlyForFoldedNames", spec := "fnOwnerKeyEqualExactlyForFoldedNames", apart := false }
def FnOwnerKeyEqualExactlyForFoldedNamesSaid : Prop := fnOwnerKeyEqualExactlyForFoldedNamesRow.holds Try.pinned (OpenSpec.ofChange fnOwnerKeyEqualExactlyForFoldedNamesSpec)

/-- ITS FALSE NEIGHBOUR: 'it returns false'. Refute it at one input. -/
def fnOwnerKeyEqualExactlyForFoldedNamesWrong : ChangeSpec := { name := "fnOwnerKeyEqualExactlyForFoldedNames", fn := fun _ => fun
  | [d1, d2] => { results := [.lit (.bool false)], args := [d1, d2] }
  | _ => none }
def FnOwnerKeyEqualExactlyForFoldedNamesWrongFalsely : Prop := fnOwnerKeyEqualExactlyForFoldedNamesRow.holds Try.pinned (OpenSpec.ofChange fnOwnerKeyEqualExactlyForFoldedNamesWrong)

/-- 'zzlaws_root_b1.FnOwnerKeySplitsAtAnyCut': WHATEVER THE INPUT: true; the input reads as it did. -/
def fnOwnerKeySplitsAtAnyCutSpec : ChangeSpec := { name := "fnOwnerKeySplitsAtAnyCut", fn := fun _ => fun
  | [d1, d2] => { results := [.lit (.bool true)], args := [d1, d2] }
  | _ => none }
def fnOwnerKeySplitsAtAnyCutRow : OpenClaim := { program := "qxb6614347a", sum := "738cc3f33fe63c851e8ce5ea55ba27210e61f1004957b999d8f955815de174c3", func := "example.com/sealwax/sealwax/zzlaws_root_b1.FnOwnerKeySplitsAtAnyCut", spec := "fnOwnerKeySplitsAtAnyCut", apart := false }
def FnOwnerKeySplitsAtAnyCutSaid : Prop := fnOwnerKeySplitsAtAnyCutRow.holds Try.pinned (OpenSpec.ofChange fnOwnerKeySplitsAtAnyCutSpec)

/-- ITS FALSE NEIGHBOUR: 'it returns false'. Refute it at one input. -/
def fnOwnerKeySplitsAtAnyCutWrong : ChangeSpec := { name := "fnOwnerKeySplitsAtAnyCut", fn := fun _ => fun
  | [d1, d2] => { results := [.lit (.bool false)], args := [d1, d2] }
  | _ => none }
def FnOwnerKeySplitsAtAnyCutWrongFalsely : Prop := fnOwnerKeySplitsAtAnyCutRow.holds Try.pinned (OpenSpec.ofChange fnOwnerKeySplitsAtAnyCutWrong)

end Rows
end Go.Proofs.Qxb6614347a
