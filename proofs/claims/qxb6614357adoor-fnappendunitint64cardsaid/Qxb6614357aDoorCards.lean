/-
  DERIVED. GIVEN WITH THE SEED: THE CARDS: each row of Qxb6614357aDoorRows.lean that lists a variable, with what it lists TIED to the program's text (the seventh form; the later family's looks); each row that meets fmt, with fmt's text TOLD by the authors' own Lean function (tested against real Go, not proved from fmt's source: count such statements apart). THE CARD IS WHAT COUNTS. Prove the row's statement (the work); the ties are given (Qxb6614357aDoorTie.lean); close each card by the builder's one call (the guide's Derived/Test/ToyasCard.lean, 'card_holds'). Laid BY PROGRAM, IN A SANDBOX (cutbox-door.mjs). By AI agents, Wed Nov 11 2026. No macro, syntax, notation, axiom, sorry.
-/
import Derived.Test.Qxb6614357aDoorRows
import GoSem.ClaimSeven
namespace Go.Proofs.Qxb6614357aDoor
namespace Rows

/-- THE TIED CARD OF 'zzlaws_root_b1.FnAppendUnitInt64'. -/
def fnAppendUnitInt64Card : Claim7 := { stood := { row := fnAppendUnitInt64Row, standIns := [], harness := (true, "c322ab980cc61c6bb62b07549248ab7bba0c4a981ef4d76ba0c39beed28dee5c"), looks := true }, kinds := [], alts := [], laidByText := true, laidKinds := [.data, .data, .data], laidTests := true, laidLooks := .later }
def FnAppendUnitInt64CardSaid : Prop := Claim7.holds Tryd.pinned (.plain (OpenSpec.ofChange fnAppendUnitInt64Spec)) fnAppendUnitInt64Card

/-- THE TIED CARD OF 'zzlaws_root_b1.FnAppendUnitFloat64'. -/
def fnAppendUnitFloat64Card : Claim7 := { stood := { row := fnAppendUnitFloat64Row, standIns := [], harness := (true, "c322ab980cc61c6bb62b07549248ab7bba0c4a981ef4d76ba0c39beed28dee5c"), looks := true }, kinds := [], alts := [], laidByText := true, laidKinds := [.data, .data, .data], laidTests := true, laidLooks := .later }
def FnAppendUnitFloat64CardSaid : Prop := Claim7.holds Tryd.pinned (.plain (OpenSpec.ofChange fnAppendUnitFloat64Spec)) fnAppendUnitFloat64Card
end Rows
end Go.Proofs.Qxb6614357aDoor
