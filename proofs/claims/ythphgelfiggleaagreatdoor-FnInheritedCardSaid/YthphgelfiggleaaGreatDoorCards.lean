/-
  DERIVED. GIVEN WITH THE SEED: THE CARDS: each row of YthphgelfiggleaaGreatDoorRows.lean that lists a variable, with what it lists TIED to the program's text (the seventh form; the later family's looks); each row that meets fmt, with fmt's text TOLD by the authors' own Lean function (tested against real Go, not proved from fmt's source: count such statements apart). THE CARD IS WHAT COUNTS. Prove the row's statement (the work); the ties are given (YthphgelfiggleaaGreatDoorTie.lean); close each card by the builder's one call (the guide's Derived/Test/ToyasCard.lean, 'card_holds'). Laid BY PROGRAM, IN A SANDBOX (cutbox-door.mjs). By AI agents, Wed Nov 11 2026. No macro, syntax, notation, axiom, sorry.
-/
import Derived.Test.YthphgelfiggleaaGreatDoorRows
import GoSem.ClaimSeven
namespace Go.Proofs.YthphgelfiggleaaGreatDoor
namespace Rows

/-- THE TIED CARD OF 'laws.FnInherited'. -/
def fnInheritedCard : Claim7 := { stood := { row := fnInheritedRow, standIns := [], harness := (true, "f0ea244d2da07954b3763c108a599f2f4cf0d62dea02cdddecec9ec4e67a7b5e"), looks := false }, kinds := [], alts := [], laidByText := true, laidKinds := [.data, .data, .pinned, .pinned], laidTests := true, laidLooks := .later }
def FnInheritedCardSaid : Prop := Claim7.holds Tryz.pinned (.plain (OpenSpec.ofChange fnInheritedSpec)) fnInheritedCard

/-- THE SECOND FORM's CARD OF 'laws.FnInherited'. -/
def fnInheritedUptoCard : Claim7 := { stood := { row := fnInheritedUptoRow, standIns := [], harness := (true, "f0ea244d2da07954b3763c108a599f2f4cf0d62dea02cdddecec9ec4e67a7b5e"), looks := false }, kinds := [], alts := [], laidByText := true, laidKinds := [.data, .data, .pinned, .pinned], laidTests := true, laidLooks := .later }
def FnInheritedUptoCardSaid : Prop := Claim7.holds Tryz.pinned (.plain (OpenSpec.upto fnInheritedSpec)) fnInheritedUptoCard
end Rows
end Go.Proofs.YthphgelfiggleaaGreatDoor
