/-
  DERIVED. GIVEN WITH THE SEED: THE CARDS: each row of YbulkcwtaDoorRows.lean that lists a variable, with what it lists TIED to the program's text (the seventh form; the later family's looks); each row that meets fmt, with fmt's text TOLD by the authors' own Lean function (tested against real Go, not proved from fmt's source: count such statements apart). THE CARD IS WHAT COUNTS. Prove the row's statement (the work); the ties are given (YbulkcwtaDoorTie.lean); close each card by the builder's one call (the guide's Derived/Test/ToyasCard.lean, 'card_holds'). Laid BY PROGRAM, IN A SANDBOX (cutbox-door.mjs). By AI agents, Wed Nov 11 2026. No macro, syntax, notation, axiom, sorry.
-/
import Derived.Test.YbulkcwtaDoorRows
import GoSem.ClaimSeven
namespace Go.Proofs.YbulkcwtaDoor
namespace Rows

/-- THE TIED CARD OF 'asdu.LawS4914AHeader'. -/
def lawS4914AHeaderCard : Claim7 := { stood := { row := lawS4914AHeaderRow, standIns := [], harness := (true, "4c05b2b36e8c01c127c0158939d1c7b54f9b4506d6bc5caaf34f20f6aa34aa22"), looks := false }, kinds := [], alts := [], laidByText := true, laidKinds := [.data, .data, .data], laidTests := true, laidLooks := .later }
def LawS4914AHeaderCardSaid : Prop := Claim7.holds Ybad.pinned (.plain (OpenSpec.ofChange lawS4914AHeaderSpec)) lawS4914AHeaderCard
end Rows
end Go.Proofs.YbulkcwtaDoor
