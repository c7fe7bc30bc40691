/-
  DERIVED. GIVEN WITH THE SEED: THE CARDS: each row of YbulkcwvsFmtRows.lean that lists a variable, with what it lists TIED to the program's text (the seventh form; the later family's looks); each row that meets fmt, with fmt's text TOLD by the authors' own Lean function (tested against real Go, not proved from fmt's source: count such statements apart). THE CARD IS WHAT COUNTS. Prove the row's statement (the work); the ties are given (YbulkcwvsFmtTie.lean); close each card by the builder's one call (the guide's Derived/Test/ToyasCard.lean, 'card_holds'). Laid BY PROGRAM, IN A SANDBOX (cutbox-door.mjs). By AI agents, Wed Nov 11 2026. No macro, syntax, notation, axiom, sorry.
-/
import Derived.Test.YbulkcwvsFmtRows
import GoSem.ClaimSeven
namespace Go.Proofs.YbulkcwvsFmt
namespace Rows

/-- THE TOLD AND TIED CARD OF 'memnet.LawS4919BNoDelay'. -/
def lawS4919BNoDelayCard : Claim7 := { stood := { row := lawS4919BNoDelayRow, standIns := [], harness := (true, "42aa7be63d8351b02033cbe0ab7626b63a1177e4100d0a13d5886cde851d248c"), looks := true }, told := true, laidByText := true, laidKinds := [.sentinel], laidTests := true, laidLooks := .later, goes := false }
def LawS4919BNoDelayToldSaid : Prop := Claim7.holds Ybaf.pinned (.plain (OpenSpec.ofChange lawS4919BNoDelaySpec)) lawS4919BNoDelayCard
/-- ITS FALSE NEIGHBOUR. Refute it at one input. -/
def LawS4919BNoDelayToldWrongFalsely : Prop := Claim7.holds Ybaf.pinned (.plain (OpenSpec.ofChange lawS4919BNoDelayWrong)) lawS4919BNoDelayCard

/-- THE TOLD CARD OF 'peer.LawS4919CNames'. -/
def lawS4919CNamesCard : Claim7 := { stood := { row := lawS4919CNamesRow, standIns := [], harness := (true, "42aa7be63d8351b02033cbe0ab7626b63a1177e4100d0a13d5886cde851d248c"), looks := true }, told := true, goes := false }
def LawS4919CNamesToldSaid : Prop := Claim7.holds Ybaf.pinned (.plain (OpenSpec.ofChange lawS4919CNamesSpec)) lawS4919CNamesCard
/-- ITS FALSE NEIGHBOUR. Refute it at one input. -/
def LawS4919CNamesToldWrongFalsely : Prop := Claim7.holds Ybaf.pinned (.plain (OpenSpec.ofChange lawS4919CNamesWrong)) lawS4919CNamesCard

/-- THE TOLD CARD OF 'peer.LawS4919CRaw'. -/
def lawS4919CRawCard : Claim7 := { stood := { row := lawS4919CRawRow, standIns := [], harness := (true, "42aa7be63d8351b02033cbe0ab7626b63a1177e4100d0a13d5886cde851d248c"), looks := true }, told := true, goes := false }
def LawS4919CRawToldSaid : Prop := Claim7.holds Ybaf.pinned (.plain (OpenSpec.ofChange lawS4919CRawSpec)) lawS4919CRawCard
/-- ITS FALSE NEIGHBOUR. Refute it at one input. -/
def LawS4919CRawToldWrongFalsely : Prop := Claim7.holds Ybaf.pinned (.plain (OpenSpec.ofChange lawS4919CRawWrong)) lawS4919CRawCard
end Rows
end Go.Proofs.YbulkcwvsFmt
