/-
  No cell of these rows narrows 'for every input' (looked for: loops, veiled, ifaces, maps, wideKeys, modest, calm, conditions, laid).
  DERIVED. THE GIVEN ROWS OF THIS SEAT. 3 by the template 'for every input the law returns true; each argument reads behind the call as it read before'; 0 by the template 'total and deterministic' (their statements: YbulkcwtaTotals.lean).
  GIVEN WITH THE SEED: the statements are not yours to turn. If you find one false, say at which input.
  Laid BY PROGRAM, IN A SANDBOX (cutbox-rows.mjs): the forced cells as the released guide's own fill.sh prints them over the translation 278b413b5d05caf0… (all of the seat's roots in one cut). By AI agents, Wed Nov 11 2026. No macro, syntax, notation, axiom, sorry.
-/
import Derived.Test.YbulkcwtaChecked
import GoSem.Claim
import GoSem.ClaimJoined
import GoSem.ClaimMapViews
import Derived.JoinedTies
import Derived.KernelRfl
namespace Go.Proofs.Ybulkcwta
/- THE CELL 'sum', in the pinned program and in every row, IS THE sha256 OF THE DUMP (.gsa) THAT YbulkcwtaProg.lean LOADS. Nothing in Lean hashes anything: it is a label: what it is worth is what the hold of that sum in a sandbox is worth. -/
noncomputable def Yba.pinned : Pinned := { name := "ybulkcwta", sum := "278b413b5d05caf055a3eaffc65e8cfcad45a5e5490ac391bd332d5d1d57f1eb", checked := Yba.checked }
namespace Rows
def none {H : Type} : Left H := { results := [], args := [] }

/-- 'asdu.LawS4914BExact': WHATEVER THE INPUT: true; the input reads as it did. -/
def lawS4914BExactSpec : ChangeSpec := { name := "lawS4914BExact", fn := fun _ => fun
  | [d1, d2] => { results := [.lit (.bool true)], args := [d1, d2] }
  | _ => none }
def lawS4914BExactRow : OpenClaim := { program := "ybulkcwta", sum := "278b413b5d05caf055a3eaffc65e8cfcad45a5e5490ac391bd332d5d1d57f1eb", func := "example.com/gridwire/gridwire/asdu.LawS4914BExact", spec := "lawS4914BExact", apart := false }
def LawS4914BExactSaid : Prop := lawS4914BExactRow.holds Yba.pinned (OpenSpec.ofChange lawS4914BExactSpec)

/-- ITS FALSE NEIGHBOUR: 'it returns false'. Refute it at one input. -/
def lawS4914BExactWrong : ChangeSpec := { name := "lawS4914BExact", fn := fun _ => fun
  | [d1, d2] => { results := [.lit (.bool false)], args := [d1, d2] }
  | _ => none }
def LawS4914BExactWrongFalsely : Prop := lawS4914BExactRow.holds Yba.pinned (OpenSpec.ofChange lawS4914BExactWrong)

/-- 'asdu.LawS4914CModel': WHATEVER THE INPUT: true; the input reads as it did. -/
def lawS4914CModelSpec : ChangeSpec := { name := "lawS4914CModel", fn := fun _ => fun
  | [d1, d2] => { results := [.lit (.bool true)], args := [d1, d2] }
  | _ => none }
def lawS4914CModelRow : OpenClaim := { program := "ybulkcwta", sum := "278b413b5d05caf055a3eaffc65e8cfcad45a5e5490ac391bd332d5d1d57f1eb", func := "example.com/gridwire/gridwire/asdu.LawS4914CModel", spec := "lawS4914CModel", apart := false }
def LawS4914CModelSaid : Prop := lawS4914CModelRow.holds Yba.pinned (OpenSpec.ofChange lawS4914CModelSpec)

/-- ITS FALSE NEIGHBOUR: 'it returns false'. Refute it at one input. -/
def lawS4914CModelWrong : ChangeSpec := { name := "lawS4914CModel", fn := fun _ => fun
  | [d1, d2] => { results := [.lit (.bool false)], args := [d1, d2] }
  | _ => none }
def LawS4914CModelWrongFalsely : Prop := lawS4914CModelRow.holds Yba.pinned (OpenSpec.ofChange lawS4914CModelWrong)

/-- 'asdu.LawS4914CPicked': WHATEVER THE INPUT: true; the input reads as it did. -/
def lawS4914CPickedSpec : ChangeSpec := { name := "lawS4914CPicked", fn := fun _ => fun
  | [d1, d2, d3] => { results := [.lit (.bool true)], args := [d1, d2, d3] }
  | _ => none }
def lawS4914CPickedRow : OpenClaim := { program := "ybulkcwta", sum := "278b413b5d05caf055a3eaffc65e8cfcad45a5e5490ac391bd332d5d1d57f1eb", func := "example.com/gridwire/gridwire/asdu.LawS4914CPicked", spec := "lawS4914CPicked", apart := false }
def LawS4914CPickedSaid : Prop := lawS4914CPickedRow.holds Yba.pinned (OpenSpec.ofChange lawS4914CPickedSpec)

/-- ITS FALSE NEIGHBOUR: 'it returns false'. Refute it at one input. -/
def lawS4914CPickedWrong : ChangeSpec := { name := "lawS4914CPicked", fn := fun _ => fun
  | [d1, d2, d3] => { results := [.lit (.bool false)], args := [d1, d2, d3] }
  | _ => none }
def LawS4914CPickedWrongFalsely : Prop := lawS4914CPickedRow.holds Yba.pinned (OpenSpec.ofChange lawS4914CPickedWrong)

end Rows
end Go.Proofs.Ybulkcwta
