/-
  No cell of these rows narrows 'for every input' (looked for: loops, veiled, ifaces, maps, wideKeys, modest, calm, conditions, laid).
  DERIVED. THE GIVEN ROWS OF THIS SEAT. 2 by the template 'for every input the law returns true; each argument reads behind the call as it read before'; 0 by the template 'total and deterministic' (their statements: YbulkcwuqTotals.lean).
  GIVEN WITH THE SEED: the statements are not yours to turn. If you find one false, say at which input.
  Laid BY PROGRAM, IN A SANDBOX (cutbox-rows.mjs): the forced cells as the released guide's own fill.sh prints them over the translation de88f9f40da1a77c… (all of the seat's roots in one cut). By AI agents, Wed Nov 11 2026. No macro, syntax, notation, axiom, sorry.
-/
import Derived.Test.YbulkcwuqChecked
import GoSem.Claim
import GoSem.ClaimJoined
import GoSem.ClaimMapViews
import Derived.JoinedTies
import Derived.KernelRfl
namespace Go.Proofs.Ybulkcwuq
/- THE CELL 'sum', in the pinned program and in every row, IS THE sha256 OF THE DUMP (.gsa) THAT YbulkcwuqProg.lean LOADS. Nothing in Lean hashes anything: it is a label: what it is worth is what the hold of that sum in a sandbox is worth. -/
noncomputable def Yba.pinned : Pinned := { name := "ybulkcwuq", sum := "de88f9f40da1a77c645d3c543446202c510227206a9ef06eb824c8cad40abdc2", checked := Yba.checked }
namespace Rows
def none {H : Type} : Left H := { results := [], args := [] }

/-- 'server.LawS4917AModel': WHATEVER THE INPUT: true; the input reads as it did. -/
def lawS4917AModelSpec : ChangeSpec := { name := "lawS4917AModel", fn := fun _ => fun
  | [d1, d2] => { results := [.lit (.bool true)], args := [d1, d2] }
  | _ => none }
def lawS4917AModelRow : OpenClaim := { program := "ybulkcwuq", sum := "de88f9f40da1a77c645d3c543446202c510227206a9ef06eb824c8cad40abdc2", func := "example.com/stowage/stowage/internal/server.LawS4917AModel", spec := "lawS4917AModel", apart := false }
def LawS4917AModelSaid : Prop := lawS4917AModelRow.holds Yba.pinned (OpenSpec.ofChange lawS4917AModelSpec)

/-- ITS FALSE NEIGHBOUR: 'it returns false'. Refute it at one input. -/
def lawS4917AModelWrong : ChangeSpec := { name := "lawS4917AModel", fn := fun _ => fun
  | [d1, d2] => { results := [.lit (.bool false)], args := [d1, d2] }
  | _ => none }
def LawS4917AModelWrongFalsely : Prop := lawS4917AModelRow.holds Yba.pinned (OpenSpec.ofChange lawS4917AModelWrong)

/-- 'server.LawS4917ABuilt': WHATEVER THE INPUT: true; the input reads as it did. -/
def lawS4917ABuiltSpec : ChangeSpec := { name := "lawS4917ABuilt", fn := fun _ => fun
  | [d1, d2, d3] => { results := [.lit (.bool true)], args := [d1, d2, d3] }
  | _ => none }
def lawS4917ABuiltRow : OpenClaim := { program := "ybulkcwuq", sum := "de88f9f40da1a77c645d3c543446202c510227206a9ef06eb824c8cad40abdc2", func := "example.com/stowage/stowage/internal/server.LawS4917ABuilt", spec := "lawS4917ABuilt", apart := false }
def LawS4917ABuiltSaid : Prop := lawS4917ABuiltRow.holds Yba.pinned (OpenSpec.ofChange lawS4917ABuiltSpec)

/-- ITS FALSE NEIGHBOUR: 'it returns false'. Refute it at one input. -/
def lawS4917ABuiltWrong : ChangeSpec := { name := "lawS4917ABuilt", fn := fun _ => fun
  | [d1, d2, d3] => { results := [.lit (.bool false)], args := [d1, d2, d3] }
  | _ => none }
def LawS4917ABuiltWrongFalsely : Prop := lawS4917ABuiltRow.holds Yba.pinned (OpenSpec.ofChange lawS4917ABuiltWrong)

end Rows
end Go.Proofs.Ybulkcwuq
