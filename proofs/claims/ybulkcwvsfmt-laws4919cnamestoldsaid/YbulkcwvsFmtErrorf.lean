/-
  fmt.Errorf at the one format of shortOf: it hands back an error that is not nil; what its text is, is left open. The closed facts on the stop, after the guide's IpowFmt.
-/
import Derived.Test.YbulkcwvsFmtRows
import Derived.Stop.CallBack
import Derived.Stop.IfaceNil
import Derived.WalkKit
import Derived.ProofKit
import Derived.Below
import Derived.WalkSpells
namespace Go.Proofs.YbulkcwvsFmt
open Go.Extern.Stop Go.Stop Go.Extern
open Go.RowKit

theorem call31 (args : Array Value) (w : World) : (callFunc 31 args).run Ybaf.prog w = ((FmtStop.errorf #[9, 123] #[31] args).run Ybaf.prog w).andThen fun v w' => .ok (.value v) w' :=
  run_callFunc_extern Ybaf.func31 (by kernel_rfl) (by kernel_rfl) (by kernel_rfl) (by kernel_rfl) args w
theorem guard31 (name : String) (w : World) : (FmtStop.guard name).run Ybaf.prog w = .ok () w := by kernel_rfl
theorem fmt0r (w : World) : (FmtDoors.printed ⟨#[37, 100, 32, 111, 102, 32, 116, 104, 101, 32, 37, 100, 32, 109, 101, 109, 98, 101, 114, 115, 32, 111, 102, 32, 116, 104, 101, 32, 103, 114, 111, 117, 112, 32, 37, 115, 32, 116, 111, 108, 100, 44, 32, 37, 100, 32, 110, 101, 101, 100, 101, 100]⟩ 4).run Ybaf.prog w = .ok [(0, 100, false), (1, 100, false), (2, 115, false), (3, 100, false)] w := by kernel_rfl
def shape3 : List UInt8 := [5, 3, 0, 0, 0, 0, 0, 0, 0, 105, 110, 116]
def shape9 : List UInt8 := [12, 6, 0, 0, 0, 0, 0, 0, 0, 115, 116, 114, 105, 110, 103]
theorem op3 (name : String) (x : Int) (w : World) : (FmtStop.operand name true 100 false (.iface 3 (.int .i64 x))).run Ybaf.prog w = .ok (shape3, Go.Extern.Stop.digits 8 (x % 2 ^ 64).toNat) w := by kernel_rfl
theorem op9 (name : String) (x : ByteArray) (w : World) : (FmtStop.operand name true 115 false (.iface 9 (.string x))).run Ybaf.prog w = .ok (shape9, FmtStop.pack x.data.toList) w := by kernel_rfl
theorem ptr148 (w : World) : (FmtStop.ptrTo "errors.errorString").run Ybaf.prog w = .ok 148 w := by kernel_rfl
theorem elem148 (w : World) : (elemOf 148).run Ybaf.prog w = .ok 150 w := by kernel_rfl
attribute [local go_sem] call31 guard31 fmt0r op3 op9 ptr148 elem148

set_option maxHeartbeats 1000000 in
theorem errorf_any (F : Interp) (x y z : Int) (s : ByteArray) (blk : Nat) (w : World) (hF : F.answers w.tape)
    (hc0 : w.cell? ⟨blk, 0, none⟩ = some (.iface 3 (.int .i64 x))) (hc1 : w.cell? ⟨blk, 1, none⟩ = some (.iface 3 (.int .i64 y))) (hc2 : w.cell? ⟨blk, 2, none⟩ = some (.iface 9 (.string s))) (hc3 : w.cell? ⟨blk, 3, none⟩ = some (.iface 3 (.int .i64 z))) :
    Calls Ybaf.prog 18 #[.string ⟨#[37, 100, 32, 111, 102, 32, 116, 104, 101, 32, 37, 100, 32, 109, 101, 109, 98, 101, 114, 115, 32, 111, 102, 32, 116, 104, 101, 32, 103, 114, 111, 117, 112, 32, 37, 115, 32, 116, 111, 108, 100, 44, 32, 37, 100, 32, 110, 101, 101, 100, 101, 100]⟩, .slice (some ⟨blk, 0, none⟩) 4 4] w fun e w' =>
      e = .returned (.iface 148 (.pointer (some ⟨w.heap.size, 0, none⟩))) ∧ Below w.heap.size w w' := by
  have hF' := answers_open hF
  go_enter Ybaf.func18, Ybaf.ntmps18
  go_wp2
  go_ret
  exact ⟨rfl, ((Below.refl _ _).alloc (Nat.le_refl _) _).drew⟩
end Go.Proofs.YbulkcwvsFmt
