/-
  NARROWER THAN 'FOR EVERY INPUT', by the rows' own cells (each row's printed sentence says how): LawS4919BNoDelay: ifaces, laid.
  DERIVED. THE GIVEN ROWS OF THIS SEAT. 3 by the template 'for every input the law returns true; each argument reads behind the call as it read before'; 0 by the template 'total and deterministic' (their statements: YbulkcwvsFmtTotals.lean).
  GIVEN WITH THE SEED: the statements are not yours to turn. If you find one false, say at which input.
  Laid BY PROGRAM, IN A SANDBOX (cutbox-rows.mjs): the forced cells as the released guide's own fill.sh prints them over the translation 02c031169380dd0d… (all of the seat's roots in one cut). By AI agents, Wed Nov 11 2026. No macro, syntax, notation, axiom, sorry.
-/
import Derived.Test.YbulkcwvsFmtChecked
import GoSem.Claim
import GoSem.ClaimJoined
import GoSem.ClaimMapViews
import Derived.JoinedTies
import Derived.KernelRfl
namespace Go.Proofs.YbulkcwvsFmt
/- THE CELL 'sum', in the pinned program and in every row, IS THE sha256 OF THE DUMP (.gsa) THAT YbulkcwvsFmtProg.lean LOADS. Nothing in Lean hashes anything: it is a label: what it is worth is what the hold of that sum in a sandbox is worth. -/
noncomputable def Ybaf.pinned : Pinned := { name := "ybulkcwvsfmt", sum := "02c031169380dd0d6b71d9c2670c240f165d98ce043c4fd6c56b65cc116cd5da", checked := Ybaf.checked }
namespace Rows
def none {H : Type} : Left H := { results := [], args := [] }

/- WHAT THE LISTED PACKAGE-LEVEL VARIABLES READ AS WHEN THE CALL BEGINS. Each datum BY PROGRAM (the guide's laid-datum.mjs) off the statement by which the dump's own 'gosem.cut.vars' lays the variable. In a bare row this is a premise. The card (YbulkcwvsFmtCards.lean) ties it to the program's text. -/
def laid_example_com_gapless_gapless_internal_memnet_ErrUnanswered {H : Type} : DataW H := .iface "*errors.errorString" (.ptr (.agg [.lit (.string [116, 104, 101, 32, 114, 101, 113, 117, 101, 115, 116, 32, 119, 97, 115, 32, 110, 111, 116, 32, 97, 110, 115, 119, 101, 114, 101, 100])]))

/-- 'memnet.LawS4919BNoDelay': WHATEVER THE INPUT: true; the input reads as it did. -/
def lawS4919BNoDelaySpec : ChangeSpec := { name := "lawS4919BNoDelay", vars := ["example.com/gapless/gapless/internal/memnet.ErrUnanswered"], fn := fun _ => fun
  | [d1, d2, d3, d4, g1] => { results := [.lit (.bool true)], args := [d1, d2, d3, d4], vars := [g1] }
  | _ => none }
def lawS4919BNoDelayRow : OpenClaim := { program := "ybulkcwvsfmt", sum := "02c031169380dd0d6b71d9c2670c240f165d98ce043c4fd6c56b65cc116cd5da", func := "example.com/gapless/gapless/internal/memnet.LawS4919BNoDelay", spec := "lawS4919BNoDelay", stops := ["fmt.errorf"], inPlace := ["(*internal/sync.Mutex).Lock", "internal/race.Disable", "sync/atomic.CompareAndSwapInt32", "internal/race.Enable", "internal/race.Acquire", "(*internal/sync.Mutex).lockSlow", "internal/sync.runtime_canSpin", "internal/sync.runtime_doSpin", "internal/sync.throw", "internal/sync.runtime_nanotime", "internal/sync.runtime_SemacquireMutex", "sync/atomic.AddInt32", "(*internal/sync.Mutex).Unlock", "internal/race.ReleaseMerge", "(*internal/sync.Mutex).unlockSlow", "internal/sync.fatal", "internal/sync.runtime_Semrelease", "time.runtimeNano", "time.syncTimer", "time.newTimer", "time.runtimeNow", "time.stopTimer", "fmt.errorf", "(*internal/sync.Mutex).TryLock"], unfollowed := true, recurses := true, named := ["example.com/gapless/gapless/internal/memnet.ErrUnanswered", "time.Local", "time.startNano"], ifaces := true, plainKeys := false, apart := false, laid := [("example.com/gapless/gapless/internal/memnet.ErrUnanswered", laid_example_com_gapless_gapless_internal_memnet_ErrUnanswered)] }
/-- NO THEOREM (fmt's text is open here; it may be false): for the released tool's asking of the row's closed facts alone. THE STATEMENT IS 'LawS4919BNoDelayToldSaid' (YbulkcwvsFmtCards.lean). -/
def LawS4919BNoDelayFormAsk : Prop := lawS4919BNoDelayRow.holds Ybaf.pinned (OpenSpec.ofChange lawS4919BNoDelaySpec)

/-- ITS FALSE NEIGHBOUR: 'it returns false'. Refute it at one input. -/
def lawS4919BNoDelayWrong : ChangeSpec := { name := "lawS4919BNoDelay", vars := ["example.com/gapless/gapless/internal/memnet.ErrUnanswered"], fn := fun _ => fun
  | [d1, d2, d3, d4, g1] => { results := [.lit (.bool false)], args := [d1, d2, d3, d4], vars := [g1] }
  | _ => none }
def LawS4919BNoDelayWrongFormAsk : Prop := lawS4919BNoDelayRow.holds Ybaf.pinned (OpenSpec.ofChange lawS4919BNoDelayWrong)

/-- 'peer.LawS4919CNames': WHATEVER THE INPUT: true; the input reads as it did. -/
def lawS4919CNamesSpec : ChangeSpec := { name := "lawS4919CNames", fn := fun _ => fun
  | [d1, d2, d3, d4] => { results := [.lit (.bool true)], args := [d1, d2, d3, d4] }
  | _ => none }
def lawS4919CNamesRow : OpenClaim := { program := "ybulkcwvsfmt", sum := "02c031169380dd0d6b71d9c2670c240f165d98ce043c4fd6c56b65cc116cd5da", func := "example.com/gapless/gapless/internal/peer.LawS4919CNames", spec := "lawS4919CNames", stops := ["fmt.errorf"], inPlace := ["internal/abi.NoEscape", "internal/bytealg.MakeNoZero", "fmt.errorf"], plainKeys := false, apart := false }
/-- NO THEOREM (fmt's text is open here; it may be false): for the released tool's asking of the row's closed facts alone. THE STATEMENT IS 'LawS4919CNamesToldSaid' (YbulkcwvsFmtCards.lean). -/
def LawS4919CNamesFormAsk : Prop := lawS4919CNamesRow.holds Ybaf.pinned (OpenSpec.ofChange lawS4919CNamesSpec)

/-- ITS FALSE NEIGHBOUR: 'it returns false'. Refute it at one input. -/
def lawS4919CNamesWrong : ChangeSpec := { name := "lawS4919CNames", fn := fun _ => fun
  | [d1, d2, d3, d4] => { results := [.lit (.bool false)], args := [d1, d2, d3, d4] }
  | _ => none }
def LawS4919CNamesWrongFormAsk : Prop := lawS4919CNamesRow.holds Ybaf.pinned (OpenSpec.ofChange lawS4919CNamesWrong)

/-- 'peer.LawS4919CRaw': WHATEVER THE INPUT: true; the input reads as it did. -/
def lawS4919CRawSpec : ChangeSpec := { name := "lawS4919CRaw", fn := fun _ => fun
  | [d1, d2, d3, d4] => { results := [.lit (.bool true)], args := [d1, d2, d3, d4] }
  | _ => none }
def lawS4919CRawRow : OpenClaim := { program := "ybulkcwvsfmt", sum := "02c031169380dd0d6b71d9c2670c240f165d98ce043c4fd6c56b65cc116cd5da", func := "example.com/gapless/gapless/internal/peer.LawS4919CRaw", spec := "lawS4919CRaw", stops := ["fmt.errorf"], inPlace := ["internal/abi.NoEscape", "internal/bytealg.MakeNoZero", "fmt.errorf"], plainKeys := false, apart := false }
/-- NO THEOREM (fmt's text is open here; it may be false): for the released tool's asking of the row's closed facts alone. THE STATEMENT IS 'LawS4919CRawToldSaid' (YbulkcwvsFmtCards.lean). -/
def LawS4919CRawFormAsk : Prop := lawS4919CRawRow.holds Ybaf.pinned (OpenSpec.ofChange lawS4919CRawSpec)

/-- ITS FALSE NEIGHBOUR: 'it returns false'. Refute it at one input. -/
def lawS4919CRawWrong : ChangeSpec := { name := "lawS4919CRaw", fn := fun _ => fun
  | [d1, d2, d3, d4] => { results := [.lit (.bool false)], args := [d1, d2, d3, d4] }
  | _ => none }
def LawS4919CRawWrongFormAsk : Prop := lawS4919CRawRow.holds Ybaf.pinned (OpenSpec.ofChange lawS4919CRawWrong)

end Rows
end Go.Proofs.YbulkcwvsFmt
