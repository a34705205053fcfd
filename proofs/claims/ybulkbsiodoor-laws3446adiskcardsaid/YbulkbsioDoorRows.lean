/-
  NARROWER THAN 'FOR EVERY INPUT', by the rows' own cells (each row's printed sentence says how): LawS3446AMemory: laid · LawS3446ADisk: laid.
  DERIVED. THE GIVEN ROWS OF THIS SEAT. 2 by the template 'for every input the law returns true; each argument reads behind the call as it read before'; 0 by the template 'total and deterministic' (their statements: YbulkbsioDoorTotals.lean).
  GIVEN WITH THE SEED: the statements are not yours to turn. If you find one false, say at which input.
  Laid BY PROGRAM, IN A SANDBOX (cutbox-rows.mjs): the forced cells as the released guide's own fill.sh prints them over the translation d4f5a7675e7167d1… (all of the seat's roots in one cut). By AI agents, Wed Nov 11 2026. No macro, syntax, notation, axiom, sorry.
-/
import Derived.Test.YbulkbsioDoorChecked
import GoSem.Claim
import GoSem.ClaimJoined
import GoSem.ClaimMapViews
import Derived.JoinedTies
import Derived.KernelRfl
namespace Go.Proofs.YbulkbsioDoor
/- THE CELL 'sum', in the pinned program and in every row, IS THE sha256 OF THE DUMP (.gsa) THAT YbulkbsioDoorProg.lean LOADS. Nothing in Lean hashes anything: it is a label: what it is worth is what the hold of that sum in a sandbox is worth. -/
noncomputable def Ybad.pinned : Pinned := { name := "ybulkbsiodoor", sum := "d4f5a7675e7167d15ad91722f1078fff5b8aa3f1825e58dd4ebe186ac6cd5c7d", checked := Ybad.checked }
namespace Rows
def none {H : Type} : Left H := { results := [], args := [] }

/- WHAT THE LISTED PACKAGE-LEVEL VARIABLES READ AS WHEN THE CALL BEGINS. Each datum BY PROGRAM (the guide's laid-datum.mjs) off the statement by which the dump's own 'gosem.cut.vars' lays the variable. In a bare row this is a premise. The card (YbulkbsioDoorCards.lean) ties it to the program's text. -/
def laid_example_com_tabulog_tabulog_syncBounds {H : Type} : DataW H := .agg [.lit (.int .i64 100000), .lit (.int .i64 250000), .lit (.int .i64 500000), .lit (.int .i64 1000000), .lit (.int .i64 2500000), .lit (.int .i64 5000000), .lit (.int .i64 10000000), .lit (.int .i64 25000000), .lit (.int .i64 50000000), .lit (.int .i64 100000000), .lit (.int .i64 250000000), .lit (.int .i64 500000000), .lit (.int .i64 1000000000), .lit (.int .i64 2500000000), .lit (.int .i64 5000000000), .lit (.int .i64 10000000000)]

/-- 'tabulog.LawS3446AMemory': WHATEVER THE INPUT: true; the input reads as it did. -/
def lawS3446AMemorySpec : ChangeSpec := { name := "lawS3446AMemory", vars := ["example.com/tabulog/tabulog.syncBounds"], fn := fun _ => fun
  | [d1, d2, d3, d4, d5, g1] => { results := [.lit (.bool true)], args := [d1, d2, d3, d4, d5], vars := [g1] }
  | _ => none }
def lawS3446AMemoryRow : OpenClaim := { program := "ybulkbsiodoor", sum := "d4f5a7675e7167d15ad91722f1078fff5b8aa3f1825e58dd4ebe186ac6cd5c7d", func := "example.com/tabulog/tabulog.LawS3446AMemory", spec := "lawS3446AMemory", inPlace := ["(*sync.RWMutex).RLock", "internal/race.Read", "internal/race.Disable", "sync/atomic.AddInt32", "sync.runtime_SemacquireRWMutexR", "internal/race.Enable", "internal/race.Acquire", "(*sync.RWMutex).RUnlock", "internal/race.ReleaseMerge", "(*sync.RWMutex).rUnlockSlow", "sync.fatal", "sync.runtime_Semrelease"], named := ["example.com/tabulog/tabulog.syncBounds"], plainKeys := false, apart := false, laid := [("example.com/tabulog/tabulog.syncBounds", laid_example_com_tabulog_tabulog_syncBounds)] }
def LawS3446AMemorySaid : Prop := lawS3446AMemoryRow.holds Ybad.pinned (OpenSpec.ofChange lawS3446AMemorySpec)

/-- ITS FALSE NEIGHBOUR: 'it returns false'. Refute it at one input. -/
def lawS3446AMemoryWrong : ChangeSpec := { name := "lawS3446AMemory", vars := ["example.com/tabulog/tabulog.syncBounds"], fn := fun _ => fun
  | [d1, d2, d3, d4, d5, g1] => { results := [.lit (.bool false)], args := [d1, d2, d3, d4, d5], vars := [g1] }
  | _ => none }
def LawS3446AMemoryWrongFalsely : Prop := lawS3446AMemoryRow.holds Ybad.pinned (OpenSpec.ofChange lawS3446AMemoryWrong)

/-- 'tabulog.LawS3446ADisk': WHATEVER THE INPUT: true; the input reads as it did. -/
def lawS3446ADiskSpec : ChangeSpec := { name := "lawS3446ADisk", vars := ["example.com/tabulog/tabulog.syncBounds"], fn := fun _ => fun
  | [d1, d2, d3, d4, d5, d6, g1] => { results := [.lit (.bool true)], args := [d1, d2, d3, d4, d5, d6], vars := [g1] }
  | _ => none }
def lawS3446ADiskRow : OpenClaim := { program := "ybulkbsiodoor", sum := "d4f5a7675e7167d15ad91722f1078fff5b8aa3f1825e58dd4ebe186ac6cd5c7d", func := "example.com/tabulog/tabulog.LawS3446ADisk", spec := "lawS3446ADisk", inPlace := ["(*sync.RWMutex).RLock", "internal/race.Read", "internal/race.Disable", "sync/atomic.AddInt32", "sync.runtime_SemacquireRWMutexR", "internal/race.Enable", "internal/race.Acquire", "(*sync.RWMutex).RUnlock", "internal/race.ReleaseMerge", "(*sync.RWMutex).rUnlockSlow", "sync.fatal", "sync.runtime_Semrelease"], named := ["example.com/tabulog/tabulog.syncBounds"], plainKeys := false, apart := false, laid := [("example.com/tabulog/tabulog.syncBounds", laid_example_com_tabulog_tabulog_syncBounds)] }
def LawS3446ADiskSaid : Prop := lawS3446ADiskRow.holds Ybad.pinned (OpenSpec.ofChange lawS3446ADiskSpec)

/-- ITS FALSE NEIGHBOUR: 'it returns false'. Refute it at one input. -/
def lawS3446ADiskWrong : ChangeSpec := { name := "lawS3446ADisk", vars := ["example.com/tabulog/tabulog.syncBounds"], fn := fun _ => fun
  | [d1, d2, d3, d4, d5, d6, g1] => { results := [.lit (.bool false)], args := [d1, d2, d3, d4, d5, d6], vars := [g1] }
  | _ => none }
def LawS3446ADiskWrongFalsely : Prop := lawS3446ADiskRow.holds Ybad.pinned (OpenSpec.ofChange lawS3446ADiskWrong)

end Rows
end Go.Proofs.YbulkbsioDoor
