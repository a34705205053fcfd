/-
  No cell of these rows narrows 'for every input' (looked for: loops, veiled, ifaces, maps, wideKeys, modest, calm, conditions, laid).
  DERIVED. THE GIVEN ROWS OF THIS SEAT. 3 by the template 'for every input the law returns true; each argument reads behind the call as it read before'; 0 by the template 'total and deterministic' (their statements: YbulkbsjcTotals.lean).
  GIVEN WITH THE SEED: the statements are not yours to turn. If you find one false, say at which input.
  Laid BY PROGRAM, IN A SANDBOX (cutbox-rows.mjs): the forced cells as the released guide's own fill.sh prints them over the translation 9a7e493d085ec7ff… (all of the seat's roots in one cut). By AI agents, Wed Nov 11 2026. No macro, syntax, notation, axiom, sorry.
-/
import Derived.Test.YbulkbsjcChecked
import GoSem.Claim
import GoSem.ClaimJoined
import GoSem.ClaimMapViews
import Derived.JoinedTies
import Derived.KernelRfl
namespace Go.Proofs.Ybulkbsjc
/- THE CELL 'sum', in the pinned program and in every row, IS THE sha256 OF THE DUMP (.gsa) THAT YbulkbsjcProg.lean LOADS. Nothing in Lean hashes anything: it is a label: what it is worth is what the hold of that sum in a sandbox is worth. -/
noncomputable def Yba.pinned : Pinned := { name := "ybulkbsjc", sum := "9a7e493d085ec7ff608b4179e3c006958554b87ba5290a3463b5ab0bf2a78df8", checked := Yba.checked }
namespace Rows
def none {H : Type} : Left H := { results := [], args := [] }

/-- 'boundring.LawS3447ASequence': WHATEVER THE INPUT: true; the input reads as it did. -/
def lawS3447ASequenceSpec : ChangeSpec := { name := "lawS3447ASequence", fn := fun _ => fun
  | [d1, d2] => { results := [.lit (.bool true)], args := [d1, d2] }
  | _ => none }
def lawS3447ASequenceRow : OpenClaim := { program := "ybulkbsjc", sum := "9a7e493d085ec7ff608b4179e3c006958554b87ba5290a3463b5ab0bf2a78df8", func := "example.com/boundring/boundring.LawS3447ASequence", spec := "lawS3447ASequence", apart := false }
def LawS3447ASequenceSaid : Prop := lawS3447ASequenceRow.holds Yba.pinned (OpenSpec.ofChange lawS3447ASequenceSpec)

/-- ITS FALSE NEIGHBOUR: 'it returns false'. Refute it at one input. -/
def lawS3447ASequenceWrong : ChangeSpec := { name := "lawS3447ASequence", fn := fun _ => fun
  | [d1, d2] => { results := [.lit (.bool false)], args := [d1, d2] }
  | _ => none }
def LawS3447ASequenceWrongFalsely : Prop := lawS3447ASequenceRow.holds Yba.pinned (OpenSpec.ofChange lawS3447ASequenceWrong)

/-- 'boundring.LawS3447AClosed': WHATEVER THE INPUT: true; the input reads as it did. -/
def lawS3447AClosedSpec : ChangeSpec := { name := "lawS3447AClosed", fn := fun _ => fun
  | [d1, d2] => { results := [.lit (.bool true)], args := [d1, d2] }
  | _ => none }
def lawS3447AClosedRow : OpenClaim := { program := "ybulkbsjc", sum := "9a7e493d085ec7ff608b4179e3c006958554b87ba5290a3463b5ab0bf2a78df8", func := "example.com/boundring/boundring.LawS3447AClosed", spec := "lawS3447AClosed", apart := false }
def LawS3447AClosedSaid : Prop := lawS3447AClosedRow.holds Yba.pinned (OpenSpec.ofChange lawS3447AClosedSpec)

/-- ITS FALSE NEIGHBOUR: 'it returns false'. Refute it at one input. -/
def lawS3447AClosedWrong : ChangeSpec := { name := "lawS3447AClosed", fn := fun _ => fun
  | [d1, d2] => { results := [.lit (.bool false)], args := [d1, d2] }
  | _ => none }
def LawS3447AClosedWrongFalsely : Prop := lawS3447AClosedRow.holds Yba.pinned (OpenSpec.ofChange lawS3447AClosedWrong)

/-- 'boundring.LawS3447BMaxFraction': WHATEVER THE INPUT: true; the input reads as it did. -/
def lawS3447BMaxFractionSpec : ChangeSpec := { name := "lawS3447BMaxFraction", fn := fun _ => fun
  | [d] => { results := [.lit (.bool true)], args := [d] }
  | _ => none }
def lawS3447BMaxFractionRow : OpenClaim := { program := "ybulkbsjc", sum := "9a7e493d085ec7ff608b4179e3c006958554b87ba5290a3463b5ab0bf2a78df8", func := "example.com/boundring/boundring.LawS3447BMaxFraction", spec := "lawS3447BMaxFraction", apart := false }
def LawS3447BMaxFractionSaid : Prop := lawS3447BMaxFractionRow.holds Yba.pinned (OpenSpec.ofChange lawS3447BMaxFractionSpec)

/-- ITS FALSE NEIGHBOUR: 'it returns false'. Refute it at one input. -/
def lawS3447BMaxFractionWrong : ChangeSpec := { name := "lawS3447BMaxFraction", fn := fun _ => fun
  | [d] => { results := [.lit (.bool false)], args := [d] }
  | _ => none }
def LawS3447BMaxFractionWrongFalsely : Prop := lawS3447BMaxFractionRow.holds Yba.pinned (OpenSpec.ofChange lawS3447BMaxFractionWrong)

end Rows
end Go.Proofs.Ybulkbsjc
