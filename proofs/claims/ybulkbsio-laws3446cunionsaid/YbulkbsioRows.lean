/-
  No cell of these rows narrows 'for every input' (looked for: loops, veiled, ifaces, maps, wideKeys, modest, calm, conditions, laid).
  DERIVED. THE GIVEN ROWS OF THIS SEAT. 4 by the template 'for every input the law returns true; each argument reads behind the call as it read before'; 0 by the template 'total and deterministic' (their statements: YbulkbsioTotals.lean).
  GIVEN WITH THE SEED: the statements are not yours to turn. If you find one false, say at which input.
  Laid BY PROGRAM, IN A SANDBOX (cutbox-rows.mjs): the forced cells as the released guide's own fill.sh prints them over the translation 589c395e03043921… (all of the seat's roots in one cut). By AI agents, Wed Nov 11 2026. No macro, syntax, notation, axiom, sorry.
-/
import Derived.Test.YbulkbsioChecked
import GoSem.Claim
import GoSem.ClaimJoined
import GoSem.ClaimMapViews
import Derived.JoinedTies
import Derived.KernelRfl
namespace Go.Proofs.Ybulkbsio
/- THE CELL 'sum', in the pinned program and in every row, IS THE sha256 OF THE DUMP (.gsa) THAT YbulkbsioProg.lean LOADS. Nothing in Lean hashes anything: it is a label: what it is worth is what the hold of that sum in a sandbox is worth. -/
noncomputable def Yba.pinned : Pinned := { name := "ybulkbsio", sum := "589c395e03043921dcf1409d7625b9946cce005a5c0b3b962e62ce596d5ecf48", checked := Yba.checked }
namespace Rows
def none {H : Type} : Left H := { results := [], args := [] }

/-- 'replica.LawS3446BExact': WHATEVER THE INPUT: true; the input reads as it did. -/
def lawS3446BExactSpec : ChangeSpec := { name := "lawS3446BExact", fn := fun _ => fun
  | [d1, d2, d3, d4, d5, d6] => { results := [.lit (.bool true)], args := [d1, d2, d3, d4, d5, d6] }
  | _ => none }
def lawS3446BExactRow : OpenClaim := { program := "ybulkbsio", sum := "589c395e03043921dcf1409d7625b9946cce005a5c0b3b962e62ce596d5ecf48", func := "example.com/tabulog/tabulog/internal/replica.LawS3446BExact", spec := "lawS3446BExact", apart := false }
def LawS3446BExactSaid : Prop := lawS3446BExactRow.holds Yba.pinned (OpenSpec.ofChange lawS3446BExactSpec)

/-- ITS FALSE NEIGHBOUR: 'it returns false'. Refute it at one input. -/
def lawS3446BExactWrong : ChangeSpec := { name := "lawS3446BExact", fn := fun _ => fun
  | [d1, d2, d3, d4, d5, d6] => { results := [.lit (.bool false)], args := [d1, d2, d3, d4, d5, d6] }
  | _ => none }
def LawS3446BExactWrongFalsely : Prop := lawS3446BExactRow.holds Yba.pinned (OpenSpec.ofChange lawS3446BExactWrong)

/-- 'replica.LawS3446BHolds': WHATEVER THE INPUT: true; the input reads as it did. -/
def lawS3446BHoldsSpec : ChangeSpec := { name := "lawS3446BHolds", fn := fun _ => fun
  | [d1, d2, d3, d4, d5, d6] => { results := [.lit (.bool true)], args := [d1, d2, d3, d4, d5, d6] }
  | _ => none }
def lawS3446BHoldsRow : OpenClaim := { program := "ybulkbsio", sum := "589c395e03043921dcf1409d7625b9946cce005a5c0b3b962e62ce596d5ecf48", func := "example.com/tabulog/tabulog/internal/replica.LawS3446BHolds", spec := "lawS3446BHolds", apart := false }
def LawS3446BHoldsSaid : Prop := lawS3446BHoldsRow.holds Yba.pinned (OpenSpec.ofChange lawS3446BHoldsSpec)

/-- ITS FALSE NEIGHBOUR: 'it returns false'. Refute it at one input. -/
def lawS3446BHoldsWrong : ChangeSpec := { name := "lawS3446BHolds", fn := fun _ => fun
  | [d1, d2, d3, d4, d5, d6] => { results := [.lit (.bool false)], args := [d1, d2, d3, d4, d5, d6] }
  | _ => none }
def LawS3446BHoldsWrongFalsely : Prop := lawS3446BHoldsRow.holds Yba.pinned (OpenSpec.ofChange lawS3446BHoldsWrong)

/-- 'replica.LawS3446CUnion': WHATEVER THE INPUT: true; the input reads as it did. -/
def lawS3446CUnionSpec : ChangeSpec := { name := "lawS3446CUnion", fn := fun _ => fun
  | [d1, d2, d3, d4, d5] => { results := [.lit (.bool true)], args := [d1, d2, d3, d4, d5] }
  | _ => none }
def lawS3446CUnionRow : OpenClaim := { program := "ybulkbsio", sum := "589c395e03043921dcf1409d7625b9946cce005a5c0b3b962e62ce596d5ecf48", func := "example.com/tabulog/tabulog/internal/replica.LawS3446CUnion", spec := "lawS3446CUnion", inPlace := ["slices.overlaps[example.com/tabulog/tabulog/internal/replica.run]"], unfollowed := true, recurses := true, apart := false }
def LawS3446CUnionSaid : Prop := lawS3446CUnionRow.holds Yba.pinned (OpenSpec.ofChange lawS3446CUnionSpec)

/-- ITS FALSE NEIGHBOUR: 'it returns false'. Refute it at one input. -/
def lawS3446CUnionWrong : ChangeSpec := { name := "lawS3446CUnion", fn := fun _ => fun
  | [d1, d2, d3, d4, d5] => { results := [.lit (.bool false)], args := [d1, d2, d3, d4, d5] }
  | _ => none }
def LawS3446CUnionWrongFalsely : Prop := lawS3446CUnionRow.holds Yba.pinned (OpenSpec.ofChange lawS3446CUnionWrong)

/-- 'replica.LawS3446CForm': WHATEVER THE INPUT: true; the input reads as it did. -/
def lawS3446CFormSpec : ChangeSpec := { name := "lawS3446CForm", fn := fun _ => fun
  | [d1, d2, d3, d4, d5] => { results := [.lit (.bool true)], args := [d1, d2, d3, d4, d5] }
  | _ => none }
def lawS3446CFormRow : OpenClaim := { program := "ybulkbsio", sum := "589c395e03043921dcf1409d7625b9946cce005a5c0b3b962e62ce596d5ecf48", func := "example.com/tabulog/tabulog/internal/replica.LawS3446CForm", spec := "lawS3446CForm", inPlace := ["slices.overlaps[example.com/tabulog/tabulog/internal/replica.run]"], unfollowed := true, recurses := true, apart := false }
def LawS3446CFormSaid : Prop := lawS3446CFormRow.holds Yba.pinned (OpenSpec.ofChange lawS3446CFormSpec)

/-- ITS FALSE NEIGHBOUR: 'it returns false'. Refute it at one input. -/
def lawS3446CFormWrong : ChangeSpec := { name := "lawS3446CForm", fn := fun _ => fun
  | [d1, d2, d3, d4, d5] => { results := [.lit (.bool false)], args := [d1, d2, d3, d4, d5] }
  | _ => none }
def LawS3446CFormWrongFalsely : Prop := lawS3446CFormRow.holds Yba.pinned (OpenSpec.ofChange lawS3446CFormWrong)

end Rows
end Go.Proofs.Ybulkbsio
