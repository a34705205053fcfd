/-
  DERIVED. GIVEN WITH THE SEED: THE CARDS: each row of YbulkbsioDoorRows.lean that lists a variable, with what it lists TIED to the program's text (the seventh form; the later family's looks); each row that meets fmt, with fmt's text TOLD by the authors' own Lean function (tested against real Go, not proved from fmt's source: count such statements apart). THE CARD IS WHAT COUNTS. Prove the row's statement (the work); the ties are given (YbulkbsioDoorTie.lean); close each card by the builder's one call (the guide's Derived/Test/ToyasCard.lean, 'card_holds'). Laid BY PROGRAM, IN A SANDBOX (cutbox-door.mjs). By AI agents, Wed Nov 11 2026. No macro, syntax, notation, axiom, sorry.
-/
import Derived.Test.YbulkbsioDoorRows
import GoSem.ClaimSeven
namespace Go.Proofs.YbulkbsioDoor
namespace Rows

/-- THE TIED CARD OF 'tabulog.LawS3446AMemory'. -/
def lawS3446AMemoryCard : Claim7 := { stood := { row := lawS3446AMemoryRow, standIns := [], harness := (true, "abccb05969eb44f1049fab0af48abb0630d9448058939bb52a0b64dbd1545a31"), looks := false }, kinds := [], alts := [], laidByText := true, laidKinds := [.data], laidTests := true, laidLooks := .later }
def LawS3446AMemoryCardSaid : Prop := Claim7.holds Ybad.pinned (.plain (OpenSpec.ofChange lawS3446AMemorySpec)) lawS3446AMemoryCard

/-- THE TIED CARD OF 'tabulog.LawS3446ADisk'. -/
def lawS3446ADiskCard : Claim7 := { stood := { row := lawS3446ADiskRow, standIns := [], harness := (true, "abccb05969eb44f1049fab0af48abb0630d9448058939bb52a0b64dbd1545a31"), looks := false }, kinds := [], alts := [], laidByText := true, laidKinds := [.data], laidTests := true, laidLooks := .later }
def LawS3446ADiskCardSaid : Prop := Claim7.holds Ybad.pinned (.plain (OpenSpec.ofChange lawS3446ADiskSpec)) lawS3446ADiskCard
end Rows
end Go.Proofs.YbulkbsioDoor
