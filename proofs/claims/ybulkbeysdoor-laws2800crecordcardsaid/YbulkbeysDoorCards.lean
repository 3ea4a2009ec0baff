/-
  DERIVED. GIVEN WITH THE SEED: THE CARDS: each row of YbulkbeysDoorRows.lean that lists a variable, with what it lists TIED to the program's text (the seventh form; the later family's looks); each row that meets fmt, with fmt's text TOLD by the authors' own Lean function (tested against real Go, not proved from fmt's source: count such statements apart). THE CARD IS WHAT COUNTS. Prove the row's statement (the work); the ties are given (YbulkbeysDoorTie.lean); close each card by the builder's one call (the guide's Derived/Test/ToyasCard.lean, 'card_holds'). Laid BY PROGRAM, IN A SANDBOX (cutbox-door.mjs). By AI agents, Wed Nov 11 2026. No macro, syntax, notation, axiom, sorry.
-/
import Derived.Test.YbulkbeysDoorRows
import GoSem.ClaimSeven
namespace Go.Proofs.YbulkbeysDoor
namespace Rows

/-- THE TIED CARD OF 'trace.LawS2800CRecord'. -/
def lawS2800CRecordCard : Claim7 := { stood := { row := lawS2800CRecordRow, standIns := [], harness := (true, "41d5af3eff387b361400c1786695306e4ef807b9a2df64851915f16b2e19b4e3"), looks := false }, kinds := [], alts := [], laidByText := true, laidKinds := [.data, .data, .data], laidTests := true, laidLooks := .later }
def LawS2800CRecordCardSaid : Prop := Claim7.holds Ybad.pinned (.plain (OpenSpec.ofChange lawS2800CRecordSpec)) lawS2800CRecordCard

/-- THE TIED CARD OF 'trace.LawS2800CLikeSent'. -/
def lawS2800CLikeSentCard : Claim7 := { stood := { row := lawS2800CLikeSentRow, standIns := [], harness := (true, "41d5af3eff387b361400c1786695306e4ef807b9a2df64851915f16b2e19b4e3"), looks := false }, kinds := [], alts := [], laidByText := true, laidKinds := [.data, .data, .data], laidTests := true, laidLooks := .later }
def LawS2800CLikeSentCardSaid : Prop := Claim7.holds Ybad.pinned (.plain (OpenSpec.ofChange lawS2800CLikeSentSpec)) lawS2800CLikeSentCard
end Rows
end Go.Proofs.YbulkbeysDoor
