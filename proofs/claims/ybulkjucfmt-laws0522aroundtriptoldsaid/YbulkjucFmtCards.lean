/-
  DERIVED. GIVEN WITH THE SEED: THE CARDS: each row of YbulkjucFmtRows.lean that lists a variable, with what it lists TIED to the program's text (the seventh form; the later family's looks); each row that meets fmt, with fmt's text TOLD by the authors' own Lean function (tested against real Go, not proved from fmt's source: count such statements apart). THE CARD IS WHAT COUNTS. Prove the row's statement (the work); the ties are given (YbulkjucFmtTie.lean); close each card by the builder's one call (the guide's Derived/Test/ToyasCard.lean, 'card_holds'). Laid BY PROGRAM, IN A SANDBOX (cutbox-door.mjs). By AI agents, Wed Nov 11 2026. No macro, syntax, notation, axiom, sorry.
-/
import Derived.Test.YbulkjucFmtRows
import GoSem.ClaimSeven
namespace Go.Proofs.YbulkjucFmt
namespace Rows

/-- THE TOLD CARD OF 'wire.LawS0522ALayout'. -/
def lawS0522ALayoutCard : Claim7 := { stood := { row := lawS0522ALayoutRow, standIns := [], harness := (true, "f8b2492f21b0450da70fd6730f1a9342076e475ecd95c5d4eea5df5db4be1c01"), looks := false }, told := true, goes := false }
def LawS0522ALayoutToldSaid : Prop := Claim7.holds Ybaf.pinned (.plain (OpenSpec.ofChange lawS0522ALayoutSpec)) lawS0522ALayoutCard
/-- ITS FALSE NEIGHBOUR. Refute it at one input. -/
def LawS0522ALayoutToldWrongFalsely : Prop := Claim7.holds Ybaf.pinned (.plain (OpenSpec.ofChange lawS0522ALayoutWrong)) lawS0522ALayoutCard

/-- THE TOLD AND TIED CARD OF 'wire.LawS0522ARoundTrip'. -/
def lawS0522ARoundTripCard : Claim7 := { stood := { row := lawS0522ARoundTripRow, standIns := [], harness := (true, "f8b2492f21b0450da70fd6730f1a9342076e475ecd95c5d4eea5df5db4be1c01"), looks := false }, told := true, laidByText := true, laidKinds := [.sentinel], laidTests := true, laidLooks := .later, goes := false }
def LawS0522ARoundTripToldSaid : Prop := Claim7.holds Ybaf.pinned (.plain (OpenSpec.ofChange lawS0522ARoundTripSpec)) lawS0522ARoundTripCard
/-- ITS FALSE NEIGHBOUR. Refute it at one input. -/
def LawS0522ARoundTripToldWrongFalsely : Prop := Claim7.holds Ybaf.pinned (.plain (OpenSpec.ofChange lawS0522ARoundTripWrong)) lawS0522ARoundTripCard
end Rows
end Go.Proofs.YbulkjucFmt
