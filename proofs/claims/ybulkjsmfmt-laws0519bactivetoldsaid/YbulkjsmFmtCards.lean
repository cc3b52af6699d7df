/-
  DERIVED. GIVEN WITH THE SEED: THE CARDS: each row of YbulkjsmFmtRows.lean that lists a variable, with what it lists TIED to the program's text (the seventh form; the later family's looks); each row that meets fmt, with fmt's text TOLD by the authors' own Lean function (tested against real Go, not proved from fmt's source: count such statements apart). THE CARD IS WHAT COUNTS. Prove the row's statement (the work); the ties are given (YbulkjsmFmtTie.lean); close each card by the builder's one call (the guide's Derived/Test/ToyasCard.lean, 'card_holds'). Laid BY PROGRAM, IN A SANDBOX (cutbox-door.mjs). By AI agents, Wed Nov 11 2026. No macro, syntax, notation, axiom, sorry.
-/
import Derived.Test.YbulkjsmFmtRows
import GoSem.ClaimSeven
namespace Go.Proofs.YbulkjsmFmt
namespace Rows

/-- THE TOLD AND TIED CARD OF 'qsig.LawS0519BActive'. -/
def lawS0519BActiveCard : Claim7 := { stood := { row := lawS0519BActiveRow, standIns := [], harness := (true, "e85f61a9e9ca5bdd11f376d7fcface980fa2611646cfd952447c20f3443791cf"), looks := false }, told := true, laidByText := true, laidKinds := [.widerDeep], laidTests := true, laidLooks := .later, goes := false }
def LawS0519BActiveToldSaid : Prop := Claim7.holds Ybaf.pinned (.plain (OpenSpec.ofChange lawS0519BActiveSpec)) lawS0519BActiveCard
/-- ITS FALSE NEIGHBOUR. Refute it at one input. -/
def LawS0519BActiveToldWrongFalsely : Prop := Claim7.holds Ybaf.pinned (.plain (OpenSpec.ofChange lawS0519BActiveWrong)) lawS0519BActiveCard

/-- THE TOLD AND TIED CARD OF 'qsig.LawS0519BNoCall'. -/
def lawS0519BNoCallCard : Claim7 := { stood := { row := lawS0519BNoCallRow, standIns := [], harness := (true, "e85f61a9e9ca5bdd11f376d7fcface980fa2611646cfd952447c20f3443791cf"), looks := false }, told := true, laidByText := true, laidKinds := [.widerDeep], laidTests := true, laidLooks := .later, goes := false }
def LawS0519BNoCallToldSaid : Prop := Claim7.holds Ybaf.pinned (.plain (OpenSpec.ofChange lawS0519BNoCallSpec)) lawS0519BNoCallCard
/-- ITS FALSE NEIGHBOUR. Refute it at one input. -/
def LawS0519BNoCallToldWrongFalsely : Prop := Claim7.holds Ybaf.pinned (.plain (OpenSpec.ofChange lawS0519BNoCallWrong)) lawS0519BNoCallCard
end Rows
end Go.Proofs.YbulkjsmFmt
