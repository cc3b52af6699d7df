/-
  NARROWER THAN 'FOR EVERY INPUT', by the rows' own cells (each row's printed sentence says how): LawS0519BActive: laid · LawS0519BNoCall: laid.
  DERIVED. THE GIVEN ROWS OF THIS SEAT. 2 by the template 'for every input the law returns true; each argument reads behind the call as it read before'; 0 by the template 'total and deterministic' (their statements: YbulkjsmFmtTotals.lean).
  GIVEN WITH THE SEED: the statements are not yours to turn. If you find one false, say at which input.
  Laid BY PROGRAM, IN A SANDBOX (cutbox-rows.mjs): the forced cells as the released guide's own fill.sh prints them over the translation 486b531914c42aad… (all of the seat's roots in one cut). By AI agents, Wed Nov 11 2026. No macro, syntax, notation, axiom, sorry.
-/
import Derived.Test.YbulkjsmFmtChecked
import GoSem.Claim
import GoSem.ClaimJoined
import GoSem.ClaimMapViews
import Derived.JoinedTies
import Derived.KernelRfl
namespace Go.Proofs.YbulkjsmFmt
/- THE CELL 'sum', in the pinned program and in every row, IS THE sha256 OF THE DUMP (.gsa) THAT YbulkjsmFmtProg.lean LOADS. Nothing in Lean hashes anything: it is a label: what it is worth is what the hold of that sum in a sandbox is worth. -/
noncomputable def Ybaf.pinned : Pinned := { name := "ybulkjsmfmt", sum := "486b531914c42aad8196ffa4f2410c7a47b804933706a9bd0c0e8a01be192dc8", checked := Ybaf.checked }
namespace Rows
def none {H : Type} : Left H := { results := [], args := [] }

/- WHAT THE LISTED PACKAGE-LEVEL VARIABLES READ AS WHEN THE CALL BEGINS. Each datum BY PROGRAM (the guide's laid-datum.mjs) off the statement by which the dump's own 'gosem.cut.vars' lays the variable. In a bare row this is a premise. The card (YbulkjsmFmtCards.lean) ties it to the program's text. -/
def laid_example_com_callwright_callwright_internal_qsig_facilityHeader {H : Type} : DataW H := .slice [.lit (.int .u8 159), .lit (.int .u8 170), .lit (.int .u8 6), .lit (.int .u8 128), .lit (.int .u8 1), .lit (.int .u8 0), .lit (.int .u8 130), .lit (.int .u8 1), .lit (.int .u8 0), .lit (.int .u8 139), .lit (.int .u8 1), .lit (.int .u8 2)] []

/-- 'qsig.LawS0519BActive': WHATEVER THE INPUT: true; the input reads as it did. -/
def lawS0519BActiveSpec : ChangeSpec := { name := "lawS0519BActive", vars := ["example.com/callwright/callwright/internal/qsig.facilityHeader"], fn := fun _ => fun
  | [d1, d2, d3, d4, d5, g1] => { results := [.lit (.bool true)], args := [d1, d2, d3, d4, d5], vars := [g1] }
  | _ => none }
def lawS0519BActiveRow : OpenClaim := { program := "ybulkjsmfmt", sum := "486b531914c42aad8196ffa4f2410c7a47b804933706a9bd0c0e8a01be192dc8", func := "example.com/callwright/callwright/internal/qsig.LawS0519BActive", spec := "lawS0519BActive", stops := ["fmt.errorf", "fmt.Sprintf"], inPlace := ["fmt.errorf", "fmt.Sprintf"], unfollowed := true, recurses := true, named := ["example.com/callwright/callwright/internal/qsig.facilityHeader"], apart := false, laid := [("example.com/callwright/callwright/internal/qsig.facilityHeader", laid_example_com_callwright_callwright_internal_qsig_facilityHeader)] }
/-- NO THEOREM (fmt's text is open here; it may be false): for the released tool's asking of the row's closed facts alone. THE STATEMENT IS 'LawS0519BActiveToldSaid' (YbulkjsmFmtCards.lean). -/
def LawS0519BActiveFormAsk : Prop := lawS0519BActiveRow.holds Ybaf.pinned (OpenSpec.ofChange lawS0519BActiveSpec)

/-- ITS FALSE NEIGHBOUR: 'it returns false'. Refute it at one input. -/
def lawS0519BActiveWrong : ChangeSpec := { name := "lawS0519BActive", vars := ["example.com/callwright/callwright/internal/qsig.facilityHeader"], fn := fun _ => fun
  | [d1, d2, d3, d4, d5, g1] => { results := [.lit (.bool false)], args := [d1, d2, d3, d4, d5], vars := [g1] }
  | _ => none }
def LawS0519BActiveWrongFormAsk : Prop := lawS0519BActiveRow.holds Ybaf.pinned (OpenSpec.ofChange lawS0519BActiveWrong)

/-- 'qsig.LawS0519BNoCall': WHATEVER THE INPUT: true; the input reads as it did. -/
def lawS0519BNoCallSpec : ChangeSpec := { name := "lawS0519BNoCall", vars := ["example.com/callwright/callwright/internal/qsig.facilityHeader"], fn := fun _ => fun
  | [d1, d2, g1] => { results := [.lit (.bool true)], args := [d1, d2], vars := [g1] }
  | _ => none }
def lawS0519BNoCallRow : OpenClaim := { program := "ybulkjsmfmt", sum := "486b531914c42aad8196ffa4f2410c7a47b804933706a9bd0c0e8a01be192dc8", func := "example.com/callwright/callwright/internal/qsig.LawS0519BNoCall", spec := "lawS0519BNoCall", stops := ["fmt.errorf", "fmt.Sprintf"], inPlace := ["fmt.errorf", "fmt.Sprintf"], unfollowed := true, recurses := true, named := ["example.com/callwright/callwright/internal/qsig.facilityHeader"], apart := false, laid := [("example.com/callwright/callwright/internal/qsig.facilityHeader", laid_example_com_callwright_callwright_internal_qsig_facilityHeader)] }
/-- NO THEOREM (fmt's text is open here; it may be false): for the released tool's asking of the row's closed facts alone. THE STATEMENT IS 'LawS0519BNoCallToldSaid' (YbulkjsmFmtCards.lean). -/
def LawS0519BNoCallFormAsk : Prop := lawS0519BNoCallRow.holds Ybaf.pinned (OpenSpec.ofChange lawS0519BNoCallSpec)

/-- ITS FALSE NEIGHBOUR: 'it returns false'. Refute it at one input. -/
def lawS0519BNoCallWrong : ChangeSpec := { name := "lawS0519BNoCall", vars := ["example.com/callwright/callwright/internal/qsig.facilityHeader"], fn := fun _ => fun
  | [d1, d2, g1] => { results := [.lit (.bool false)], args := [d1, d2], vars := [g1] }
  | _ => none }
def LawS0519BNoCallWrongFormAsk : Prop := lawS0519BNoCallRow.holds Ybaf.pinned (OpenSpec.ofChange lawS0519BNoCallWrong)

end Rows
end Go.Proofs.YbulkjsmFmt
