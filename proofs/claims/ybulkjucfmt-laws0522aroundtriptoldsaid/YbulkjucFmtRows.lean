/-
  NARROWER THAN 'FOR EVERY INPUT', by the rows' own cells (each row's printed sentence says how): LawS0522ARoundTrip: ifaces, laid.
  DERIVED. THE GIVEN ROWS OF THIS SEAT. 2 by the template 'for every input the law returns true; each argument reads behind the call as it read before'; 0 by the template 'total and deterministic' (their statements: YbulkjucFmtTotals.lean).
  GIVEN WITH THE SEED: the statements are not yours to turn. If you find one false, say at which input.
  Laid BY PROGRAM, IN A SANDBOX (cutbox-rows.mjs): the forced cells as the released guide's own fill.sh prints them over the translation e7ec82be680e506b… (all of the seat's roots in one cut). By AI agents, Wed Nov 11 2026. No macro, syntax, notation, axiom, sorry.
-/
import Derived.Test.YbulkjucFmtChecked
import GoSem.Claim
import GoSem.ClaimJoined
import GoSem.ClaimMapViews
import Derived.JoinedTies
import Derived.KernelRfl
namespace Go.Proofs.YbulkjucFmt
/- THE CELL 'sum', in the pinned program and in every row, IS THE sha256 OF THE DUMP (.gsa) THAT YbulkjucFmtProg.lean LOADS. Nothing in Lean hashes anything: it is a label: what it is worth is what the hold of that sum in a sandbox is worth. -/
noncomputable def Ybaf.pinned : Pinned := { name := "ybulkjucfmt", sum := "e7ec82be680e506bc2d2cbf3deafbdab0ea2d7769dea64e7251db767ca50c403", checked := Ybaf.checked }
namespace Rows
def none {H : Type} : Left H := { results := [], args := [] }

/- WHAT THE LISTED PACKAGE-LEVEL VARIABLES READ AS WHEN THE CALL BEGINS. Each datum BY PROGRAM (the guide's laid-datum.mjs) off the statement by which the dump's own 'gosem.cut.vars' lays the variable. In a bare row this is a premise. The card (YbulkjucFmtCards.lean) ties it to the program's text. -/
def laid_example_com_latchkey_latchkey_internal_wire_errShort {H : Type} : DataW H := .iface "*errors.errorString" (.ptr (.agg [.lit (.string [116, 114, 117, 110, 99, 97, 116, 101, 100])]))

/-- 'wire.LawS0522ALayout': WHATEVER THE INPUT: true; the input reads as it did. -/
def lawS0522ALayoutSpec : ChangeSpec := { name := "lawS0522ALayout", fn := fun _ => fun
  | [d1, d2, d3, d4] => { results := [.lit (.bool true)], args := [d1, d2, d3, d4] }
  | _ => none }
def lawS0522ALayoutRow : OpenClaim := { program := "ybulkjucfmt", sum := "e7ec82be680e506bc2d2cbf3deafbdab0ea2d7769dea64e7251db767ca50c403", func := "example.com/latchkey/latchkey/internal/wire.LawS0522ALayout", spec := "lawS0522ALayout", stops := ["fmt.Sprintf", "fmt.errorf"], inPlace := ["fmt.Sprintf"], apart := false }
/-- NO THEOREM (fmt's text is open here; it may be false): for the released tool's asking of the row's closed facts alone. THE STATEMENT IS 'LawS0522ALayoutToldSaid' (YbulkjucFmtCards.lean). -/
def LawS0522ALayoutFormAsk : Prop := lawS0522ALayoutRow.holds Ybaf.pinned (OpenSpec.ofChange lawS0522ALayoutSpec)

/-- ITS FALSE NEIGHBOUR: 'it returns false'. Refute it at one input. -/
def lawS0522ALayoutWrong : ChangeSpec := { name := "lawS0522ALayout", fn := fun _ => fun
  | [d1, d2, d3, d4] => { results := [.lit (.bool false)], args := [d1, d2, d3, d4] }
  | _ => none }
def LawS0522ALayoutWrongFormAsk : Prop := lawS0522ALayoutRow.holds Ybaf.pinned (OpenSpec.ofChange lawS0522ALayoutWrong)

/-- 'wire.LawS0522ARoundTrip': WHATEVER THE INPUT: true; the input reads as it did. -/
def lawS0522ARoundTripSpec : ChangeSpec := { name := "lawS0522ARoundTrip", vars := ["example.com/latchkey/latchkey/internal/wire.errShort"], fn := fun _ => fun
  | [d1, d2, d3, d4, g1] => { results := [.lit (.bool true)], args := [d1, d2, d3, d4], vars := [g1] }
  | _ => none }
def lawS0522ARoundTripRow : OpenClaim := { program := "ybulkjucfmt", sum := "e7ec82be680e506bc2d2cbf3deafbdab0ea2d7769dea64e7251db767ca50c403", func := "example.com/latchkey/latchkey/internal/wire.LawS0522ARoundTrip", spec := "lawS0522ARoundTrip", stops := ["fmt.Sprintf", "fmt.errorf"], inPlace := ["fmt.Sprintf", "fmt.errorf"], named := ["example.com/latchkey/latchkey/internal/wire.errShort"], ifaces := true, apart := false, laid := [("example.com/latchkey/latchkey/internal/wire.errShort", laid_example_com_latchkey_latchkey_internal_wire_errShort)] }
/-- NO THEOREM (fmt's text is open here; it may be false): for the released tool's asking of the row's closed facts alone. THE STATEMENT IS 'LawS0522ARoundTripToldSaid' (YbulkjucFmtCards.lean). -/
def LawS0522ARoundTripFormAsk : Prop := lawS0522ARoundTripRow.holds Ybaf.pinned (OpenSpec.ofChange lawS0522ARoundTripSpec)

/-- ITS FALSE NEIGHBOUR: 'it returns false'. Refute it at one input. -/
def lawS0522ARoundTripWrong : ChangeSpec := { name := "lawS0522ARoundTrip", vars := ["example.com/latchkey/latchkey/internal/wire.errShort"], fn := fun _ => fun
  | [d1, d2, d3, d4, g1] => { results := [.lit (.bool false)], args := [d1, d2, d3, d4], vars := [g1] }
  | _ => none }
def LawS0522ARoundTripWrongFormAsk : Prop := lawS0522ARoundTripRow.holds Ybaf.pinned (OpenSpec.ofChange lawS0522ARoundTripWrong)

end Rows
end Go.Proofs.YbulkjucFmt
