/-
  No cell of these rows narrows 'for every input' (looked for: loops, veiled, ifaces, maps, wideKeys, modest, calm, conditions, laid).
  DERIVED. THE GIVEN ROWS OF THIS SEAT. 4 by the template 'for every input the law returns true; each argument reads behind the call as it read before'; 0 by the template 'total and deterministic' (their statements: YbulkjuqTotals.lean).
  GIVEN WITH THE SEED: the statements are not yours to turn. If you find one false, say at which input.
  Laid BY PROGRAM, IN A SANDBOX (cutbox-rows.mjs): the forced cells as the released guide's own fill.sh prints them over the translation 328cc4fafdcde25d… (all of the seat's roots in one cut). By AI agents, Wed Nov 11 2026. No macro, syntax, notation, axiom, sorry.
-/
import Derived.Test.YbulkjuqChecked
import GoSem.Claim
import GoSem.ClaimJoined
import GoSem.ClaimMapViews
import Derived.JoinedTies
import Derived.KernelRfl
namespace Go.Proofs.Ybulkjuq
/- THE CELL 'sum', in the pinned program and in every row, IS THE sha256 OF THE DUMP (.gsa) THAT YbulkjuqProg.lean LOADS. Nothing in Lean hashes anything: it is a label: what it is worth is what the hold of that sum in a sandbox is worth. -/
noncomputable def Yba.pinned : Pinned := { name := "ybulkjuq", sum := "328cc4fafdcde25db1c0875e7c77667e8c57ce26105511f76110b66e34a2c18a", checked := Yba.checked }
namespace Rows
def none {H : Type} : Left H := { results := [], args := [] }

/-- 'canonsign.LawS0523AExact': WHATEVER THE INPUT: true; the input reads as it did. -/
def lawS0523AExactSpec : ChangeSpec := { name := "lawS0523AExact", fn := fun _ => fun
  | [d1, d2] => { results := [.lit (.bool true)], args := [d1, d2] }
  | _ => none }
def lawS0523AExactRow : OpenClaim := { program := "ybulkjuq", sum := "328cc4fafdcde25db1c0875e7c77667e8c57ce26105511f76110b66e34a2c18a", func := "example.com/canonsign/canonsign.LawS0523AExact", spec := "lawS0523AExact", apart := false }
def LawS0523AExactSaid : Prop := lawS0523AExactRow.holds Yba.pinned (OpenSpec.ofChange lawS0523AExactSpec)

/-- ITS FALSE NEIGHBOUR: 'it returns false'. Refute it at one input. -/
def lawS0523AExactWrong : ChangeSpec := { name := "lawS0523AExact", fn := fun _ => fun
  | [d1, d2] => { results := [.lit (.bool false)], args := [d1, d2] }
  | _ => none }
def LawS0523AExactWrongFalsely : Prop := lawS0523AExactRow.holds Yba.pinned (OpenSpec.ofChange lawS0523AExactWrong)

/-- 'canonsign.LawS0523ASplit': WHATEVER THE INPUT: true; the input reads as it did. -/
def lawS0523ASplitSpec : ChangeSpec := { name := "lawS0523ASplit", fn := fun _ => fun
  | [d1, d2] => { results := [.lit (.bool true)], args := [d1, d2] }
  | _ => none }
def lawS0523ASplitRow : OpenClaim := { program := "ybulkjuq", sum := "328cc4fafdcde25db1c0875e7c77667e8c57ce26105511f76110b66e34a2c18a", func := "example.com/canonsign/canonsign.LawS0523ASplit", spec := "lawS0523ASplit", apart := false }
def LawS0523ASplitSaid : Prop := lawS0523ASplitRow.holds Yba.pinned (OpenSpec.ofChange lawS0523ASplitSpec)

/-- ITS FALSE NEIGHBOUR: 'it returns false'. Refute it at one input. -/
def lawS0523ASplitWrong : ChangeSpec := { name := "lawS0523ASplit", fn := fun _ => fun
  | [d1, d2] => { results := [.lit (.bool false)], args := [d1, d2] }
  | _ => none }
def LawS0523ASplitWrongFalsely : Prop := lawS0523ASplitRow.holds Yba.pinned (OpenSpec.ofChange lawS0523ASplitWrong)

/-- 'canonsign.LawS0523BSum': WHATEVER THE INPUT: true; the input reads as it did. -/
def lawS0523BSumSpec : ChangeSpec := { name := "lawS0523BSum", fn := fun _ => fun
  | [d1, d2] => { results := [.lit (.bool true)], args := [d1, d2] }
  | _ => none }
def lawS0523BSumRow : OpenClaim := { program := "ybulkjuq", sum := "328cc4fafdcde25db1c0875e7c77667e8c57ce26105511f76110b66e34a2c18a", func := "example.com/canonsign/canonsign.LawS0523BSum", spec := "lawS0523BSum", apart := false }
def LawS0523BSumSaid : Prop := lawS0523BSumRow.holds Yba.pinned (OpenSpec.ofChange lawS0523BSumSpec)

/-- ITS FALSE NEIGHBOUR: 'it returns false'. Refute it at one input. -/
def lawS0523BSumWrong : ChangeSpec := { name := "lawS0523BSum", fn := fun _ => fun
  | [d1, d2] => { results := [.lit (.bool false)], args := [d1, d2] }
  | _ => none }
def LawS0523BSumWrongFalsely : Prop := lawS0523BSumRow.holds Yba.pinned (OpenSpec.ofChange lawS0523BSumWrong)

/-- 'canonsign.LawS0523BSplit': WHATEVER THE INPUT: true; the input reads as it did. -/
def lawS0523BSplitSpec : ChangeSpec := { name := "lawS0523BSplit", fn := fun _ => fun
  | [d1, d2, d3] => { results := [.lit (.bool true)], args := [d1, d2, d3] }
  | _ => none }
def lawS0523BSplitRow : OpenClaim := { program := "ybulkjuq", sum := "328cc4fafdcde25db1c0875e7c77667e8c57ce26105511f76110b66e34a2c18a", func := "example.com/canonsign/canonsign.LawS0523BSplit", spec := "lawS0523BSplit", apart := false }
def LawS0523BSplitSaid : Prop := lawS0523BSplitRow.holds Yba.pinned (OpenSpec.ofChange lawS0523BSplitSpec)

/-- ITS FALSE NEIGHBOUR: 'it returns false'. Refute it at one input. -/
def lawS0523BSplitWrong : ChangeSpec := { name := "lawS0523BSplit", fn := fun _ => fun
  | [d1, d2, d3] => { results := [.lit (.bool false)], args := [d1, d2, d3] }
  | _ => none }
def LawS0523BSplitWrongFalsely : Prop := lawS0523BSplitRow.holds Yba.pinned (OpenSpec.ofChange lawS0523BSplitWrong)

end Rows
end Go.Proofs.Ybulkjuq
