/-
  No cell of these rows narrows 'for every input' (looked for: loops, veiled, ifaces, maps, wideKeys, modest, calm, conditions, laid).
  DERIVED. THE GIVEN ROWS OF THIS SEAT. 3 by the template 'for every input the law returns true; each argument reads behind the call as it read before'; 0 by the template 'total and deterministic' (their statements: YbulkjtoTotals.lean).
  GIVEN WITH THE SEED: the statements are not yours to turn. If you find one false, say at which input.
  Laid BY PROGRAM, IN A SANDBOX (cutbox-rows.mjs): the forced cells as the released guide's own fill.sh prints them over the translation 26460deb9350e204… (all of the seat's roots in one cut). By AI agents, Wed Nov 11 2026. No macro, syntax, notation, axiom, sorry.
-/
import Derived.Test.YbulkjtoChecked
import GoSem.Claim
import GoSem.ClaimJoined
import GoSem.ClaimMapViews
import Derived.JoinedTies
import Derived.KernelRfl
namespace Go.Proofs.Ybulkjto
/- THE CELL 'sum', in the pinned program and in every row, IS THE sha256 OF THE DUMP (.gsa) THAT YbulkjtoProg.lean LOADS. Nothing in Lean hashes anything: it is a label: what it is worth is what the hold of that sum in a sandbox is worth. -/
noncomputable def Yba.pinned : Pinned := { name := "ybulkjto", sum := "26460deb9350e2045cc36fd3cfc1cdb812f2636931cc5d5c5d39dd92ce762002", checked := Yba.checked }
namespace Rows
def none {H : Type} : Left H := { results := [], args := [] }

/-- 'link.LawS0521BExact': WHATEVER THE INPUT: true; the input reads as it did. -/
def lawS0521BExactSpec : ChangeSpec := { name := "lawS0521BExact", fn := fun _ => fun
  | [d1, d2, d3, d4, d5, d6] => { results := [.lit (.bool true)], args := [d1, d2, d3, d4, d5, d6] }
  | _ => none }
def lawS0521BExactRow : OpenClaim := { program := "ybulkjto", sum := "26460deb9350e2045cc36fd3cfc1cdb812f2636931cc5d5c5d39dd92ce762002", func := "example.com/flashflood/flashflood/internal/link.LawS0521BExact", spec := "lawS0521BExact", apart := false }
def LawS0521BExactSaid : Prop := lawS0521BExactRow.holds Yba.pinned (OpenSpec.ofChange lawS0521BExactSpec)

/-- ITS FALSE NEIGHBOUR: 'it returns false'. Refute it at one input. -/
def lawS0521BExactWrong : ChangeSpec := { name := "lawS0521BExact", fn := fun _ => fun
  | [d1, d2, d3, d4, d5, d6] => { results := [.lit (.bool false)], args := [d1, d2, d3, d4, d5, d6] }
  | _ => none }
def LawS0521BExactWrongFalsely : Prop := lawS0521BExactRow.holds Yba.pinned (OpenSpec.ofChange lawS0521BExactWrong)

/-- 'link.LawS0521CCount': WHATEVER THE INPUT: true; the input reads as it did. -/
def lawS0521CCountSpec : ChangeSpec := { name := "lawS0521CCount", fn := fun _ => fun
  | [d1, d2] => { results := [.lit (.bool true)], args := [d1, d2] }
  | _ => none }
def lawS0521CCountRow : OpenClaim := { program := "ybulkjto", sum := "26460deb9350e2045cc36fd3cfc1cdb812f2636931cc5d5c5d39dd92ce762002", func := "example.com/flashflood/flashflood/internal/link.LawS0521CCount", spec := "lawS0521CCount", apart := false }
def LawS0521CCountSaid : Prop := lawS0521CCountRow.holds Yba.pinned (OpenSpec.ofChange lawS0521CCountSpec)

/-- ITS FALSE NEIGHBOUR: 'it returns false'. Refute it at one input. -/
def lawS0521CCountWrong : ChangeSpec := { name := "lawS0521CCount", fn := fun _ => fun
  | [d1, d2] => { results := [.lit (.bool false)], args := [d1, d2] }
  | _ => none }
def LawS0521CCountWrongFalsely : Prop := lawS0521CCountRow.holds Yba.pinned (OpenSpec.ofChange lawS0521CCountWrong)

/-- 'link.LawS0521CTwice': WHATEVER THE INPUT: true; the input reads as it did. -/
def lawS0521CTwiceSpec : ChangeSpec := { name := "lawS0521CTwice", fn := fun _ => fun
  | [d1, d2] => { results := [.lit (.bool true)], args := [d1, d2] }
  | _ => none }
def lawS0521CTwiceRow : OpenClaim := { program := "ybulkjto", sum := "26460deb9350e2045cc36fd3cfc1cdb812f2636931cc5d5c5d39dd92ce762002", func := "example.com/flashflood/flashflood/internal/link.LawS0521CTwice", spec := "lawS0521CTwice", apart := false }
def LawS0521CTwiceSaid : Prop := lawS0521CTwiceRow.holds Yba.pinned (OpenSpec.ofChange lawS0521CTwiceSpec)

/-- ITS FALSE NEIGHBOUR: 'it returns false'. Refute it at one input. -/
def lawS0521CTwiceWrong : ChangeSpec := { name := "lawS0521CTwice", fn := fun _ => fun
  | [d1, d2] => { results := [.lit (.bool false)], args := [d1, d2] }
  | _ => none }
def LawS0521CTwiceWrongFalsely : Prop := lawS0521CTwiceRow.holds Yba.pinned (OpenSpec.ofChange lawS0521CTwiceWrong)

end Rows
end Go.Proofs.Ybulkjto
