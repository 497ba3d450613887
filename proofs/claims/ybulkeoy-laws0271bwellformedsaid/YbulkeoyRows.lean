/-
  No cell of these rows narrows 'for every input' (looked for: loops, veiled, ifaces, maps, wideKeys, modest, calm, conditions, laid).
  DERIVED. THE GIVEN ROWS OF THIS SEAT. 3 by the template 'for every input the law returns true; each argument reads behind the call as it read before'; 0 by the template 'total and deterministic' (their statements: YbulkeoyTotals.lean).
  GIVEN WITH THE SEED: the statements are not yours to turn. If you find one false, say at which input.
  Laid BY PROGRAM, IN A SANDBOX (cutbox-rows.mjs): the forced cells as the released guide's own fill.sh prints them over the translation 26844b833c201ee7… (all of the seat's roots in one cut). By AI agents, Wed Nov 11 2026. No macro, syntax, notation, axiom, sorry.
-/
import Derived.Test.YbulkeoyChecked
import GoSem.Claim
import GoSem.ClaimJoined
import GoSem.ClaimMapViews
import Derived.JoinedTies
import Derived.KernelRfl
namespace Go.Proofs.Ybulkeoy
/- THE CELL 'sum', in the pinned program and in every row, IS THE sha256 OF THE DUMP (.gsa) THAT YbulkeoyProg.lean LOADS. Nothing in Lean hashes anything: it is a label: what it is worth is what the hold of that sum in a sandbox is worth. -/
noncomputable def Yba.pinned : Pinned := { name := "ybulkeoy", sum := "26844b833c201ee74c33e0f88817da5658981de8923fcd19f47479b124f60b23", checked := Yba.checked }
namespace Rows
def none {H : Type} : Left H := { results := [], args := [] }

/-- 'offsetwise.LawS0271ASetField': WHATEVER THE INPUT: true; the input reads as it did. -/
def lawS0271ASetFieldSpec : ChangeSpec := { name := "lawS0271ASetField", fn := fun _ => fun
  | [d1, d2, d3, d4, d5, d6] => { results := [.lit (.bool true)], args := [d1, d2, d3, d4, d5, d6] }
  | _ => none }
def lawS0271ASetFieldRow : OpenClaim := { program := "ybulkeoy", sum := "26844b833c201ee74c33e0f88817da5658981de8923fcd19f47479b124f60b23", func := "example.com/offsetwise/offsetwise.LawS0271ASetField", spec := "lawS0271ASetField", apart := false }
def LawS0271ASetFieldSaid : Prop := lawS0271ASetFieldRow.holds Yba.pinned (OpenSpec.ofChange lawS0271ASetFieldSpec)

/-- ITS FALSE NEIGHBOUR: 'it returns false'. Refute it at one input. -/
def lawS0271ASetFieldWrong : ChangeSpec := { name := "lawS0271ASetField", fn := fun _ => fun
  | [d1, d2, d3, d4, d5, d6] => { results := [.lit (.bool false)], args := [d1, d2, d3, d4, d5, d6] }
  | _ => none }
def LawS0271ASetFieldWrongFalsely : Prop := lawS0271ASetFieldRow.holds Yba.pinned (OpenSpec.ofChange lawS0271ASetFieldWrong)

/-- 'jsonform.LawS0271BExact': WHATEVER THE INPUT: true; the input reads as it did. -/
def lawS0271BExactSpec : ChangeSpec := { name := "lawS0271BExact", fn := fun _ => fun
  | [d1, d2, d3, d4] => { results := [.lit (.bool true)], args := [d1, d2, d3, d4] }
  | _ => none }
def lawS0271BExactRow : OpenClaim := { program := "ybulkeoy", sum := "26844b833c201ee74c33e0f88817da5658981de8923fcd19f47479b124f60b23", func := "example.com/offsetwise/offsetwise/internal/jsonform.LawS0271BExact", spec := "lawS0271BExact", apart := false }
def LawS0271BExactSaid : Prop := lawS0271BExactRow.holds Yba.pinned (OpenSpec.ofChange lawS0271BExactSpec)

/-- ITS FALSE NEIGHBOUR: 'it returns false'. Refute it at one input. -/
def lawS0271BExactWrong : ChangeSpec := { name := "lawS0271BExact", fn := fun _ => fun
  | [d1, d2, d3, d4] => { results := [.lit (.bool false)], args := [d1, d2, d3, d4] }
  | _ => none }
def LawS0271BExactWrongFalsely : Prop := lawS0271BExactRow.holds Yba.pinned (OpenSpec.ofChange lawS0271BExactWrong)

/-- 'jsonform.LawS0271BWellFormed': WHATEVER THE INPUT: true; the input reads as it did. -/
def lawS0271BWellFormedSpec : ChangeSpec := { name := "lawS0271BWellFormed", fn := fun _ => fun
  | [d1, d2, d3, d4, d5] => { results := [.lit (.bool true)], args := [d1, d2, d3, d4, d5] }
  | _ => none }
def lawS0271BWellFormedRow : OpenClaim := { program := "ybulkeoy", sum := "26844b833c201ee74c33e0f88817da5658981de8923fcd19f47479b124f60b23", func := "example.com/offsetwise/offsetwise/internal/jsonform.LawS0271BWellFormed", spec := "lawS0271BWellFormed", apart := false }
def LawS0271BWellFormedSaid : Prop := lawS0271BWellFormedRow.holds Yba.pinned (OpenSpec.ofChange lawS0271BWellFormedSpec)

/-- ITS FALSE NEIGHBOUR: 'it returns false'. Refute it at one input. -/
def lawS0271BWellFormedWrong : ChangeSpec := { name := "lawS0271BWellFormed", fn := fun _ => fun
  | [d1, d2, d3, d4, d5] => { results := [.lit (.bool false)], args := [d1, d2, d3, d4, d5] }
  | _ => none }
def LawS0271BWellFormedWrongFalsely : Prop := lawS0271BWellFormedRow.holds Yba.pinned (OpenSpec.ofChange lawS0271BWellFormedWrong)

end Rows
end Go.Proofs.Ybulkeoy
