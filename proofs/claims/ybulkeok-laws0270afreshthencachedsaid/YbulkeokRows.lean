/-
  No cell of these rows narrows 'for every input' (looked for: loops, veiled, ifaces, maps, wideKeys, modest, calm, conditions, laid).
  DERIVED. THE GIVEN ROWS OF THIS SEAT. 2 by the template 'for every input the law returns true; each argument reads behind the call as it read before'; 0 by the template 'total and deterministic' (their statements: YbulkeokTotals.lean).
  GIVEN WITH THE SEED: the statements are not yours to turn. If you find one false, say at which input.
  Laid BY PROGRAM, IN A SANDBOX (cutbox-rows.mjs): the forced cells as the released guide's own fill.sh prints them over the translation 0a8b8292daa5ad39… (all of the seat's roots in one cut). By AI agents, Wed Nov 11 2026. No macro, syntax, notation, axiom, sorry.
-/
import Derived.Test.YbulkeokChecked
import GoSem.Claim
import GoSem.ClaimJoined
import GoSem.ClaimMapViews
import Derived.JoinedTies
import Derived.KernelRfl
namespace Go.Proofs.Ybulkeok
/- THE CELL 'sum', in the pinned program and in every row, IS THE sha256 OF THE DUMP (.gsa) THAT YbulkeokProg.lean LOADS. Nothing in Lean hashes anything: it is a label: what it is worth is what the hold of that sum in a sandbox is worth. -/
noncomputable def Yba.pinned : Pinned := { name := "ybulkeok", sum := "0a8b8292daa5ad39c64d3bdd54b28907d693023f7f52f0b7f175d33c7403c017", checked := Yba.checked }
namespace Rows
def none {H : Type} : Left H := { results := [], args := [] }

/-- 'typewright.LawS0270AIndent': WHATEVER THE INPUT: true; the input reads as it did. -/
def lawS0270AIndentSpec : ChangeSpec := { name := "lawS0270AIndent", fn := fun _ => fun
  | [d1, d2, d3, d4, d5] => { results := [.lit (.bool true)], args := [d1, d2, d3, d4, d5] }
  | _ => none }
def lawS0270AIndentRow : OpenClaim := { program := "ybulkeok", sum := "0a8b8292daa5ad39c64d3bdd54b28907d693023f7f52f0b7f175d33c7403c017", func := "example.com/typewright/typewright.LawS0270AIndent", spec := "lawS0270AIndent", apart := false }
def LawS0270AIndentSaid : Prop := lawS0270AIndentRow.holds Yba.pinned (OpenSpec.ofChange lawS0270AIndentSpec)

/-- ITS FALSE NEIGHBOUR: 'it returns false'. Refute it at one input. -/
def lawS0270AIndentWrong : ChangeSpec := { name := "lawS0270AIndent", fn := fun _ => fun
  | [d1, d2, d3, d4, d5] => { results := [.lit (.bool false)], args := [d1, d2, d3, d4, d5] }
  | _ => none }
def LawS0270AIndentWrongFalsely : Prop := lawS0270AIndentRow.holds Yba.pinned (OpenSpec.ofChange lawS0270AIndentWrong)

/-- 'typewright.LawS0270AFreshThenCached': WHATEVER THE INPUT: true; the input reads as it did. -/
def lawS0270AFreshThenCachedSpec : ChangeSpec := { name := "lawS0270AFreshThenCached", fn := fun _ => fun
  | [d1, d2, d3] => { results := [.lit (.bool true)], args := [d1, d2, d3] }
  | _ => none }
def lawS0270AFreshThenCachedRow : OpenClaim := { program := "ybulkeok", sum := "0a8b8292daa5ad39c64d3bdd54b28907d693023f7f52f0b7f175d33c7403c017", func := "example.com/typewright/typewright.LawS0270AFreshThenCached", spec := "lawS0270AFreshThenCached", apart := false }
def LawS0270AFreshThenCachedSaid : Prop := lawS0270AFreshThenCachedRow.holds Yba.pinned (OpenSpec.ofChange lawS0270AFreshThenCachedSpec)

/-- ITS FALSE NEIGHBOUR: 'it returns false'. Refute it at one input. -/
def lawS0270AFreshThenCachedWrong : ChangeSpec := { name := "lawS0270AFreshThenCached", fn := fun _ => fun
  | [d1, d2, d3] => { results := [.lit (.bool false)], args := [d1, d2, d3] }
  | _ => none }
def LawS0270AFreshThenCachedWrongFalsely : Prop := lawS0270AFreshThenCachedRow.holds Yba.pinned (OpenSpec.ofChange lawS0270AFreshThenCachedWrong)

end Rows
end Go.Proofs.Ybulkeok
