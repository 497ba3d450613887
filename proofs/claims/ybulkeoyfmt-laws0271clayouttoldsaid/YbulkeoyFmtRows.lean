/-
  No cell of these rows narrows 'for every input' (looked for: loops, veiled, ifaces, maps, wideKeys, modest, calm, conditions, laid).
  DERIVED. THE GIVEN ROWS OF THIS SEAT. 2 by the template 'for every input the law returns true; each argument reads behind the call as it read before'; 0 by the template 'total and deterministic' (their statements: YbulkeoyFmtTotals.lean).
  GIVEN WITH THE SEED: the statements are not yours to turn. If you find one false, say at which input.
  Laid BY PROGRAM, IN A SANDBOX (cutbox-rows.mjs): the forced cells as the released guide's own fill.sh prints them over the translation 03eddab617878e3b… (all of the seat's roots in one cut). By AI agents, Wed Nov 11 2026. No macro, syntax, notation, axiom, sorry.
-/
import Derived.Test.YbulkeoyFmtChecked
import GoSem.Claim
import GoSem.ClaimJoined
import GoSem.ClaimMapViews
import Derived.JoinedTies
import Derived.KernelRfl
namespace Go.Proofs.YbulkeoyFmt
/- THE CELL 'sum', in the pinned program and in every row, IS THE sha256 OF THE DUMP (.gsa) THAT YbulkeoyFmtProg.lean LOADS. Nothing in Lean hashes anything: it is a label: what it is worth is what the hold of that sum in a sandbox is worth. -/
noncomputable def Ybaf.pinned : Pinned := { name := "ybulkeoyfmt", sum := "03eddab617878e3ba7ed0ffdce300da1fd42abfeecdd2035647f050b47402341", checked := Ybaf.checked }
namespace Rows
def none {H : Type} : Left H := { results := [], args := [] }

/-- 'offsetwise.LawS0271CLayout': WHATEVER THE INPUT: true; the input reads as it did. -/
def lawS0271CLayoutSpec : ChangeSpec := { name := "lawS0271CLayout", fn := fun _ => fun
  | [d1, d2, d3, d4, d5] => { results := [.lit (.bool true)], args := [d1, d2, d3, d4, d5] }
  | _ => none }
def lawS0271CLayoutRow : OpenClaim := { program := "ybulkeoyfmt", sum := "03eddab617878e3ba7ed0ffdce300da1fd42abfeecdd2035647f050b47402341", func := "example.com/offsetwise/offsetwise.LawS0271CLayout", spec := "lawS0271CLayout", stops := ["fmt.errorf, its operands' methods called"], inPlace := ["fmt.errorf"], unfollowed := true, recurses := true, named := ["encoding/binary.LittleEndian"], apart := false }
/-- NO THEOREM (fmt's text is open here; it may be false): for the released tool's asking of the row's closed facts alone. THE STATEMENT IS 'LawS0271CLayoutToldSaid' (YbulkeoyFmtCards.lean). -/
def LawS0271CLayoutFormAsk : Prop := lawS0271CLayoutRow.holds Ybaf.pinned (OpenSpec.ofChange lawS0271CLayoutSpec)

/-- ITS FALSE NEIGHBOUR: 'it returns false'. Refute it at one input. -/
def lawS0271CLayoutWrong : ChangeSpec := { name := "lawS0271CLayout", fn := fun _ => fun
  | [d1, d2, d3, d4, d5] => { results := [.lit (.bool false)], args := [d1, d2, d3, d4, d5] }
  | _ => none }
def LawS0271CLayoutWrongFormAsk : Prop := lawS0271CLayoutRow.holds Ybaf.pinned (OpenSpec.ofChange lawS0271CLayoutWrong)

/-- 'offsetwise.LawS0271CInTable': WHATEVER THE INPUT: true; the input reads as it did. -/
def lawS0271CInTableSpec : ChangeSpec := { name := "lawS0271CInTable", fn := fun _ => fun
  | [d1, d2] => { results := [.lit (.bool true)], args := [d1, d2] }
  | _ => none }
def lawS0271CInTableRow : OpenClaim := { program := "ybulkeoyfmt", sum := "03eddab617878e3ba7ed0ffdce300da1fd42abfeecdd2035647f050b47402341", func := "example.com/offsetwise/offsetwise.LawS0271CInTable", spec := "lawS0271CInTable", stops := ["fmt.errorf, its operands' methods called"], inPlace := ["fmt.errorf"], unfollowed := true, recurses := true, named := ["encoding/binary.LittleEndian"], apart := false }
/-- NO THEOREM (fmt's text is open here; it may be false): for the released tool's asking of the row's closed facts alone. THE STATEMENT IS 'LawS0271CInTableToldSaid' (YbulkeoyFmtCards.lean). -/
def LawS0271CInTableFormAsk : Prop := lawS0271CInTableRow.holds Ybaf.pinned (OpenSpec.ofChange lawS0271CInTableSpec)

/-- ITS FALSE NEIGHBOUR: 'it returns false'. Refute it at one input. -/
def lawS0271CInTableWrong : ChangeSpec := { name := "lawS0271CInTable", fn := fun _ => fun
  | [d1, d2] => { results := [.lit (.bool false)], args := [d1, d2] }
  | _ => none }
def LawS0271CInTableWrongFormAsk : Prop := lawS0271CInTableRow.holds Ybaf.pinned (OpenSpec.ofChange lawS0271CInTableWrong)

end Rows
end Go.Proofs.YbulkeoyFmt
