/-
  DERIVED. GIVEN WITH THE SEED: THE CARDS: each row of YbulkeoyFmtRows.lean that lists a variable, with what it lists TIED to the program's text (the seventh form; the later family's looks); each row that meets fmt, with fmt's text TOLD by the authors' own Lean function (tested against real Go, not proved from fmt's source: count such statements apart). THE CARD IS WHAT COUNTS. Prove the row's statement (the work); the ties are given (YbulkeoyFmtTie.lean); close each card by the builder's one call (the guide's Derived/Test/ToyasCard.lean, 'card_holds'). Laid BY PROGRAM, IN A SANDBOX (cutbox-door.mjs). By AI agents, Wed Nov 11 2026. No macro, syntax, notation, axiom, sorry.
-/
import Derived.Test.YbulkeoyFmtRows
import GoSem.ClaimSeven
namespace Go.Proofs.YbulkeoyFmt
namespace Rows

/-- THE TOLD CARD OF 'offsetwise.LawS0271CLayout'. -/
def lawS0271CLayoutCard : Claim7 := { stood := { row := lawS0271CLayoutRow, standIns := [], harness := (true, "762a43fd05ba495df7e19533e6abd501ff18c8a91abdd641cd7837b0f80f90dd"), looks := false }, told := true, goes := false }
def LawS0271CLayoutToldSaid : Prop := Claim7.holds Ybaf.pinned (.plain (OpenSpec.ofChange lawS0271CLayoutSpec)) lawS0271CLayoutCard
/-- ITS FALSE NEIGHBOUR. Refute it at one input. -/
def LawS0271CLayoutToldWrongFalsely : Prop := Claim7.holds Ybaf.pinned (.plain (OpenSpec.ofChange lawS0271CLayoutWrong)) lawS0271CLayoutCard

/-- THE TOLD CARD OF 'offsetwise.LawS0271CInTable'. -/
def lawS0271CInTableCard : Claim7 := { stood := { row := lawS0271CInTableRow, standIns := [], harness := (true, "762a43fd05ba495df7e19533e6abd501ff18c8a91abdd641cd7837b0f80f90dd"), looks := false }, told := true, goes := false }
def LawS0271CInTableToldSaid : Prop := Claim7.holds Ybaf.pinned (.plain (OpenSpec.ofChange lawS0271CInTableSpec)) lawS0271CInTableCard
/-- ITS FALSE NEIGHBOUR. Refute it at one input. -/
def LawS0271CInTableToldWrongFalsely : Prop := Claim7.holds Ybaf.pinned (.plain (OpenSpec.ofChange lawS0271CInTableWrong)) lawS0271CInTableCard
end Rows
end Go.Proofs.YbulkeoyFmt
