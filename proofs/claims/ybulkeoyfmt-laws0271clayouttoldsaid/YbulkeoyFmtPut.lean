import Derived.Test.YbulkeoyFmtBase
namespace Go.Proofs.YbulkeoyFmt
open Go.RowKit

set_option maxHeartbeats 1000000 in
theorem put_raw (S o n cap : Nat) (v x0 x1 x2 x3 : Int) (W : World) (hv : 0 ≤ v ∧ v ≤ 4294967295) (hn : 4 ≤ n) (hn2 : n ≤ 1000000) (hS : S < W.heap.size)
    (c0 : W.cell? ⟨S, o, none⟩ = some (.int .u8 x0)) (c1 : W.cell? ⟨S, o + 1, none⟩ = some (.int .u8 x1)) (c2 : W.cell? ⟨S, o + 2, none⟩ = some (.int .u8 x2)) (c3 : W.cell? ⟨S, o + 3, none⟩ = some (.int .u8 x3))
    (f : ∀ i, W.frozen? ⟨S, i, none⟩ = false) :
    Calls Ybaf.prog 15 #[.agg #[], .slice (some ⟨S, o, none⟩) n cap, .int .u32 v] W fun e w' => e = .returned (.tuple #[]) ∧
      w' = ((((W.setCell ⟨S, o, none⟩ (.int .u8 (v % 256))).setCell ⟨S, o + 1, none⟩ (.int .u8 (v / 256 % 256))).setCell ⟨S, o + 2, none⟩ (.int .u8 (v / 65536 % 256))).setCell ⟨S, o + 3, none⟩ (.int .u8 (v / 16777216))).alloc (.cells #[] 41) := by
  go_enter Ybaf.func15, Ybaf.ntmps15
  go_wp2
  go_end0
  exact ⟨rfl, rfl⟩
end Go.Proofs.YbulkeoyFmt
