import Derived.Test.YbulkeoyFmtTable
namespace Go.Proofs.YbulkeoyFmt
open Go.RowKit Go.Extern.Stop Go.Stop Go.Extern

/-- The zero Builder as the laws lay it. -/
theorem zero_bn (w0 W : World) (b0 : Nat) (hb : Below b0 w0 W) (h0 : b0 ≤ W.heap.size) :
    Bn b0 w0 (W.alloc (.cells #[.bool false, .slice none 0 0, .int .i64 0, .int .i64 0, .map none, .int .u64 0, .int .u32 0, .int .u32 0, .int .u32 0, .int .u32 0, .int .u32 0, .int .u32 0, .int .u32 0, .int .u32 0, .slice none 0 0, .bool false, .int .u32 0, .slice none 0 0, .nilIface] 35)) W.heap.size := by
  have k := fun i => World.cell?_alloc_at (w := W) (#[.bool false, .slice none 0 0, .int .i64 0, .int .i64 0, .map none, .int .u64 0, .int .u32 0, .int .u32 0, .int .u32 0, .int .u32 0, .int .u32 0, .int .u32 0, .int .u32 0, .int .u32 0, .slice none 0 0, .bool false, .int .u32 0, .slice none 0 0, .nilIface] : Array Value) 35 W.heap.size i rfl
  exact ⟨hb.alloc h0 _, h0, by rw [k]; rfl, by rw [k]; rfl, by rw [k]; rfl, by rw [k]; rfl, by rw [k]; rfl, by rw [k]; rfl, by rw [k]; rfl, fun i => World.frozen?_alloc_at _ _ _ _ rfl⟩

theorem eql_nil (w : World) : (binOp .eql 24 (.slice none 0 0) (.slice none 0 0)).run Ybaf.prog w = .ok (.bool true) w := by kernel_rfl

namespace lawS0271CInTable
set_option maxRecDepth 100000 in
set_option maxHeartbeats 1000000 in
set_option linter.unusedVariables false in
theorem walk (F : Interp) (a0 : ByteArray) (a1 : Int) (w0 : a0.size ≤ maxLen) (w1 : (Lit.int .u8 a1).wf = true) (w : World) (hF : F.answers w.tape) :
    Calls Ybaf.prog 4 #[.string a0, .int .u8 a1] w fun e w' => e = .returned (.bool true) ∧ Below w.heap.size w w' := by
  have b1 := bounds_u8 w1
  by_cases hs : a0.size ≤ 1024
  · have HC : Hid _ := create_bn (zero_bn w w w.heap.size (Below.refl _ _) (Nat.le_refl _)) a0 hs
    have hp := padTo_lt 0 (a0.size + 5)
    have HF : Hid _ := hF
    clear hF
    obtain ⟨k, hk, hk'⟩ : ∃ k : Nat, k < 16 ∧ Hid (a1 % 16 = (k : Int)) := ⟨(a1 % 16).toNat, by omega, by simp only [Hid]; omega⟩
    go_enter Ybaf.func4, Ybaf.ntmps4
    go_wp2_with fail
    refine Calls.mono HC.out ?_
    clear HC
    rintro e w' ⟨rfl, S, h, b, hb⟩
    obtain ⟨x, hx⟩ : ∃ x, x = a0.size + 5 + padTo 0 (a0.size + 5) := ⟨_, rfl⟩
    rw [← hx] at b hb ⊢
    have hx1 : 0 < x := by omega
    clear hx hp
    go_wp2_with fail
    rw [hk'.out]
    refine Calls.mono (start_bd b (by omega) k (by omega)) ?_
    clear b
    rintro e w' ⟨rfl, fl, b⟩
    go_wp2_with fail
    refine Calls.mono (finish_in F HF.out b (by omega) x (by omega) (by omega)) ?_
    rintro e w' ⟨p, rfl, hbl⟩
    have HB : Hid _ := hbl
    clear hbl b
    have heq := eql_nil
    go_wp2
    go_ret
    exact ⟨by simp, HB.out⟩
  · unfold maxLen at w0
    go_enter Ybaf.func4, Ybaf.ntmps4
    go_wp2
    go_ret
    exact ⟨rfl, Below.refl _ _⟩
end lawS0271CInTable
end Go.Proofs.YbulkeoyFmt
