import Derived.Test.YbulkeoyFmtLay2
import Derived.Test.YbulkeoyFmtLay3
namespace Go.Proofs.YbulkeoyFmt.lawS0271CLayout
open Go.RowKit Go.Extern.Stop Go.Stop Go.Extern

set_option maxRecDepth 100000 in
theorem long0 (a0 : ByteArray) (a1 : Int) (a2 : ByteArray) (a3 a4 : Int) (w : World) (h : 1024 < a0.size) (hm : a0.size ≤ maxLen) :
    Calls Ybaf.prog 3 #[.string a0, .int .u8 a1, .string a2, .int .u8 a3, .int .u32 a4] w fun e w' => e = .returned (.bool true) ∧ Below w.heap.size w w' := by
  unfold maxLen at hm
  go_enter Ybaf.func3, Ybaf.ntmps3
  go_wp2
  go_ret
  exact ⟨rfl, Below.refl _ _⟩
set_option maxRecDepth 100000 in
theorem long2 (a0 : ByteArray) (a1 : Int) (a2 : ByteArray) (a3 a4 : Int) (w : World) (h0 : a0.size ≤ 1024) (h : 1024 < a2.size) (hm : a2.size ≤ maxLen) :
    Calls Ybaf.prog 3 #[.string a0, .int .u8 a1, .string a2, .int .u8 a3, .int .u32 a4] w fun e w' => e = .returned (.bool true) ∧ Below w.heap.size w w' := by
  unfold maxLen at hm
  have d0 : decide (1024 < (a0.size : Int)) = false := by simp; omega
  go_enter Ybaf.func3, Ybaf.ntmps3
  go_wp2
  go_ret
  exact ⟨rfl, Below.refl _ _⟩

theorem walk (F : Interp) (a0 : ByteArray) (a1 : Int) (a2 : ByteArray) (a3 a4 : Int) (w0 : a0.size ≤ maxLen) (w1 : (Lit.int .u8 a1).wf = true) (w2 : a2.size ≤ maxLen) (w3 : (Lit.int .u8 a3).wf = true) (w4 : (Lit.int .u32 a4).wf = true) (w : World) (hF : F.answers w.tape) :
    Calls Ybaf.prog 3 #[.string a0, .int .u8 a1, .string a2, .int .u8 a3, .int .u32 a4] w fun e w' => e = .returned (.bool true) ∧ Below w.heap.size w w' := by
  have b1 := bounds_u8 w1
  have b3 := bounds_u8 w3
  have b4 := bounds_u32 w4
  by_cases h0 : a0.size ≤ 1024
  · by_cases h2 : a2.size ≤ 1024
    · by_cases hpar : (a3 % 2 == 0) = true
      · exact walk_even F a0 a1 a2 a3 a4 h0 h2 b1 b3 hpar w hF
      · obtain ⟨off, rfl⟩ : ∃ n : Nat, a4 = n := ⟨a4.toNat, by omega⟩
        exact walk_odd F a0 a1 a2 a3 off h0 h2 b1 b3 (by omega) (by simpa using hpar) w hF
    · exact long2 a0 a1 a2 a3 a4 w h0 (by omega) w2
  · exact long0 a0 a1 a2 a3 a4 w (by omega) w0
end Go.Proofs.YbulkeoyFmt.lawS0271CLayout
