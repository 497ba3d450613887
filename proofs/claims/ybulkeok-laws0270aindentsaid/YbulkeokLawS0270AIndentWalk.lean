import Derived.Test.YbulkeokWalks2
import Derived.OpenShut
namespace Go.Proofs.Ybulkeok.lawS0270AIndent
open Go.RowKit
set_option linter.unusedVariables false
theorem walk (a0 : ByteArray) (a1 : Int) (a2 : Int) (a3 : Int) (a4 : Int) (w0 : a0.size ≤ maxLen) (w1 : (Lit.int .u64 a1).wf = true) (w2 : (Lit.int .i64 a2).wf = true) (w3 : (Lit.int .i64 a3).wf = true) (w4 : (Lit.int .i64 a4).wf = true) (w : World) :
    Calls Yba.prog 3 #[.string a0, .int .u64 a1, .int .i64 a2, .int .i64 a3, .int .i64 a4] w fun e w' => e = .returned (.bool true) ∧ Grown w w' := by
  have b1 := bounds_u64 w1
  by_cases hs : a0.size ≤ 1024
  · obtain ⟨st, hst, hst'⟩ : ∃ st : Nat, st ≤ a0.size ∧ Hid (wrap64 (a1 % (↑a0.size + 1)) = (st : Int)) := by
      have h1 : 0 ≤ a1 % ((a0.size : Int) + 1) := Int.emod_nonneg _ (by omega)
      have h2 : a1 % ((a0.size : Int) + 1) < (a0.size : Int) + 1 := Int.emod_lt_of_pos _ (by omega)
      refine ⟨(a1 % ((a0.size : Int) + 1)).toNat, by omega, ?_⟩
      simp only [Hid]
      unfold wrap64
      omega
    have hub := blanks_ub a0 st hst
    by_cases hc : a3 = a2
    · subst hc
      have hcc : (a3 == a3) = true := by simp
      go_enter Yba.func3, Yba.ntmps3
      go_wp2_with fail
      rw [hst'.out]
      refine (blanks_calls a0 st hst hs _).mono ?_
      rintro e w' ⟨rfl, rfl⟩
      go_wp2_with fail
      have hi := indent_cached a0 st a3 st (.int .u8 0) a3 a4 rfl w 0
      rw [World.drewN_zero] at hi
      unfold sc at hi
      refine hi.mono ?_
      rintro e w' ⟨rfl, n, rfl⟩
      clear hi
      go_wp2_with fail
      have hi := indent_cached a0 st a3 st (.int .u8 0) a3 a4 rfl w n
      unfold sc at hi
      refine hi.mono ?_
      rintro e w' ⟨rfl, n', rfl⟩
      clear hi
      go_wp2_with fail
      go_ret
      exact ⟨by simp, (Grown.refl w).alloc _ _⟩
    · have hcc : (a3 == a2) = false := by simp [hc]
      have hi1 := indent_fresh a0 st a2 st hst hs (.int .u8 0) a3 a4 hc w 0
      rw [World.drewN_zero] at hi1
      have hi2 := fun n => indent_cached a0 st a2 st (.int .u8 0) a2 ((blanks (a0.data.toList.drop st) : Nat) + 1) rfl w n
      unfold sc at hi1 hi2
      have hb0 := blanks_calls a0 st hst hs
      generalize (blanks (a0.data.toList.drop st)) = bl at *
      clear hc
      have HI1 : Hid _ := hi1
      have HI2 : Hid _ := hi2
      have HB : Hid _ := hb0
      clear hi1 hi2 hb0
      go_enter Yba.func3, Yba.ntmps3
      go_wp2_with fail
      rw [hst'.out]
      refine Calls.mono (HB.out _) ?_
      rintro e w' ⟨rfl, rfl⟩
      go_wp2_with fail
      refine Calls.mono HI1.out ?_
      rintro e w' ⟨rfl, n, rfl⟩
      go_wp2_with fail
      refine Calls.mono (HI2.out n) ?_
      rintro e w' ⟨rfl, n', rfl⟩
      go_wp2_with fail
      go_ret
      exact ⟨by simp, (Grown.refl w).alloc _ _⟩
  · go_enter Yba.func3, Yba.ntmps3
    go_wp2_with fail
    go_ret
    exact ⟨rfl, by repeat (first | exact Grown.refl _ | apply Grown.drew | apply Grown.alloc)⟩
end Go.Proofs.Ybulkeok.lawS0270AIndent
