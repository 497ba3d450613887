import Derived.Test.YbulkeokWalks2
import Derived.OpenShut
namespace Go.Proofs.Ybulkeok.lawS0270AFreshThenCached
open Go.RowKit
set_option linter.unusedVariables false

theorem new_calls (s : ByteArray) (w : World) :
    Calls Yba.prog 7 #[.string s] w fun e w' => e = .returned (.pointer (some ⟨w.heap.size, 0, none⟩)) ∧ w' = w.alloc (.cells #[.string s, .int .i64 0, .int .i64 1, .int .i64 0, .int .u8 0, .int .i64 0, .int .i64 0] 30) := by
  go_enter Yba.func7, Yba.ntmps7
  go_wp2
  go_ret
  exact ⟨rfl, rfl⟩

theorem set3 (w : World) (n : Nat) (v0 v1 v2 v3 v4 v5 v6 v : Value) : ((w.alloc (.cells #[v0, v1, v2, v3, v4, v5, v6] 30)).drewN n).setCell ⟨w.heap.size, 3, none⟩ v = (w.alloc (.cells #[v0, v1, v2, v, v4, v5, v6] 30)).drewN n := by
  show ((w.alloc (.cells #[v0, v1, v2, v3, v4, v5, v6] 30)).setCell ⟨w.heap.size, 3, none⟩ v).drewN n = _
  rw [World.setCell_alloc_at _ _ _ _ _ rfl]
  rfl
theorem set2 (w : World) (n : Nat) (v0 v1 v2 v3 v4 v5 v6 v : Value) : ((w.alloc (.cells #[v0, v1, v2, v3, v4, v5, v6] 30)).drewN n).setCell ⟨w.heap.size, 2, none⟩ v = (w.alloc (.cells #[v0, v1, v, v3, v4, v5, v6] 30)).drewN n := by
  show ((w.alloc (.cells #[v0, v1, v2, v3, v4, v5, v6] 30)).setCell ⟨w.heap.size, 2, none⟩ v).drewN n = _
  rw [World.setCell_alloc_at _ _ _ _ _ rfl]
  rfl

theorem rem_fits (a1 : Int) (n : Nat) (hn : n ≤ 1024) : ∃ st : Nat, st ≤ n ∧ Hid (wrap64 (a1 % (↑n + 1)) = (st : Int)) := by
  have h1 : 0 ≤ a1 % ((n : Int) + 1) := Int.emod_nonneg _ (by omega)
  have h2 : a1 % ((n : Int) + 1) < (n : Int) + 1 := Int.emod_lt_of_pos _ (by omega)
  refine ⟨(a1 % ((n : Int) + 1)).toNat, by omega, ?_⟩
  simp only [Hid]
  unfold wrap64
  omega

theorem walk (a0 : ByteArray) (a1 : Int) (a2 : Int) (w0 : a0.size ≤ maxLen) (w1 : (Lit.int .u64 a1).wf = true) (w2 : (Lit.int .u64 a2).wf = true) (w : World) :
    Calls Yba.prog 4 #[.string a0, .int .u64 a1, .int .u64 a2] w fun e w' => e = .returned (.bool true) ∧ Grown w w' := by
  have b1 := bounds_u64 w1
  have b2 := bounds_u64 w2
  by_cases hs : a0.size ≤ 1024
  · obtain ⟨st, hst, hst'⟩ := rem_fits a1 a0.size hs
    obtain ⟨mv, hmv, hmv'⟩ := rem_fits a2 a0.size hs
    have hub := blanks_ub a0 st hst
    have hub2 := blanks_ub a0 mv hmv
    have hb0 := blanks_calls a0 st hst hs
    have hb1 := blanks_calls a0 mv hmv hs
    have hi1 := fun w n => indent_fresh a0 st 1 st hst hs (.int .u8 0) 0 0 (by decide) w n
    have hi2 := fun w n x => indent_cached a0 st 1 mv (.int .u8 0) 1 x rfl w n
    have hi3 := fun w n x => indent_fresh a0 st 2 mv hmv hs (.int .u8 0) 1 x (by decide) w n
    unfold sc at hi1 hi2 hi3
    generalize (blanks (a0.data.toList.drop st)) = bl at *
    generalize (blanks (a0.data.toList.drop mv)) = bm at *
    have HI1 : Hid _ := hi1
    have HI2 : Hid _ := hi2
    have HI3 : Hid _ := hi3
    have HB : Hid _ := hb0
    have HC : Hid _ := hb1
    clear hi1 hi2 hi3 hb0 hb1
    go_enter Yba.func4, Yba.ntmps4
    go_wp2_with fail
    refine (new_calls a0 _).mono ?_
    rintro e w' ⟨rfl, rfl⟩
    go_wp2_with fail
    rw [hst'.out]
    refine Calls.mono (HB.out _) ?_
    rintro e w' ⟨rfl, rfl⟩
    go_wp2_with fail
    refine Calls.mono (HI1.out w 0) ?_
    rintro e w' ⟨rfl, n, rfl⟩
    go_wp2_with fail
    rw [hmv'.out, set3]
    refine Calls.mono (HI2.out w n _) ?_
    rintro e w' ⟨rfl, n2, rfl⟩
    go_wp2_with fail
    rw [set2]
    refine Calls.mono (HC.out _) ?_
    rintro e w' ⟨rfl, rfl⟩
    go_wp2_with fail
    refine Calls.mono (HI3.out w n2 _) ?_
    rintro e w' ⟨rfl, n3, rfl⟩
    go_wp2_with fail
    go_ret
    exact ⟨by simp, (Grown.refl w).alloc _ _⟩
  · go_enter Yba.func4, Yba.ntmps4
    go_wp2_with fail
    go_ret
    exact ⟨rfl, by repeat (first | exact Grown.refl _ | apply Grown.drew | apply Grown.alloc)⟩
end Go.Proofs.Ybulkeok.lawS0270AFreshThenCached
