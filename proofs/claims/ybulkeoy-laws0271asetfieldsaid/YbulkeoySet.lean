import Derived.Test.YbulkeoyRows
import Derived.WalkKit
import Derived.WalkSpells
import Derived.WalkLawsBesides
import Derived.Deep.QuietTactic
import Derived.BigQuiet
import Derived.Deep.RegionWith
import Derived.Outline
namespace Go.Proofs.Ybulkeoy
open Go.RowKit

set_option maxHeartbeats 400000 in
theorem length_calls (B : Nat) (L h : Nat) (ba : Option Addr) (bc : Nat) (W : World) (hL : L ≤ 65536) (hh : h ≤ L)
    (c1 : W.cell? ⟨B, 1, none⟩ = some (.slice ba L bc)) (c2 : W.cell? ⟨B, 2, none⟩ = some (.int .i64 h)) :
    Calls Yba.prog 15 #[.pointer (some ⟨B, 0, none⟩)] W fun e w' => e = .returned (.int .i64 ((L : Int) - h)) ∧ ∃ n, w' = W.drewN n := by
  go_enter Yba.func15, Yba.ntmps15
  go_wp2
  go_quiet (fail)
  go_wp2
  go_ret
  exact ⟨rfl, _, rfl⟩

set_option maxHeartbeats 400000 in
theorem at_calls (B : Nat) (L h : Nat) (ba : Option Addr) (bc : Nat) (W : World) (hL : L ≤ 65536) (hh : h ≤ L)
    (c1 : W.cell? ⟨B, 1, none⟩ = some (.slice ba L bc)) (c2 : W.cell? ⟨B, 2, none⟩ = some (.int .i64 h)) :
    Calls Yba.prog 13 #[.pointer (some ⟨B, 0, none⟩)] W fun e w' => e = .returned (.int .u32 ((L : Int) - h)) ∧ ∃ n, w' = W.drewN n := by
  have hl := length_calls B L h ba bc W hL hh c1 c2
  have HL : Hid _ := hl
  clear hl
  go_enter Yba.func13, Yba.ntmps13
  go_wp2_with fail
  refine Calls.mono HL.out ?_
  rintro e w' ⟨rfl, n, rfl⟩
  go_wp2
  go_ret
  exact ⟨rfl, _, rfl⟩

theorem fail_nil (B : Nat) (W : World) (c18 : W.cell? ⟨B, 18, none⟩ = some .nilIface) (f18 : W.frozen? ⟨B, 18, none⟩ = false) (t : TypeId) (p : Addr) :
    Calls Yba.prog 12 #[.pointer (some ⟨B, 0, none⟩), .iface t (.pointer (some p))] W fun e w' => e = .returned (.tuple #[]) ∧ w' = W.setCell ⟨B, 18, none⟩ (.iface t (.pointer (some p))) := by
  go_enter Yba.func12, Yba.ntmps12
  go_wp2
  go_end0
  exact ⟨rfl, rfl⟩
theorem fail_kept (B : Nat) (W : World) (t' : TypeId) (x : Value) (c18 : W.cell? ⟨B, 18, none⟩ = some (.iface t' x)) (t : TypeId) (p : Addr) :
    Calls Yba.prog 12 #[.pointer (some ⟨B, 0, none⟩), .iface t (.pointer (some p))] W fun e w' => e = .returned (.tuple #[]) ∧ w' = W := by
  go_enter Yba.func12, Yba.ntmps12
  go_wp2
  go_end0
  exact ⟨rfl, rfl⟩

set_option maxHeartbeats 400000 in
theorem setField_ok (B F : Nat) (L h n slot : Nat) (ba : Option Addr) (bc fc : Nat) (x : Int) (W : World) (hL : L ≤ 65536) (hh : h ≤ L) (hn : n ≤ 65536) (hs : slot < n)
    (c1 : W.cell? ⟨B, 1, none⟩ = some (.slice ba L bc)) (c2 : W.cell? ⟨B, 2, none⟩ = some (.int .i64 h))
    (c14 : W.cell? ⟨B, 14, none⟩ = some (.slice (some ⟨F, 0, none⟩) n fc)) (c15 : W.cell? ⟨B, 15, none⟩ = some (.bool true))
    (cF : W.cell? ⟨F, slot, none⟩ = some (.int .u32 x)) (fF : W.frozen? ⟨F, slot, none⟩ = false) :
    Calls Yba.prog 6 #[.pointer (some ⟨B, 0, none⟩), .int .i64 slot] W fun e w' => e = .returned (.tuple #[]) ∧ ∃ k, w' = (W.setCell ⟨F, slot, none⟩ (.int .u32 ((L : Int) - h))).drewN k := by
  have hlt : ¬ ((n : Int) ≤ (slot : Int)) := by omega
  go_enter Yba.func6, Yba.ntmps6
  go_wp2_with fail
  go_region_with (go_at_call 13; refine (at_calls B L h ba bc _ hL hh (by simp [c1]) (by simp [c2])).mono ?_; rintro e w' ⟨rfl, k, rfl⟩)
  all_goals (try go_wp2)
  all_goals go_end0
  all_goals exact ⟨rfl, _, rfl⟩

set_option maxHeartbeats 400000 in
theorem setField_bad (B : Nat) (n : Nat) (slot : Int) (it : Bool) (fa : Option Addr) (fc : Nat) (W : World) (hn : n ≤ 65536) (ws : -9223372036854775808 ≤ slot ∧ slot ≤ 9223372036854775807) (hbad : it = true → slot < 0 ∨ (n : Int) ≤ slot)
    (hB : B < W.heap.size)
    (c14 : W.cell? ⟨B, 14, none⟩ = some (.slice fa n fc)) (c15 : W.cell? ⟨B, 15, none⟩ = some (.bool it))
    (c18 : W.cell? ⟨B, 18, none⟩ = some .nilIface) (f18 : W.frozen? ⟨B, 18, none⟩ = false) :
    Calls Yba.prog 6 #[.pointer (some ⟨B, 0, none⟩), .int .i64 slot] W fun e w' => e = .returned (.tuple #[]) ∧ w' = (W.setCell ⟨B, 18, none⟩ (.iface 27 (.pointer (some ⟨W.heap.size, 0, none⟩)))).alloc (.cells #[.int .i64 slot] 40) := by
  cases it
  · go_enter Yba.func6, Yba.ntmps6
    go_wp2_with fail
    refine (fail_nil B _ (by rw [World.cell?_alloc_past _ _ _ hB]; exact c18) (by rw [World.frozen?_alloc_past _ _ _ hB]; exact f18) _ _).mono ?_
    rintro e w' ⟨rfl, rfl⟩
    go_wp2_with fail
    refine bodyPost_ret (results_none rfl _ _ _) rfl ?_
    exact ⟨rfl, rfl⟩
  · have hb := hbad rfl
    clear hbad
    rcases hb with hb | hb
    · have hw : (n : Int) ≤ IntKind.u64.wrap slot := by rw [IntKind.wrap_u64]; omega
      go_enter Yba.func6, Yba.ntmps6
      go_wp2_with fail
      refine (fail_nil B _ (by rw [World.cell?_alloc_past _ _ _ hB]; exact c18) (by rw [World.frozen?_alloc_past _ _ _ hB]; exact f18) _ _).mono ?_
      rintro e w' ⟨rfl, rfl⟩
      go_wp2_with fail
      refine bodyPost_ret (results_none rfl _ _ _) rfl ?_
      exact ⟨rfl, rfl⟩
    · go_enter Yba.func6, Yba.ntmps6
      go_wp2_with fail
      refine (fail_nil B _ (by rw [World.cell?_alloc_past _ _ _ hB]; exact c18) (by rw [World.frozen?_alloc_past _ _ _ hB]; exact f18) _ _).mono ?_
      rintro e w' ⟨rfl, rfl⟩
      go_wp2_with fail
      refine bodyPost_ret (results_none rfl _ _ _) rfl ?_
      exact ⟨rfl, rfl⟩

set_option maxHeartbeats 400000 in
theorem setField_kept (B : Nat) (n : Nat) (slot : Int) (it : Bool) (fa : Option Addr) (fc : Nat) (W : World) (hn : n ≤ 65536) (ws : -9223372036854775808 ≤ slot ∧ slot ≤ 9223372036854775807) (hbad : it = true → slot < 0 ∨ (n : Int) ≤ slot)
    (hB : B < W.heap.size)
    (c14 : W.cell? ⟨B, 14, none⟩ = some (.slice fa n fc)) (c15 : W.cell? ⟨B, 15, none⟩ = some (.bool it))
    (t' : TypeId) (x : Value) (c18 : W.cell? ⟨B, 18, none⟩ = some (.iface t' x)) :
    Calls Yba.prog 6 #[.pointer (some ⟨B, 0, none⟩), .int .i64 slot] W fun e w' => e = .returned (.tuple #[]) ∧ w' = W.alloc (.cells #[.int .i64 slot] 40) := by
  cases it
  · go_enter Yba.func6, Yba.ntmps6
    go_wp2_with fail
    refine (fail_kept B _ t' x (by rw [World.cell?_alloc_past _ _ _ hB]; exact c18) _ _).mono ?_
    rintro e w' ⟨rfl, rfl⟩
    go_wp2_with fail
    refine bodyPost_ret (results_none rfl _ _ _) rfl ?_
    exact ⟨rfl, rfl⟩
  · have hb := hbad rfl
    clear hbad
    rcases hb with hb | hb
    · have hw : (n : Int) ≤ IntKind.u64.wrap slot := by rw [IntKind.wrap_u64]; omega
      go_enter Yba.func6, Yba.ntmps6
      go_wp2_with fail
      refine (fail_kept B _ t' x (by rw [World.cell?_alloc_past _ _ _ hB]; exact c18) _ _).mono ?_
      rintro e w' ⟨rfl, rfl⟩
      go_wp2_with fail
      refine bodyPost_ret (results_none rfl _ _ _) rfl ?_
      exact ⟨rfl, rfl⟩
    · go_enter Yba.func6, Yba.ntmps6
      go_wp2_with fail
      refine (fail_kept B _ t' x (by rw [World.cell?_alloc_past _ _ _ hB]; exact c18) _ _).mono ?_
      rintro e w' ⟨rfl, rfl⟩
      go_wp2_with fail
      refine bodyPost_ret (results_none rfl _ _ _) rfl ?_
      exact ⟨rfl, rfl⟩

end Go.Proofs.Ybulkeoy
