import Derived.Test.YbulkeoyFmtGrow
namespace Go.Proofs.YbulkeoyFmt
open Go.RowKit
attribute [local go_sem] Go.wp_at_zero Go.wp_at_succ

theorem length_x (B h x : Nat) (ba : Option Addr) (bc : Nat) (W : World) (hL : h + x ≤ 1000000)
    (c1 : W.cell? ⟨B, 1, none⟩ = some (.slice ba (h + x) bc)) (c2 : W.cell? ⟨B, 2, none⟩ = some (.int .i64 h)) :
    Calls Ybaf.prog 20 #[.pointer (some ⟨B, 0, none⟩)] W fun e w' => e = .returned (.int .i64 (x : Int)) ∧ ∃ n, w' = W.drewN n := by
  have := length_raw B (h + x) h ba bc W hL (by omega) c1 c2
  rwa [show ((h + x : Nat) : Int) - (h : Int) = (x : Int) by omega] at this

set_option maxHeartbeats 2000000 in
theorem grow_some (B S h x y n : Nat) (cur : Array Value) (W : World) (hn : n ≤ 100000) (hL : h + x ≤ 100000) (hx : 0 < x) (hZ : Hid (y + x = max (max (2 * (h + x)) (h + x + n)) 256)) (hZ2 : y + x ≤ 300000) (hZ3 : h + x ≤ y + x) (hB : B < W.heap.size)
    (hS : W.heap[S]? = some (.cells cur 5 (0, 0))) (hcs : cur.size = h + x) (h1 : ∀ v ∈ cur, v.oneCell' = true)
    (c1 : W.cell? ⟨B, 1, none⟩ = some (.slice (some ⟨S, 0, none⟩) (h + x) (h + x))) (c2 : W.cell? ⟨B, 2, none⟩ = some (.int .i64 h)) (f1 : W.frozen? ⟨B, 1, none⟩ = false) (f2 : W.frozen? ⟨B, 2, none⟩ = false) :
    Calls Ybaf.prog 22 #[.pointer (some ⟨B, 0, none⟩), .int .i64 n] W fun e w' => e = .returned (.tuple #[]) ∧ ∃ k, w' = (((W.alloc (.cells (List.replicate y (Value.int .u8 0) ++ cur.toList.drop h).toArray 5)).setCell ⟨B, 2, none⟩ (.int .i64 y)).setCell ⟨B, 1, none⟩ (.slice (some ⟨W.heap.size, 0, none⟩) (y + x) (y + x))).drewN k := by
  have hmk : ∀ w : World, (Instr.makeSlice 24 (.int .i64 ((y : Int) + (x : Int))) (.int .i64 ((y : Int) + (x : Int)))).run Ybaf.prog w = .ok (.slice (some ⟨w.heap.size, 0, none⟩) (y + x) (y + x)) (w.alloc (.cells (madeCells #[.int .u8 0] (y + x)) 5)) := fun w => by
    have := run_make_row' (P := Ybaf.prog) 24 5 (.int .u8 0) 1 Ybaf.underlying24 Ybaf.info5 rfl .i64 .i64 (y + x) (by omega) (by omega) w
    rw [show ((y + x : Nat) : Int) = (y : Int) + (x : Int) by omega] at this
    exact this
  have HC : Hid (∀ m ty, (Builtin.copy_ #[24, 24] ty #[.slice (some ⟨W.heap.size, y, none⟩) x x, .slice (some ⟨S, h, none⟩) x x]).run Ybaf.prog ((W.alloc (.cells (madeCells #[.int .u8 0] (y + x)) 5)).drewN m) = .ok (.int .i64 x) ((W.alloc (.cells (List.replicate y (Value.int .u8 0) ++ cur.toList.drop h).toArray 5)).drewN m)) := fun m ty => copied (W.drewN m) S h x y cur hS hcs h1 ty
  have hcl : ∀ o : Obj, ∀ i, (W.alloc o).cell? ⟨B, i, none⟩ = W.cell? ⟨B, i, none⟩ := fun o i => World.cell?_alloc_past _ _ _ hB
  have hfl : ∀ o : Obj, ∀ i, (W.alloc o).frozen? ⟨B, i, none⟩ = W.frozen? ⟨B, i, none⟩ := fun o i => World.frozen?_alloc_past _ _ _ hB
  have HCL : Hid _ := hcl
  have HFL : Hid _ := hfl
  clear hS hcs h1 hcl hfl
  have hwz : IntKind.i64.wrap ((y : Int) + (x : Int)) = (y : Int) + (x : Int) := by rw [IntKind.wrap_i64]; omega
  have hwy : IntKind.i64.wrap (y : Int) = (y : Int) := by rw [IntKind.wrap_i64]; omega
  have hz0 : (0 : Int) ≤ (y : Int) := by omega
  have hz1 : (y : Int) ≤ (y : Int) + (x : Int) := by omega
  have hx0 : ¬ x = 0 := by omega
  have hz2 : (h : Int) ≤ (h : Int) + (x : Int) := by omega
  have hwh : IntKind.i64.wrap ((h : Int) + (x : Int)) = (h : Int) + (x : Int) := by rw [IntKind.wrap_i64]; omega
  have hwd : IntKind.i64.wrap ((y : Int) + (x : Int) - (x : Int)) = (y : Int) := by rw [IntKind.wrap_i64]; omega
  go_enter Ybaf.func22, Ybaf.ntmps22
  go_wp2
  go_quiet (fail)
  rw [show (if (if 2 * ((h : Int) + (x : Int)) < (h : Int) + (x : Int) + (n : Int) then (h : Int) + (x : Int) + (n : Int) else 2 * ((h : Int) + (x : Int))) < 256 then (256 : Int) else if 2 * ((h : Int) + (x : Int)) < (h : Int) + (x : Int) + (n : Int) then (h : Int) + (x : Int) + (n : Int) else 2 * ((h : Int) + (x : Int))) = (y : Int) + (x : Int) from by have := hZ.out; split <;> split <;> omega]
  go_wp2
  obtain ⟨W2, hW2⟩ : ∃ W2, W2 = (W.alloc (.cells (madeCells #[.int .u8 0] (y + x)) 5)).drewN nq := ⟨_, rfl⟩
  obtain ⟨W3, hW3⟩ : ∃ W3, W3 = (W.alloc (.cells (List.replicate y (Value.int .u8 0) ++ cur.toList.drop h).toArray 5)).drewN nq := ⟨_, rfl⟩
  have d1 : W2.cell? ⟨B, 1, none⟩ = some (.slice (some ⟨S, 0, none⟩) (h + x) (h + x)) := by rw [hW2, World.cell?_drewN, HCL.out]; exact c1
  have d2 : W2.cell? ⟨B, 2, none⟩ = some (.int .i64 h) := by rw [hW2, World.cell?_drewN, HCL.out]; exact c2
  have g1 : W3.cell? ⟨B, 1, none⟩ = some (.slice (some ⟨S, 0, none⟩) (h + x) (h + x)) := by rw [hW3, World.cell?_drewN, HCL.out]; exact c1
  have g2 : W3.cell? ⟨B, 2, none⟩ = some (.int .i64 h) := by rw [hW3, World.cell?_drewN, HCL.out]; exact c2
  have e1 : W3.frozen? ⟨B, 1, none⟩ = false := by rw [hW3, World.frozen?_drewN, HFL.out]; exact f1
  have e2 : W3.frozen? ⟨B, 2, none⟩ = false := by rw [hW3, World.frozen?_drewN, HFL.out]; exact f2
  have hcp : ∀ k ty, (Builtin.copy_ #[24, 24] ty #[.slice (some ⟨W.heap.size, y, none⟩) x x, .slice (some ⟨S, h, none⟩) x x]).run Ybaf.prog (W2.drewN k) = .ok (.int .i64 x) (W3.drewN k) := fun k ty => by
    rw [hW2, hW3, World.drewN_drewN, World.drewN_drewN]; exact HC.out _ _
  rw [show (W.drewN nq).alloc (.cells (madeCells #[.int .u8 0] (y + x)) 5) = W2 from hW2.symm]
  have HW : Hid _ := hW3
  clear hW2 hW3 c1 c2 f1 f2 HC HCL HFL hmk
  go_region_held3 (fun w' => w'.cell? ⟨B, 1, none⟩ = some (.slice (some ⟨S, 0, none⟩) (h + x) (h + x)) ∧ w'.cell? ⟨B, 2, none⟩ = some (.int .i64 h)) (go_keep) (first | (go_at_call 20; refine (length_x B h x (some ⟨S, 0, none⟩) (h + x) _ (by omega) ?_ ?_).mono ?_; (simp [*]); (simp [*]); rintro e w' ⟨rfl, k, rfl⟩))
  go_wp2
  go_region
  go_wp2
  go_end0
  refine ⟨rfl, ?_⟩
  rw [HW.out, World.drewN_drewN, show (h : Int) + ((y : Int) + (x : Int) - ((h : Int) + (x : Int))) = (y : Int) by omega]
  exact ⟨_, rfl⟩
end Go.Proofs.YbulkeoyFmt
