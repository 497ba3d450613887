import Derived.Test.YbulkeoyFmtBase
import Derived.Deep.RegionHeld3
import Derived.Deep.DrawnRows
import Derived.RegionTactic
import Derived.BigRegion
namespace Go.Proofs.YbulkeoyFmt
open Go.RowKit
attribute [local go_sem] Go.wp_at_zero Go.wp_at_succ

set_option maxHeartbeats 1000000 in
theorem grow_nil (B n Z : Nat) (W : World) (hn : n ≤ 100000) (hZ : Hid (Z = max n 256)) (hZ2 : Z ≤ 100256) (hZ3 : 256 ≤ Z) (hB : B < W.heap.size)
    (c1 : W.cell? ⟨B, 1, none⟩ = some (.slice none 0 0)) (c2 : W.cell? ⟨B, 2, none⟩ = some (.int .i64 0)) (f1 : W.frozen? ⟨B, 1, none⟩ = false) (f2 : W.frozen? ⟨B, 2, none⟩ = false) :
    Calls Ybaf.prog 22 #[.pointer (some ⟨B, 0, none⟩), .int .i64 n] W fun e w' => e = .returned (.tuple #[]) ∧ ∃ k, w' = (((W.alloc (.cells (madeCells #[.int .u8 0] Z) 5)).setCell ⟨B, 2, none⟩ (.int .i64 Z)).setCell ⟨B, 1, none⟩ (.slice (some ⟨W.heap.size, 0, none⟩) Z Z)).drewN k := by
  have hmk : ∀ w : World, (Instr.makeSlice 24 (.int .i64 (Z : Int)) (.int .i64 (Z : Int))).run Ybaf.prog w = .ok (.slice (some ⟨w.heap.size, 0, none⟩) Z Z) (w.alloc (.cells (madeCells #[.int .u8 0] Z) 5)) := fun w =>
    run_make_row' (P := Ybaf.prog) 24 5 (.int .u8 0) 1 Ybaf.underlying24 Ybaf.info5 rfl .i64 .i64 Z (by omega) (by omega) w
  have hcp : ∀ (w : World) (dp sp : Option Addr) (dc sl sc : Nat) (ty : TypeId), (Builtin.copy_ #[24, 24] ty #[.slice dp 0 dc, .slice sp sl sc]).run Ybaf.prog w = .ok (.int .i64 0) w := fun w dp sp dc sl sc ty =>
    run_copy_none (P := Ybaf.prog) w 24 24 ty 5 dp sp 0 dc sl sc Ybaf.underlying24 Ybaf.size5 (by simp)
  have hwz : IntKind.i64.wrap (Z : Int) = (Z : Int) := by rw [IntKind.wrap_i64]; omega
  have hz0 : (0 : Int) ≤ (Z : Int) := by omega
  go_enter Ybaf.func22, Ybaf.ntmps22
  go_wp2
  go_quiet (fail)
  rw [show (if (if 0 < n then (n : Int) else 0) < 256 then (256 : Int) else if 0 < n then (n : Int) else 0) = (Z : Int) from by have := hZ.out; split <;> split <;> omega]
  go_wp2
  obtain ⟨W2, hW2⟩ : ∃ W2, W2 = (W.alloc (.cells (madeCells #[.int .u8 0] Z) 5)).drewN nq := ⟨_, rfl⟩
  have d1 : W2.cell? ⟨B, 1, none⟩ = some (.slice none 0 0) := by rw [hW2, World.cell?_drewN, World.cell?_alloc_past _ _ _ hB]; exact c1
  have d2 : W2.cell? ⟨B, 2, none⟩ = some (.int .i64 0) := by rw [hW2, World.cell?_drewN, World.cell?_alloc_past _ _ _ hB]; exact c2
  have e1 : W2.frozen? ⟨B, 1, none⟩ = false := by rw [hW2, World.frozen?_drewN, World.frozen?_alloc_past _ _ _ hB]; exact f1
  have e2 : W2.frozen? ⟨B, 2, none⟩ = false := by rw [hW2, World.frozen?_drewN, World.frozen?_alloc_past _ _ _ hB]; exact f2
  rw [show (W.drewN nq).alloc (.cells (madeCells #[.int .u8 0] Z) 5) = W2 from hW2.symm]
  have HW : Hid _ := hW2
  clear hW2 c1 c2 f1 f2
  go_region_held3 (fun w' => w'.cell? ⟨B, 1, none⟩ = some (.slice none 0 0) ∧ w'.cell? ⟨B, 2, none⟩ = some (.int .i64 0)) (go_keep) (first | (go_at_call 20; refine (length_raw B 0 0 none 0 _ (by omega) (by omega) ?_ ?_).mono ?_; (simp [*]); (simp [*]); rintro e w' ⟨rfl, k, rfl⟩))
  go_wp2
  go_region
  go_wp2
  go_end0
  refine ⟨rfl, ?_⟩
  rw [HW.out, World.drewN_drewN]
  exact ⟨_, rfl⟩

theorem setRow_new (w : World) (c c' : Array Value) (t : TypeId) : (w.alloc (.cells c t)).setRow w.heap.size c' = w.alloc (.cells c' t) := by
  unfold World.setRow World.alloc
  congr 1
  apply Array.ext_getElem?
  intro k
  simp only [Array.getElem?_modify, Array.getElem?_push]
  by_cases e : w.heap.size = k
  · subst e; simp
  · have e' : ¬ k = w.heap.size := fun h => e h.symm
    simp [e, e']

theorem copied (W : World) (S h x y : Nat) (cur : Array Value) (hS : W.heap[S]? = some (.cells cur 5 (0, 0))) (hcs : cur.size = h + x) (h1 : ∀ v ∈ cur, v.oneCell' = true) (ty : TypeId) :
    (Builtin.copy_ #[24, 24] ty #[.slice (some ⟨W.heap.size, y, none⟩) x x, .slice (some ⟨S, h, none⟩) x x]).run Ybaf.prog (W.alloc (.cells (madeCells #[.int .u8 0] (y + x)) 5)) = .ok (.int .i64 x) (W.alloc (.cells (List.replicate y (Value.int .u8 0) ++ cur.toList.drop h).toArray 5)) := by
  have hSl : S < W.heap.size := (Array.getElem?_eq_some_iff.1 hS).1
  have hl : (cur.toList.drop h).length = x := by simp [hcs]
  have hr := run_copy_row (P := Ybaf.prog) (W.alloc (.cells (madeCells #[.int .u8 0] (y + x)) 5)) 24 24 ty 5 W.heap.size y x x ⟨S, h, none⟩ x x (madeCells #[.int .u8 0] (y + x)) 5 (cur.toList.drop h) Ybaf.underlying24 Ybaf.size5
    (heap_alloc_new _ _) (by rw [hl]; simp) (fun j v hj => by
      rw [show (⟨S, h, none⟩ : Addr).add j = ⟨S, h + j, none⟩ from Go.WideShapes.add_plain _ _ _, World.cell?_alloc_past _ _ _ hSl, cell_of_row W S (h + j) cur 5 (0, 0) hS]
      rw [List.getElem?_drop] at hj
      simpa using hj) (by rw [hl, size_madeCells]; omega) (fun v hv => h1 v (by simpa using List.mem_of_mem_drop hv))
  rw [hr, setRow_new]
  have e : (madeCells #[Value.int .u8 0] (y + x)).toList.drop (y + (cur.toList.drop h).length) = [] := List.drop_of_length_le (by simp only [Array.length_toList, size_madeCells]; omega)
  rw [e, hl, toList_madeCells_one, List.append_nil, List.take_replicate, Nat.min_eq_left (by omega)]
  rfl
end Go.Proofs.YbulkeoyFmt
