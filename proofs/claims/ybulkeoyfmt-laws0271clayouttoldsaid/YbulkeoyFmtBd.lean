import Derived.Test.YbulkeoyFmtGrow2
import Derived.Test.YbulkeoyFmtPut
namespace Go.Proofs.YbulkeoyFmt
open Go.RowKit

/-- The bytes of a buffer: h zeros, then X. -/
def bytesOf (h : Nat) (X : List Int) : List Value := List.replicate h (Value.int .u8 0) ++ X.map (Value.int .u8)
theorem bytesOf_length (h : Nat) (X : List Int) : (bytesOf h X).length = h + X.length := by simp [bytesOf]
theorem bytesOf_one (h : Nat) (X : List Int) : ∀ v ∈ (bytesOf h X).toArray, v.oneCell' = true := by
  intro v hv
  simp only [List.mem_toArray, bytesOf, List.mem_append] at hv
  rcases hv with hv | hv
  · rw [List.eq_of_mem_replicate hv]; rfl
  · obtain ⟨x, _, rfl⟩ := List.mem_map.1 hv; rfl
theorem bytesOf_shift (h p : Nat) (X : List Int) (hp : p ≤ h) : bytesOf (h - p) (List.replicate p 0 ++ X) = bytesOf h X := by
  unfold bytesOf
  rw [List.map_append, List.map_replicate, ← List.append_assoc, List.replicate_append_replicate, show h - p + p = h by omega]
theorem bytesOf_grow (h y : Nat) (X : List Int) : List.replicate y (Value.int .u8 0) ++ (bytesOf h X).drop h = bytesOf y X := by
  unfold bytesOf
  rw [List.drop_append]; simp

/-- A Builder at block B whose buffer lies at block S: h bytes ahead of the head, the bytes X behind it. -/
structure Bd (b0 : Nat) (w0 W : World) (B S h x : Nat) (X : List Int) (m : Int) (it : Bool) (err fl : Value) : Prop where
  below : Below b0 w0 W
  hB : b0 ≤ B
  hS : b0 ≤ S
  ne : S ≠ B
  hx : X.length = x
  c1 : W.cell? ⟨B, 1, none⟩ = some (.slice (some ⟨S, 0, none⟩) (h + x) (h + x))
  c2 : W.cell? ⟨B, 2, none⟩ = some (.int .i64 h)
  c3 : W.cell? ⟨B, 3, none⟩ = some (.int .i64 m)
  c14 : W.cell? ⟨B, 14, none⟩ = some fl
  c15 : W.cell? ⟨B, 15, none⟩ = some (.bool it)
  c16 : ∃ v, W.cell? ⟨B, 16, none⟩ = some (.int .u32 v)
  c18 : W.cell? ⟨B, 18, none⟩ = some err
  fr : ∀ i, W.frozen? ⟨B, i, none⟩ = false
  blk : W.heap[S]? = some (.cells (bytesOf h X).toArray 5 (0, 0))

theorem ne_addr {b b' i j : Nat} (h : b ≠ b' ∨ i ≠ j) : (⟨b, i, none⟩ : Addr) ≠ ⟨b', j, none⟩ := by
  intro e; simp only [Addr.mk.injEq] at e; omega

section
variable {b0 : Nat} {w0 W : World} {B S h x : Nat} {X : List Int} {m : Int} {it : Bool} {err fl : Value}

theorem Bd.ltB (a : Bd b0 w0 W B S h x X m it err fl) : B < W.heap.size := World.block_lt_of_cell? _ _ a.c2
theorem Bd.ltS (a : Bd b0 w0 W B S h x X m it err fl) : S < W.heap.size := (Array.getElem?_eq_some_iff.1 a.blk).1
theorem Bd.base (a : Bd b0 w0 W B S h x X m it err fl) : b0 ≤ W.heap.size := by have := a.ltB; have := a.hB; omega
theorem Bd.drewN (a : Bd b0 w0 W B S h x X m it err fl) (k : Nat) : Bd b0 w0 (W.drewN k) B S h x X m it err fl :=
  ⟨below_drewN a.below k, a.hB, a.hS, a.ne, a.hx, a.c1, a.c2, a.c3, a.c14, a.c15, a.c16, a.c18, a.fr, a.blk⟩
theorem Bd.alloc (a : Bd b0 w0 W B S h x X m it err fl) (o : Obj) : Bd b0 w0 (W.alloc o) B S h x X m it err fl := by
  have hl := a.ltB
  have hc : ∀ i, (W.alloc o).cell? ⟨B, i, none⟩ = W.cell? ⟨B, i, none⟩ := fun i => World.cell?_alloc_past _ _ _ hl
  refine ⟨a.below.alloc a.base o, a.hB, a.hS, a.ne, a.hx, by rw [hc]; exact a.c1, by rw [hc]; exact a.c2, by rw [hc]; exact a.c3, by rw [hc]; exact a.c14, by rw [hc]; exact a.c15, ?_, by rw [hc]; exact a.c18, fun i => by rw [World.frozen?_alloc_past _ _ _ hl]; exact a.fr i, ?_⟩
  · obtain ⟨v, hv⟩ := a.c16; exact ⟨v, by rw [hc]; exact hv⟩
  · rw [Below.heap_alloc _ _ _ a.ltS]; exact a.blk

/-- A store into one of the Builder's own cells: what the others hold. -/
theorem Bd.other (a : Bd b0 w0 W B S h x X m it err fl) (j : Nat) (v : Value) : (∀ i, i ≠ j → (W.setCell ⟨B, j, none⟩ v).cell? ⟨B, i, none⟩ = W.cell? ⟨B, i, none⟩) ∧ (∀ i, (W.setCell ⟨B, j, none⟩ v).frozen? ⟨B, i, none⟩ = false) ∧ (W.setCell ⟨B, j, none⟩ v).heap[S]? = some (.cells (bytesOf h X).toArray 5 (0, 0)) ∧ Below b0 w0 (W.setCell ⟨B, j, none⟩ v) :=
  ⟨fun i hi => World.cell?_setCell_other _ _ _ _ (ne_addr (Or.inr (Ne.symm hi))), fun i => by rw [World.frozen?_setCell]; exact a.fr i, by rw [Below.heap_setCell _ _ _ _ a.ne]; exact a.blk, a.below.setCell a.hB v⟩

theorem Bd.setErr (a : Bd b0 w0 W B S h x X m it err fl) (v : Value) : Bd b0 w0 (W.setCell ⟨B, 18, none⟩ v) B S h x X m it v fl := by
  obtain ⟨o1, o2, o3, o4⟩ := a.other 18 v
  refine ⟨o4, a.hB, a.hS, a.ne, a.hx, by rw [o1 1 (by omega)]; exact a.c1, by rw [o1 2 (by omega)]; exact a.c2, by rw [o1 3 (by omega)]; exact a.c3, by rw [o1 14 (by omega)]; exact a.c14, by rw [o1 15 (by omega)]; exact a.c15, ?_, World.cell?_setCell_same _ _ _ a.c18, o2, o3⟩
  obtain ⟨u, hu⟩ := a.c16; exact ⟨u, by rw [o1 16 (by omega)]; exact hu⟩
theorem Bd.setIn (a : Bd b0 w0 W B S h x X m it err fl) (v : Bool) : Bd b0 w0 (W.setCell ⟨B, 15, none⟩ (.bool v)) B S h x X m v err fl := by
  obtain ⟨o1, o2, o3, o4⟩ := a.other 15 (.bool v)
  refine ⟨o4, a.hB, a.hS, a.ne, a.hx, by rw [o1 1 (by omega)]; exact a.c1, by rw [o1 2 (by omega)]; exact a.c2, by rw [o1 3 (by omega)]; exact a.c3, by rw [o1 14 (by omega)]; exact a.c14, World.cell?_setCell_same _ _ _ a.c15, ?_, by rw [o1 18 (by omega)]; exact a.c18, o2, o3⟩
  obtain ⟨u, hu⟩ := a.c16; exact ⟨u, by rw [o1 16 (by omega)]; exact hu⟩
theorem Bd.setEnd (a : Bd b0 w0 W B S h x X m it err fl) (v : Int) : Bd b0 w0 (W.setCell ⟨B, 16, none⟩ (.int .u32 v)) B S h x X m it err fl := by
  obtain ⟨o1, o2, o3, o4⟩ := a.other 16 (.int .u32 v)
  obtain ⟨u, hu⟩ := a.c16
  exact ⟨o4, a.hB, a.hS, a.ne, a.hx, by rw [o1 1 (by omega)]; exact a.c1, by rw [o1 2 (by omega)]; exact a.c2, by rw [o1 3 (by omega)]; exact a.c3, by rw [o1 14 (by omega)]; exact a.c14, by rw [o1 15 (by omega)]; exact a.c15, ⟨v, World.cell?_setCell_same _ _ _ hu⟩, by rw [o1 18 (by omega)]; exact a.c18, o2, o3⟩
theorem Bd.setFl (a : Bd b0 w0 W B S h x X m it err fl) (v : Value) : Bd b0 w0 (W.setCell ⟨B, 14, none⟩ v) B S h x X m it err v := by
  obtain ⟨o1, o2, o3, o4⟩ := a.other 14 v
  obtain ⟨u, hu⟩ := a.c16
  exact ⟨o4, a.hB, a.hS, a.ne, a.hx, by rw [o1 1 (by omega)]; exact a.c1, by rw [o1 2 (by omega)]; exact a.c2, by rw [o1 3 (by omega)]; exact a.c3, World.cell?_setCell_same _ _ _ a.c14, by rw [o1 15 (by omega)]; exact a.c15, ⟨u, by rw [o1 16 (by omega)]; exact hu⟩, by rw [o1 18 (by omega)]; exact a.c18, o2, o3⟩
theorem Bd.setMax (a : Bd b0 w0 W B S h x X m it err fl) (v : Int) : Bd b0 w0 (W.setCell ⟨B, 3, none⟩ (.int .i64 v)) B S h x X v it err fl := by
  obtain ⟨o1, o2, o3, o4⟩ := a.other 3 (.int .i64 v)
  obtain ⟨u, hu⟩ := a.c16
  exact ⟨o4, a.hB, a.hS, a.ne, a.hx, by rw [o1 1 (by omega)]; exact a.c1, by rw [o1 2 (by omega)]; exact a.c2, World.cell?_setCell_same _ _ _ a.c3, by rw [o1 14 (by omega)]; exact a.c14, by rw [o1 15 (by omega)]; exact a.c15, ⟨u, by rw [o1 16 (by omega)]; exact hu⟩, by rw [o1 18 (by omega)]; exact a.c18, o2, o3⟩
/-- The head moves back over p zero bytes. -/
theorem Bd.back (a : Bd b0 w0 W B S h x X m it err fl) (p : Nat) (hp : p ≤ h) : Bd b0 w0 (W.setCell ⟨B, 2, none⟩ (.int .i64 ((h - p : Nat) : Int))) B S (h - p) (x + p) (List.replicate p 0 ++ X) m it err fl := by
  obtain ⟨o1, o2, o3, o4⟩ := a.other 2 (.int .i64 ((h - p : Nat) : Int))
  obtain ⟨u, hu⟩ := a.c16
  refine ⟨o4, a.hB, a.hS, a.ne, by simp [a.hx]; omega, ?_, World.cell?_setCell_same _ _ _ a.c2, by rw [o1 3 (by omega)]; exact a.c3, by rw [o1 14 (by omega)]; exact a.c14, by rw [o1 15 (by omega)]; exact a.c15, ⟨u, by rw [o1 16 (by omega)]; exact hu⟩, by rw [o1 18 (by omega)]; exact a.c18, o2, ?_⟩
  · rw [o1 1 (by omega), a.c1, show h - p + (x + p) = h + x by omega]
  · rw [bytesOf_shift h p X hp]; exact o3

theorem Bd.cellS (a : Bd b0 w0 W B S h x X m it err fl) (i : Nat) (hi : i < x) : W.cell? ⟨S, h + i, none⟩ = some (.int .u8 (X.getD i 0)) := by
  rw [cell_of_row W S (h + i) _ 5 (0, 0) a.blk]
  have hx := a.hx
  simp only [bytesOf, List.getElem?_toArray]
  rw [List.getElem?_append_right (by simp)]
  simp [List.getElem?_eq_getElem (show i < X.length by omega)]
theorem Bd.frozenS (a : Bd b0 w0 W B S h x X m it err fl) (i : Nat) : W.frozen? ⟨S, i, none⟩ = false := by
  simp [World.frozen?, a.blk]
/-- What the block of the buffer holds anew. -/
theorem Bd.setBlk (a : Bd b0 w0 W B S h x X m it err fl) {W' : World} (Y : List Int) (hY : Y.length = x) (hb : W'.heap[S]? = some (.cells (bytesOf h Y).toArray 5 (0, 0))) (ho : ∀ k, k ≠ S → W'.heap[k]? = W.heap[k]?) (hs : W'.os = W.os) (ht : W'.tape = W.tape) (hp : W'.output = W.output) (hz : W'.heap.size = W.heap.size) : Bd b0 w0 W' B S h x Y m it err fl := by
  have hBk : W'.heap[B]? = W.heap[B]? := ho B (Ne.symm a.ne)
  have hc : ∀ i, W'.cell? ⟨B, i, none⟩ = W.cell? ⟨B, i, none⟩ := fun i => World.cell?_of_block hBk
  have hf : ∀ i, W'.frozen? ⟨B, i, none⟩ = W.frozen? ⟨B, i, none⟩ := fun i => World.frozen?_of_block hBk
  obtain ⟨u, hu⟩ := a.c16
  refine ⟨a.below.trans ⟨hs, ht, hp, by omega, fun k hk => ho k (by have := a.hS; omega)⟩, a.hB, a.hS, a.ne, hY, by rw [hc]; exact a.c1, by rw [hc]; exact a.c2, by rw [hc]; exact a.c3, by rw [hc]; exact a.c14, by rw [hc]; exact a.c15, ⟨u, by rw [hc]; exact hu⟩, by rw [hc]; exact a.c18, fun i => by rw [hf]; exact a.fr i, hb⟩
theorem bytesOf_set (h i : Nat) (X : List Int) (v : Int) : (bytesOf h X).set (h + i) (.int .u8 v) = bytesOf h (X.set i v) := by
  unfold bytesOf
  rw [List.set_append_right _ _ (by simp)]
  simp [List.map_set]
theorem Bd.byte (a : Bd b0 w0 W B S h x X m it err fl) (i : Nat) (v : Int) : Bd b0 w0 (W.setCell ⟨S, h + i, none⟩ (.int .u8 v)) B S h x (X.set i v) m it err fl := by
  refine a.setBlk (X.set i v) (by simp [a.hx]) ?_ (fun k hk => Below.heap_setCell _ _ _ _ hk) rfl rfl rfl (by simp)
  rw [heap_setCell_same W S (h + i) _ 5 _ a.blk]
  congr 2
  rw [← bytesOf_set]
  simp
end
end Go.Proofs.YbulkeoyFmt
