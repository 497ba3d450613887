/- The beginning and the end of the count. -/
import Derived.Test.YbulkercInv
import Derived.WalkSpells
namespace Go.Proofs.Ybulkerc
open Go.ChangeMaps (setBlock)
open Go.MapKept
open Go.RowKit

/-- The server's cells, its rooms in the block M. -/
abbrev srvOf (M : Nat) : Array Value :=
  #[.int .i64 0, .bool false, .bool false, .bool false, .int .i64 0, .int .i64 0, .int .i64 0, .nilFunc, .nilFunc, .nilFunc, .map none, .slice none 0 0, .slice none 0 0, .slice none 0 0, .int .u32 0, .int .i32 0, .int .u32 0, .nilIface, .nilFunc, .nilFunc, .int .i32 0, .int .u32 0, .map none, .map (some M), .map none]
/-- A new Conn's cells. -/
abbrev connC : Array Value :=
  #[.pointer none, .pointer none, .string ⟨#[]⟩, .map none, .map none, .bool false, .int .i32 0, .int .u32 0, .int .i64 0, .pointer none, .int .i32 0, .int .u32 0, .int .u8 0, .slice none 0 0, .slice none 0 0, .int .i64 0, .int .i64 0, .bool false, .int .u16 0, .string ⟨#[]⟩]

theorem inv0 (ss : List ByteArray) (W : World) (srv : Array Value) : Inv ss W srv 0 ((W.alloc (.map #[] 0)).alloc (.cells srv 59)) (fun _ => none) := by
  have hsz : (W.alloc (.map #[] 0)).heap.size = W.heap.size + 1 := by show (W.heap.push _).size = _; exact Array.size_push _
  refine ⟨((Below.refl _ W).alloc (Nat.le_refl _) _).alloc (by omega) _, ?_, ⟨#[], 0, ⟨(fun x hx => by simp at hx), (fun s r h => by cases h), (fun s s' r h => by cases h)⟩, ?_⟩, fun s _ => rfl, (fun s r h => by cases h)⟩
  · have := (heap_alloc (W.alloc (.map #[] 0)) (.cells srv 59)).1
    rwa [hsz] at this
  · exact alloc_old (heap_alloc W (.map #[] 0)).1

theorem Inv.rooms {ss : List ByteArray} {W : World} {k : Nat} {w : World} {R : ByteArray → Option Nat} (I : Inv ss W (srvOf W.heap.size) k w R) : w.cell? ⟨W.heap.size + 1, 23, none⟩ = some (.map (some W.heap.size)) := by
  simp [World.cell?, I.server]
theorem Inv.mu {ss : List ByteArray} {W : World} {k : Nat} {w : World} {R : ByteArray → Option Nat} (I : Inv ss W (srvOf W.heap.size) k w R) : w.cell? ⟨W.heap.size + 1, 20, none⟩ = some (.int .i32 0) := by
  simp [World.cell?, I.server]
theorem Inv.warm {ss : List ByteArray} {W : World} {srv : Array Value} {k : Nat} {w : World} {R : ByteArray → Option Nat} (I : Inv ss W srv k w R) (o : Nat) : w.frozen? ⟨W.heap.size + 1, o, none⟩ = false := by
  simp [World.frozen?, I.server]
theorem Inv.lookup {ss : List ByteArray} {W : World} {srv : Array Value} {k : Nat} {w : World} {R : ByteArray → Option Nat} (I : Inv ss W srv k w R) (s : ByteArray) :
    (Instr.lookup 25 (.map (some W.heap.size)) (.string s) false).run Yba.prog w = .ok (.map (R s)) w := by
  obtain ⟨es, clk, O, hm⟩ := I.map
  exact lookup_outer hm O s
theorem Inv.lookup_set {ss : List ByteArray} {W : World} {srv : Array Value} {k : Nat} {w : World} {R : ByteArray → Option Nat} (I : Inv ss W srv k w R) (o : Nat) (u : Value) (s : ByteArray) :
    (Instr.lookup 25 (.map (some W.heap.size)) (.string s) false).run Yba.prog (w.setCell ⟨W.heap.size + 1, o, none⟩ u) = .ok (.map (R s)) (w.setCell ⟨W.heap.size + 1, o, none⟩ u) := by
  obtain ⟨es, clk, O, hm⟩ := I.map
  refine lookup_outer ?_ O s (clk := clk)
  rw [Below.heap_setCell _ _ _ _ (by show W.heap.size ≠ W.heap.size + 1; omega)]
  exact hm
theorem Inv.len_set {ss : List ByteArray} {W : World} {srv : Array Value} {k : Nat} {w : World} {R : ByteArray → Option Nat} (I : Inv ss W srv k w R) (o : Nat) (u : Value) (s : ByteArray) (ty : TypeId) :
    (Builtin.len_ #[60] ty #[.map (R s)]).run Yba.prog (w.setCell ⟨W.heap.size + 1, o, none⟩ u) = .ok (.int .i64 (cnt ss s k)) (w.setCell ⟨W.heap.size + 1, o, none⟩ u) := by
  cases hs : R s with
  | none =>
    rw [I.bare s hs]
    simp [Builtin.len_, run_underlying Yba.underlying60]
    rfl
  | some r =>
    obtain ⟨h1, ie, ic, h2, h3, _⟩ := I.inner s r hs
    have h4 : (w.setCell ⟨W.heap.size + 1, o, none⟩ u).heap[r]? = some (.map ie ic) := by
      rw [Below.heap_setCell _ _ _ _ (by show r ≠ W.heap.size + 1; omega)]
      exact h2
    simp [Builtin.len_, run_underlying Yba.underlying60, MapKept.run_getObj_map h4, h3]
    rfl

end Go.Proofs.Ybulkerc
