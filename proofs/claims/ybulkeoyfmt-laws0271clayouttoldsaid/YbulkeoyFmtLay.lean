import Derived.Test.YbulkeoyFmtExp
namespace Go.Proofs.YbulkeoyFmt
open Go.RowKit Go.Extern.Stop Go.Stop Go.Extern

theorem strCells_nums (s : ByteArray) : Lib.strCells s = (nums s).map (Value.int .u8) := by simp [Lib.strCells, nums, Function.comp_def]

theorem Ex.str {wf w w' : World} {ao ao' : Option Addr} {n cap cap' : Nat} {E : List Int} (a : Ex wf w ao n cap E) (s : ByteArray) (h : w'.ownsRow wf.heap.size 5 1 (.slice ao' (n + s.size) cap') (n + s.size) (E.map (Value.int .u8) ++ Lib.strCells s)) (hg : w.grownBy w' (Value.slice ao n cap).ownBlock) : Ex wf w' ao' (n + s.size) cap' (E ++ nums s) := by
  refine ⟨by rw [List.map_append, ← strCells_nums]; exact h, a.below.grown hg a.below.size (fun q hq => (a.own.lt q hq).1)⟩
theorem Ex.one {wf w w' : World} {ao ao' : Option Addr} {n cap cap' : Nat} {E : List Int} (a : Ex wf w ao n cap E) (o : Obj) (h : w'.ownsRow wf.heap.size 5 1 (.slice ao' (n + 1) cap') (n + 1) (E.map (Value.int .u8) ++ [.int .u8 0])) (hg : (w.alloc o).grownBy w' (Value.slice ao n cap).ownBlock) : Ex wf w' ao' (n + 1) cap' (E ++ [0]) := by
  have hs := a.below.size
  refine ⟨by rw [List.map_append]; exact h, (a.below.alloc hs o).grown hg (by simp; omega) (fun q hq => (a.own.lt q hq).1)⟩
/-- The slice as a string. -/
theorem Ex.conv {wf w : World} {ao : Option Addr} {n cap : Nat} {E : List Int} (a : Ex wf w ao n cap E) (hn : 0 < n) : (convert 24 9 (.slice ao n cap)).run Ybaf.prog w = .ok (.string (strOfNums E)) w := by
  have hl : E.length = n := by have := a.own.1; simpa using this
  obtain ⟨g, rfl⟩ := own_some a.own hn
  refine run_convert_bytes_arg w 24 5 Ybaf.underlying24 Ybaf.underlying5 g 0 n cap E hl (fun j hj => ?_) 9 Ybaf.underlying9
  rw [Nat.zero_add, a.own.cellAt j (by omega)]
  simp [List.getD, List.getElem?_eq_getElem (show j < E.length by omega)]
/-- What Finish handed back, as a string, behind whatever was made since. -/
theorem Bd.conv {b0 : Nat} {w0 wf w : World} {B S h x : Nat} {X : List Int} {m : Int} {it : Bool} {err fl : Value} (a : Bd b0 w0 wf B S h x X m it err fl) (hb : Below wf.heap.size wf w) : (convert 24 9 (.slice (some ⟨S, h, none⟩) x x)).run Ybaf.prog w = .ok (.string (strOfNums X)) w := by
  refine run_convert_bytes_arg w 24 5 Ybaf.underlying24 Ybaf.underlying5 S h x x X a.hx (fun j hj => ?_) 9 Ybaf.underlying9
  rw [hb.cell (p := ⟨S, h + j, none⟩) a.ltS]
  exact a.cellS j hj

/-- The two lists are one. -/
theorem lists_none (v v' : Int) (hv : v = v') (s : ByteArray) (p : Nat) (hp : padTo 0 (s.size + 5) = p) : ([] ++ le32 v ++ le32 (s.size : Int) ++ nums s) ++ List.replicate (p + 1) 0 = le32 v' ++ strBytes s := by
  unfold strBytes
  rw [hp, hv]
  simp [List.replicate_succ]
theorem lists_four (v v' : Int) (hv : v = v') (I : List Int) (s : ByteArray) (p : Nat) (hp : padTo 0 (s.size + 5) = p) : ([] ++ le32 v ++ I ++ le32 (s.size : Int) ++ nums s) ++ List.replicate (p + 1) 0 = le32 v' ++ (I ++ strBytes s) := by
  unfold strBytes
  rw [hp, hv]
  simp [List.replicate_succ]
def padZ (E : List Int) (k : Nat) : List Int := E ++ List.replicate k 0
theorem padZ_zero (E : List Int) : padZ E 0 = E := by simp [padZ]
theorem padZ_succ (E : List Int) (k : Nat) : padZ E k ++ [0] = padZ E (k + 1) := by unfold padZ; rw [List.append_assoc, ← List.replicate_succ']
theorem empty_id {id : ByteArray} (h : id.toList.isEmpty = true) : id = ⟨#[]⟩ := by
  have h1 : id.toList = [] := List.isEmpty_iff.1 h
  rw [ByteArray.toList_eq] at h1
  apply ByteArray.ext
  exact Array.toList_inj.1 h1
theorem app32n {wf w : World} {ao : Option Addr} {n cap : Nat} {E : List Int} (a : Ex wf w ao n cap E) (n' : Nat) (hn' : n + 4 = n') (hn : n ≤ 100000) (v : Int) (hv : 0 ≤ v ∧ v ≤ 4294967295) :
    Calls Ybaf.prog 8 #[.agg #[], .slice ao n cap, .int .u32 v] w fun e w' => ∃ ao' cap', e = .returned (.slice ao' n' cap') ∧ Ex wf w' ao' n' cap' (E ++ le32 v) := by
  subst hn'; exact app32 a hn v hv

theorem and_l1 (s : ByteArray) (hs : s.size ≤ 1024) : bits BinOp.andNot IntKind.i64 (4 + (s.size : Int) + 1 + 3) 3 = ((s.size + 5 + padTo 0 (s.size + 5) : Nat) : Int) := by
  rw [show (4 + (s.size : Int) + 1 + 3) = ((s.size + 8 : Nat) : Int) by omega, i64_andNot3 _ (by omega)]
  unfold padTo
  congr 1
  omega

end Go.Proofs.YbulkeoyFmt
