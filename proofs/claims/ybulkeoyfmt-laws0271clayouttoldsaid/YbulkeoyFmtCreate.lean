import Derived.Test.YbulkeoyFmtOps
import Derived.Lib.BufferWrite
namespace Go.Proofs.YbulkeoyFmt
open Go.RowKit

/-- A string's bytes as numbers. -/
def nums (s : ByteArray) : List Int := s.data.toList.map fun b => (b.toNat : Int)
theorem nums_length (s : ByteArray) : (nums s).length = s.size := by simp [nums]
theorem byteCells_nums (s : ByteArray) : Lib.byteCells s.data.toList = (nums s).map (Value.int .u8) := by simp [Lib.byteCells, nums, Function.comp_def]

theorem bytesOf_take (h i : Nat) (A Z T : List Int) (hi : A.length = i) : (bytesOf h (A ++ Z ++ T)).take (h + i) = List.replicate h (Value.int .u8 0) ++ A.map (Value.int .u8) := by
  unfold bytesOf
  rw [List.append_assoc, List.map_append, ← List.append_assoc]
  exact List.take_left' (by simp [hi])
theorem bytesOf_drop (h i n : Nat) (A Z T : List Int) (hi : A.length = i) (hZ : Z.length = n) : (bytesOf h (A ++ Z ++ T)).drop (h + i + n) = T.map (Value.int .u8) := by
  unfold bytesOf
  rw [List.map_append, ← List.append_assoc]
  exact List.drop_left' (by simp [hi, hZ]; omega)

section
variable {b0 : Nat} {w0 W : World} {B S h x : Nat} {X : List Int} {m : Int} {it : Bool} {err fl : Value}

theorem copyS_bd (a : Bd b0 w0 W B S h x X m it err fl) (A Z T : List Int) (s : ByteArray) (hX : X = A ++ Z ++ T) (hZ : Z.length = s.size) (i dLen dCap : Nat) (hi : A.length = i) (hd : s.size ≤ dLen) :
    ∃ W', (∀ ty, (Builtin.copy_ #[24, 9] ty #[.slice (some ⟨S, h + i, none⟩) dLen dCap, .string s]).run Ybaf.prog W = .ok (.int .i64 (s.size : Int)) W') ∧ Bd b0 w0 W' B S h x (A ++ nums s ++ T) m it err fl := by
  have hl : X.length = x := a.hx
  have hxl : A.length + Z.length + T.length = x := by rw [← hl, hX]; simp; omega
  refine ⟨W.setRow S (bytesOf h (A ++ nums s ++ T)).toArray, fun ty => ?_, ?_⟩
  · rw [Lib.run_copy_row_string (P := Ybaf.prog) W 24 9 ty 5 S (h + i) dLen dCap s _ 5 Ybaf.underlying24 Ybaf.size5 a.blk hd (by rw [List.size_toArray, bytesOf_length]; omega)]
    congr 3
    rw [List.toList_toArray, byteCells_nums]
    rw [hX, bytesOf_take h i A Z T hi, bytesOf_drop h i s.size A Z T hi hZ]
    simp [bytesOf]
  · refine a.setBlk (A ++ nums s ++ T) (by rw [List.length_append, List.length_append, nums_length]; omega) (setRow_heap W S _ _ 5 _ a.blk) (fun k hk => setRow_other W S k _ hk) rfl rfl rfl (by simp)
end
end Go.Proofs.YbulkeoyFmt
