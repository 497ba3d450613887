import Derived.Test.YbulkeoyFmtFinish2
import Derived.Test.YbulkeoyFmtInTable
import Derived.Lib.AppendStr
import Derived.Laws.BytesArg
import Derived.Laws.BitsAllLaws
namespace Go.Proofs.YbulkeoyFmt
open Go.RowKit

theorem own_shape {w : World} {base size : Nat} {e : TypeId} {v : Value} {n : Nat} {xs : List Value} (h : w.ownsRow base e size v n xs) : ∃ ao cap, v = .slice ao n cap := by
  rcases h.2 with ⟨rfl, rfl⟩ | ⟨g, cap, cur, rfl, _⟩
  · exact ⟨none, 0, rfl⟩
  · exact ⟨_, cap, rfl⟩
theorem own_some {w : World} {base size : Nat} {e : TypeId} {ao : Option Addr} {cap n : Nat} {xs : List Value} (h : w.ownsRow base e size (.slice ao n cap) n xs) (hn : 0 < n) : ∃ g, ao = some ⟨g, 0, none⟩ := by
  rcases h.2 with ⟨h1, rfl⟩ | ⟨g, cap', cur, h1, h2, h3, _⟩
  · omega
  · injection h1 with h1 _ _
    exact ⟨g, h1⟩

/-- A slice of bytes of the call's own, in new memory behind the world wf. -/
structure Ex (wf w : World) (ao : Option Addr) (n cap : Nat) (E : List Int) : Prop where
  own : w.ownsRow wf.heap.size 5 1 (.slice ao n cap) n (E.map (Value.int .u8))
  below : Below wf.heap.size wf w
theorem Ex.nil (wf : World) : Ex wf wf none 0 0 [] := ⟨World.ownsRow_nil _ _ _ _, Below.refl _ _⟩

set_option maxRecDepth 100000 in
set_option maxHeartbeats 1000000 in
theorem app32 {wf w : World} {ao : Option Addr} {n cap : Nat} {E : List Int} (a : Ex wf w ao n cap E) (hn : n ≤ 100000) (v : Int) (hv : 0 ≤ v ∧ v ≤ 4294967295) :
    Calls Ybaf.prog 8 #[.agg #[], .slice ao n cap, .int .u32 v] w fun e w' => ∃ ao' cap', e = .returned (.slice ao' (n + 4) cap') ∧ Ex wf w' ao' (n + 4) cap' (E ++ le32 v) := by
  obtain ⟨i0, hi, hz0, hz1, hz2⟩ := info_parts Ybaf.info5
  have hown := a.own
  have hbl := a.below
  have hsz := hbl.size
  go_enter Ybaf.func8, Ybaf.ntmps8
  go_wp2_with (at_builtin; refine wpList_append_own _ rfl _ _ 24 rfl wf.heap.size 5 i0 (.int .u8 0) 1 1 Ybaf.underlying24 hi hz0 hz1 hz2 rfl (by decide) _ _ _ rfl ((hown.alloc _).alloc _) ⟨w.heap.size + 1, 0, none⟩ 4 4 ((le32 v).map (Value.int .u8)) rfl rfl ?c1 ?c2 ?c3 ?c4 ?c5 ?_)
  case c1 =>
    intro j u hj
    rw [Go.WideShapes.add_plain, Nat.zero_add, World.cell?_alloc_at _ _ _ _ (by simp)]
    rw [← hj]
    simp [le32]
  case c2 => intro u hu; obtain ⟨y, _, rfl⟩ := List.mem_map.1 hu; rfl
  case c3 => unfold maxLen; omega
  case c4 => omega
  case c5 => simp; omega
  intro v' w1 hown' hgrow _
  obtain ⟨ao', cap', rfl⟩ := own_shape hown'
  have hbl' : Below wf.heap.size wf w1 := ((hbl.alloc hsz _).alloc (by simp; omega) _).grown hgrow (by simp; omega) (fun q hq => (hown.lt q hq).1)
  rw [← List.map_append] at hown'
  clear hgrow hown
  go_wp2
  go_ret
  exact ⟨ao', cap', rfl, hown', hbl'⟩

theorem equal_same (a b : Option Addr) (n c n' c' : Nat) (s : ByteArray) (w : World) (h1 : (convert 24 9 (.slice a n c)).run Ybaf.prog w = .ok (.string s) w) (h2 : (convert 24 9 (.slice b n' c')).run Ybaf.prog w = .ok (.string s) w) :
    Calls Ybaf.prog 9 #[.slice a n c, .slice b n' c'] w fun e w' => e = .returned (.bool true) ∧ w' = w := by
  go_enter Ybaf.func9, Ybaf.ntmps9
  go_wp2
  go_ret
  exact ⟨by simp, rfl⟩

theorem i64_andNot3 (n : Nat) (h : n < 4611686018427387904) : bits .andNot .i64 (n : Int) 3 = ((n - n % 4 : Nat) : Int) := by
  have h3 : (BitVec.ofInt 64 3).toNat = 3 := by decide
  have hn : (BitVec.ofInt 64 (n : Int)).toNat = n := by rw [BitVec.toNat_ofInt]; omega
  show IntKind.i64.wrap ((BitVec.ofInt 64 (n : Int) &&& ~~~BitVec.ofInt 64 3).toNat : Nat) = _
  have key : (BitVec.ofInt 64 (n : Int) &&& ~~~BitVec.ofInt 64 3).toNat = n - n % 4 := by
    rw [BitVec.toNat_and, BitVec.toNat_not, h3, hn, show 2 ^ 64 - 1 - 3 = 18446744073709551612 by decide, nat_hi64_2]
    omega
  rw [key, IntKind.wrap_i64]
  omega

def numCells (xs : List Int) : Array Value := (xs.map (Value.int .u8)).toArray
theorem numCells_at (xs : List Int) (k : Nat) (h : k < xs.length) : (numCells xs)[k]? = some (.int .u8 (xs.getD k 0)) := by simp [numCells, h]
theorem numCells_set (xs : List Int) (k : Nat) (v : Int) : (numCells xs).setIfInBounds k (.int .u8 v) = numCells (xs.set k v) := by simp [numCells, List.map_set]

set_option maxHeartbeats 1000000 in
/-- zzs0271cid answers some string. -/
theorem cid_calls (m : Int) (hm : 0 ≤ m ∧ m ≤ 255) (raw : ByteArray) (hr : raw.size ≤ 1024) (w : World) :
    Calls Ybaf.prog 5 #[.int .u8 m, .string raw] w fun e w' => ∃ id : ByteArray, e = .returned (.string id) ∧ id.size ≤ 1024 ∧ Below w.heap.size w w' := by
  have h3 : m % 3 = 0 ∨ m % 3 = 1 ∨ m % 3 = 2 := by omega
  rcases h3 with h3 | h3 | h3
  · go_enter Ybaf.func5, Ybaf.ntmps5
    go_wp2
    go_ret
    exact ⟨_, rfl, by decide, Below.refl _ _⟩
  · go_enter Ybaf.func5, Ybaf.ntmps5
    go_wp2
    go_ret
    exact ⟨raw, rfl, hr, Below.refl _ _⟩
  · have hmk : ∀ w : World, (Instr.makeSlice 24 (.int .i64 4) (.int .i64 4)).run Ybaf.prog w = .ok (.slice (some ⟨w.heap.size, 0, none⟩) 4 4) (w.alloc (.cells (([0, 0, 0, 0] : List Int).map (Value.int .u8)).toArray 5)) := fun w => by kernel_rfl
    go_enter Ybaf.func5, Ybaf.ntmps5
    go_wp2
    go_loopw [6] (fun i wr => ∃ (k : Nat) (xs : List Int), k ≤ 4 ∧ i = .int .i64 k ∧ xs.length = 4 ∧ wr = w.alloc (.cells (numCells xs) 5)) (fun i _ => 4 - (intOf i).toNat)
    case atStart => exact ⟨0, [0, 0, 0, 0], by omega, rfl, rfl, rfl⟩
    case round =>
      obtain ⟨k, xs, hk, rfl, hxs, rfl⟩ := hrel
      by_cases hlt : k < 4
      · have hc := numCells_at xs k (by omega)
        by_cases hr2 : k < raw.size
        all_goals
          go_wp2
          go_roundw
          case rel => exact ⟨k + 1, xs.set k _, by omega, by go_num, by simp [hxs], by rw [numCells_set]⟩
          case measure => simp [intOf]; omega
      · have hcv : (convert 24 9 (.slice (some ⟨w.heap.size, 0, none⟩) 4 4)).run Ybaf.prog (w.alloc (.cells (numCells xs) 5)) = .ok (.string (strOfNums xs)) (w.alloc (.cells (numCells xs) 5)) :=
          run_convert_bytes_arg _ 24 5 Ybaf.underlying24 Ybaf.underlying5 _ 0 4 4 xs hxs (fun j hj => by
            rw [Nat.zero_add, World.cell?_alloc_at _ _ _ _ rfl]; exact numCells_at xs j (by omega)) 9 Ybaf.underlying9
        have hsz : (strOfNums xs).size ≤ 1024 := by rw [strOfNums_size]; omega
        go_wp2
        go_ret
        exact ⟨_, rfl, hsz, (Below.refl _ w).alloc (Nat.le_refl _) _⟩
end Go.Proofs.YbulkeoyFmt
