import Derived.Test.YbulkeoyFmtCards
import Derived.WalkKit
import Derived.WalkSpells
import Derived.WalkLawsBesides
import Derived.Deep.QuietTactic
import Derived.BigQuiet
import Derived.Deep.RegionWith
import Derived.Deep.OwnRows
import Derived.Laws.CopyOwn
import Derived.OpenShut
import Derived.Outline
namespace Go.Proofs.YbulkeoyFmt
open Go.RowKit

theorem Ybaf.info5 : (Ybaf.prog.info? 5).map (fun i => (i.zero, i.size, i.bytes)) = some (some (.int .u8 0), 1, 1) := by kernel_rfl
theorem Ybaf.size5 : (Ybaf.prog.info? 5).map (·.size) = some 1 := by kernel_rfl

set_option maxHeartbeats 400000 in
theorem length_raw (B : Nat) (L h : Nat) (ba : Option Addr) (bc : Nat) (W : World) (hL : L ≤ 1000000) (hh : h ≤ L)
    (c1 : W.cell? ⟨B, 1, none⟩ = some (.slice ba L bc)) (c2 : W.cell? ⟨B, 2, none⟩ = some (.int .i64 h)) :
    Calls Ybaf.prog 20 #[.pointer (some ⟨B, 0, none⟩)] W fun e w' => e = .returned (.int .i64 ((L : Int) - h)) ∧ ∃ n, w' = W.drewN n := by
  go_enter Ybaf.func20, Ybaf.ntmps20
  go_wp2
  go_quiet (fail)
  go_wp2
  go_ret
  exact ⟨rfl, _, rfl⟩

set_option maxHeartbeats 400000 in
theorem at_raw (B : Nat) (L h : Nat) (ba : Option Addr) (bc : Nat) (W : World) (hL : L ≤ 1000000) (hh : h ≤ L)
    (c1 : W.cell? ⟨B, 1, none⟩ = some (.slice ba L bc)) (c2 : W.cell? ⟨B, 2, none⟩ = some (.int .i64 h)) :
    Calls Ybaf.prog 16 #[.pointer (some ⟨B, 0, none⟩)] W fun e w' => e = .returned (.int .u32 ((L : Int) - h)) ∧ ∃ n, w' = W.drewN n := by
  have hl := length_raw B L h ba bc W hL hh c1 c2
  have HL : Hid _ := hl
  clear hl
  go_enter Ybaf.func16, Ybaf.ntmps16
  go_wp2_with fail
  refine Calls.mono HL.out ?_
  rintro e w' ⟨rfl, n, rfl⟩
  go_wp2
  go_ret
  exact ⟨rfl, _, rfl⟩

theorem fail_nil (B : Nat) (W : World) (c18 : W.cell? ⟨B, 18, none⟩ = some .nilIface) (f18 : W.frozen? ⟨B, 18, none⟩ = false) (t : TypeId) (p : Addr) :
    Calls Ybaf.prog 23 #[.pointer (some ⟨B, 0, none⟩), .iface t (.pointer (some p))] W fun e w' => e = .returned (.tuple #[]) ∧ w' = W.setCell ⟨B, 18, none⟩ (.iface t (.pointer (some p))) := by
  go_enter Ybaf.func23, Ybaf.ntmps23
  go_wp2
  go_end0
  exact ⟨rfl, rfl⟩
theorem fail_kept (B : Nat) (W : World) (t' : TypeId) (x : Value) (c18 : W.cell? ⟨B, 18, none⟩ = some (.iface t' x)) (t : TypeId) (p : Addr) :
    Calls Ybaf.prog 23 #[.pointer (some ⟨B, 0, none⟩), .iface t (.pointer (some p))] W fun e w' => e = .returned (.tuple #[]) ∧ w' = W := by
  go_enter Ybaf.func23, Ybaf.ntmps23
  go_wp2
  go_end0
  exact ⟨rfl, rfl⟩
theorem noTable_raw (B : Nat) (W : World) (s : ByteArray) (c15 : W.cell? ⟨B, 15, none⟩ = some (.bool false)) :
    Calls Ybaf.prog 11 #[.pointer (some ⟨B, 0, none⟩), .string s] W fun e w' => e = .returned (.tuple #[]) ∧ w' = W := by
  go_enter Ybaf.func11, Ybaf.ntmps11
  go_wp2
  go_end0
  exact ⟨rfl, rfl⟩

/-! ### take, pad, room -/
set_option maxHeartbeats 400000 in
theorem take_raw (B S L h n : Nat) (W : World) (hL : L ≤ 1000000) (hh : h ≤ L) (hn : n ≤ h) (hn0 : 0 < n)
    (c1 : W.cell? ⟨B, 1, none⟩ = some (.slice (some ⟨S, 0, none⟩) L L)) (c2 : W.cell? ⟨B, 2, none⟩ = some (.int .i64 h)) (f2 : W.frozen? ⟨B, 2, none⟩ = false) :
    Calls Ybaf.prog 14 #[.pointer (some ⟨B, 0, none⟩), .int .i64 n] W fun e w' => e = .returned (.slice (some ⟨S, h - n, none⟩) n n) ∧ ∃ k, w' = (W.setCell ⟨B, 2, none⟩ (.int .i64 ((h - n : Nat) : Int))).drewN k := by
  obtain ⟨o, rfl⟩ : ∃ o, h = o + n := ⟨h - n, by omega⟩
  have d2 := World.cell?_setCell_same W ⟨B, 2, none⟩ (.int .i64 (o : Int)) c2
  have d1 : (W.setCell ⟨B, 2, none⟩ (.int .i64 (o : Int))).cell? ⟨B, 1, none⟩ = some (.slice (some ⟨S, 0, none⟩) L L) := by
    rw [World.cell?_setCell_other _ _ _ _ (by intro e; simp at e)]; exact c1
  go_enter Ybaf.func14, Ybaf.ntmps14
  go_wp2
  go_quiet (fail)
  go_wp2
  go_ret
  have e1 : o + n - n = o := by omega
  have e2 : o + n - o = n := by omega
  rw [e1, e2]
  exact ⟨rfl, _, rfl⟩

theorem i64_and3 (n : Int) : bits .and .i64 n 3 = n % 4 := by
  have h3 : (BitVec.ofInt 64 3).toNat = 2 ^ 2 - 1 := by decide
  have key : (BitVec.ofInt 64 n &&& BitVec.ofInt 64 3).toNat = (n % ((2 ^ 64 : Nat) : Int)).toNat % 2 ^ 2 := by
    rw [BitVec.toNat_and, BitVec.toNat_ofInt, h3, Nat.and_two_pow_sub_one_eq_mod]
  show IntKind.i64.wrap ((BitVec.ofInt 64 n &&& BitVec.ofInt 64 3).toNat : Nat) = n % 4
  rw [key, IntKind.wrap_i64]
  omega

/-- How many zero bytes 'pad 4 n' writes behind x bytes. -/
def padTo (x n : Nat) : Nat := (4 - (x + n) % 4) % 4
theorem padTo_lt (x n : Nat) : padTo x n < 4 := by unfold padTo; omega
theorem padTo_int (x n : Nat) : (-((x : Int) + (n : Int))) % 4 = (padTo x n : Nat) := by unfold padTo; omega
theorem padTo_mul (x n : Nat) : (x + n + padTo x n) % 4 = 0 := by unfold padTo; omega

set_option maxHeartbeats 1000000 in
theorem pad_raw (B L h n : Nat) (ba : Option Addr) (bc : Nat) (m : Int) (W : World) (hL : L ≤ 1000000) (hh : h ≤ L) (hn : n ≤ 1000000) (hp : padTo (L - h) n ≤ h)
    (c1 : W.cell? ⟨B, 1, none⟩ = some (.slice ba L bc)) (c2 : W.cell? ⟨B, 2, none⟩ = some (.int .i64 h)) (f2 : W.frozen? ⟨B, 2, none⟩ = false)
    (c3 : W.cell? ⟨B, 3, none⟩ = some (.int .i64 m)) (f3 : W.frozen? ⟨B, 3, none⟩ = false) (hm : m = 0 ∨ m = 4) :
    Calls Ybaf.prog 13 #[.pointer (some ⟨B, 0, none⟩), .int .i64 4, .int .i64 n] W fun e w' => e = .returned (.tuple #[]) ∧ ∃ k, w' = ((W.setCell ⟨B, 3, none⟩ (.int .i64 4)).setCell ⟨B, 2, none⟩ (.int .i64 ((h - padTo (L - h) n : Nat) : Int))).drewN k := by
  have d1 : (W.setCell ⟨B, 3, none⟩ (.int .i64 4)).cell? ⟨B, 1, none⟩ = some (.slice ba L bc) := by
    rw [World.cell?_setCell_other _ _ _ _ (by intro e; simp at e)]; exact c1
  have d2 : (W.setCell ⟨B, 3, none⟩ (.int .i64 4)).cell? ⟨B, 2, none⟩ = some (.int .i64 h) := by
    rw [World.cell?_setCell_other _ _ _ _ (by intro e; simp at e)]; exact c2
  have df : (W.setCell ⟨B, 3, none⟩ (.int .i64 4)).frozen? ⟨B, 2, none⟩ = false := by rw [World.frozen?_setCell]; exact f2
  have HP : Hid (IntKind.i64.wrap ((h : Int) - bits BinOp.and IntKind.i64 (IntKind.i64.wrap (-IntKind.i64.wrap ((L : Int) - (h : Int) + (n : Int)))) (IntKind.i64.wrap 3)) = ((h - padTo (L - h) n : Nat) : Int)) := by
    have hpi := padTo_int (L - h) n
    have e3 : IntKind.i64.wrap 3 = 3 := by rw [IntKind.wrap_i64]; omega
    have e1 : IntKind.i64.wrap ((L : Int) - (h : Int) + (n : Int)) = ((L - h : Nat) : Int) + (n : Int) := by rw [IntKind.wrap_i64]; omega
    have e2 : IntKind.i64.wrap (-(((L - h : Nat) : Int) + (n : Int))) = -(((L - h : Nat) : Int) + (n : Int)) := by rw [IntKind.wrap_i64]; omega
    simp only [Hid]
    rw [e3, e1, e2, i64_and3, hpi, IntKind.wrap_i64]
    omega
  clear hp
  rcases hm with rfl | rfl
  all_goals
    go_enter Ybaf.func13, Ybaf.ntmps13
    go_wp2
    generalize hW1 : W.setCell ⟨B, 3, none⟩ (.int .i64 4) = W1 at *
    have HW : Hid _ := hW1
    clear hW1
    go_region_with (go_at_call 20; refine (length_raw B L h ba bc _ hL hh (by simp [d1]) (by simp [d2])).mono ?_; rintro e w' ⟨rfl, k, rfl⟩)
    all_goals (try go_wp2)
    all_goals
      go_end0
      refine ⟨rfl, ?_⟩
      rw [HW.out, ← HP.out]
      exact ⟨_, rfl⟩
end Go.Proofs.YbulkeoyFmt
