import Derived.Test.YbulkeoyFmtErr
namespace Go.Proofs.YbulkeoyFmt
open Go.RowKit Go.Extern.Stop Go.Stop Go.Extern

section
variable {b0 : Nat} {w0 W : World} {B S h x : Nat} {X : List Int} {m : Int} {it : Bool} {err fl : Value}

theorem noTable_in (F : Interp) (hF : F.answers w0.tape) (a : Bd b0 w0 W B S h x X m true err fl) (herr : err = .nilIface ∨ ∃ p, err = .iface 62 (.pointer (some p))) (what : ByteArray) :
    Calls Ybaf.prog 11 #[.pointer (some ⟨B, 0, none⟩), .string what] W fun e w' => e = .returned (.tuple #[]) ∧ ∃ p, Bd b0 w0 w' B S h x X m true (.iface 62 (.pointer (some p))) fl := by
  have c15 := a.c15
  have A : Hid _ := a
  clear a
  go_enter Ybaf.func11, Ybaf.ntmps11
  go_wp2_with fail
  have a1 := A.out.alloc (.cells #[.iface 9 (.string what)] 20)
  refine (failf_bd a1 herr _ _ (errorf_s F what _ (by rw [a1.below.tape]; exact hF) W.heap.size (by rw [World.cell?_alloc_at _ _ _ _ rfl]; rfl))).mono ?_
  rintro e w' ⟨rfl, p, b⟩
  go_wp2_with fail
  go_end0
  exact ⟨rfl, p, b⟩

theorem prep_bd (a : Bd b0 w0 W B S h x X m it err fl) (hL : h + x ≤ 20000) (hx0 : 0 < x) (hm : m = 0 ∨ m = 4) (n : Nat) (hn : n ≤ 1000) :
    Calls Ybaf.prog 18 #[.pointer (some ⟨B, 0, none⟩), .int .i64 4, .int .i64 n] W fun e w' => e = .returned (.tuple #[]) ∧ ∃ S' h', Bd b0 w0 w' B S' h' (x + padTo x n) (List.replicate (padTo x n) 0 ++ X) 4 it err fl ∧ h' + (x + padTo x n) ≤ 2 * (h + x) + 260 := by
  have hp := padTo_lt x n
  have R : Hid _ := room_bd a (by omega) hx0 4 (by omega)
  go_enter Ybaf.func18, Ybaf.ntmps18
  go_wp2_with fail
  refine Calls.mono R.out ?_
  rintro e w' ⟨rfl, S', y, b, h1, h2⟩
  clear R
  go_wp2_with fail
  refine (pad_bd b (by omega) hm n (by omega) (by omega)).mono ?_
  rintro e w' ⟨rfl, b'⟩
  go_wp2_with fail
  go_end0
  exact ⟨rfl, S', _, b', by omega⟩

theorem drop4 (p : Nat) (X : List Int) (v : Int) : le32 v ++ (List.replicate 4 0 ++ (List.replicate p 0 ++ X)).drop 4 = le32 v ++ (List.replicate p 0 ++ X) := by
  rw [List.drop_left' (by simp)]

set_option maxRecDepth 100000 in
set_option maxHeartbeats 1000000 in
theorem pre_ok (a : Bd b0 w0 W B S h x X m it err fl) (hL : h + x ≤ 20000) (hx0 : 0 < x) (hm : m = 0 ∨ m = 4) (off : Nat) (ho : 0 < off) (ho2 : off ≤ x + padTo x 4) :
    Calls Ybaf.prog 19 #[.pointer (some ⟨B, 0, none⟩), .int .u32 off] W fun e w' => e = .returned (.tuple #[]) ∧ ∃ S' h', Bd b0 w0 w' B S' h' (x + padTo x 4 + 4) (le32 (4 + ((x + padTo x 4 : Nat) : Int) - (off : Int)) ++ (List.replicate (padTo x 4) 0 ++ X)) 4 it err fl ∧ h' + (x + padTo x 4 + 4) ≤ 2 * (h + x) + 264 := by
  have hp := padTo_lt x 4
  have R : Hid _ := room_bd a (by omega) hx0 8 (by omega)
  obtain ⟨p, hpe⟩ : ∃ p, p = padTo x 4 := ⟨_, rfl⟩
  rw [← hpe] at hp ho2 ⊢
  have HP : Hid _ := hpe
  obtain ⟨x1, hx1⟩ : ∃ x1, x1 = x + p := ⟨_, rfl⟩
  rw [← hx1] at ho2 ⊢
  have HX : Hid _ := hx1
  clear hpe hx1
  go_enter Ybaf.func19, Ybaf.ntmps19
  go_wp2_with fail
  refine Calls.mono R.out ?_
  rintro e w' ⟨rfl, S', y, b, h1, h2⟩
  clear R
  go_wp2_with fail
  have pb := pad_bd b (by omega) hm 4 (by omega) (by rw [← HP.out]; omega)
  rw [← HP.out] at pb
  refine Calls.mono pb ?_
  clear pb b
  rintro e w' ⟨rfl, b⟩
  obtain ⟨o, hoe⟩ : ∃ o, o = y - p := ⟨_, rfl⟩
  have hx1 := HX.out
  have e1 : 4 ≤ o := by omega
  have e2 : o + x1 ≤ 2 * (h + x) + 264 := by omega
  have e4 : x1 ≤ 100000 := by omega
  rw [← hoe, ← hx1] at b
  clear hoe hx1
  have o0 : ((off : Int) == 0) = false := by rw [beq_eq_false_iff_ne]; omega
  go_wp2_with fail
  refine Calls.mono (length_bd b (by omega)) ?_
  clear b
  rintro e w' ⟨rfl, b⟩
  have o1 : decide ((x1 : Int) < (off : Int)) = false := by simp; omega
  go_wp2_with fail
  refine Calls.mono (length_bd b (by omega)) ?_
  clear b
  rintro e w' ⟨rfl, b⟩
  go_wp2_with fail
  go_region_with (first | (go_at_call 14; refine (take_bd (b.drewN 1) (by omega) 4 (by omega) (by omega)).mono ?_; rintro e w1 ⟨rfl, b1⟩) | (go_at_call 15; refine (put_bd b1 4 4 (4 + (x1 : Int) - (off : Int)) (by omega) (by omega) (by omega) (by omega)).mono ?_; rintro e w2 ⟨rfl, b2⟩))
  all_goals
    go_end0
    rw [drop4] at b2
    exact ⟨rfl, S', o - 4, b2, by omega⟩
end
end Go.Proofs.YbulkeoyFmt
