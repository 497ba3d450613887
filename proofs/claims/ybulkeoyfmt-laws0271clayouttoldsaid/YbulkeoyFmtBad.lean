import Derived.Test.YbulkeoyFmtPre
namespace Go.Proofs.YbulkeoyFmt
open Go.RowKit Go.Extern.Stop Go.Stop Go.Extern

section
variable {b0 : Nat} {w0 W : World} {B S h x : Nat} {X : List Int} {m : Int} {it : Bool} {err fl : Value}

set_option maxRecDepth 100000 in
set_option maxHeartbeats 1000000 in
theorem pre_zero (F : Interp) (hF : F.answers w0.tape) (a : Bd b0 w0 W B S h x X m it err fl) (hL : h + x ≤ 20000) (hx0 : 0 < x) (hm : m = 0 ∨ m = 4) (herr : err = .nilIface ∨ ∃ p, err = .iface 62 (.pointer (some p)))  :
    Calls Ybaf.prog 19 #[.pointer (some ⟨B, 0, none⟩), .int .u32 0] W fun e w' => e = .returned (.tuple #[]) ∧ ∃ S' h' x' Y p, Bd b0 w0 w' B S' h' x' Y 4 it (.iface 62 (.pointer (some p))) fl := by
  have hp := padTo_lt x 4
  have HF : Hid _ := hF
  clear hF
  have R : Hid _ := room_bd a (by omega) hx0 8 (by omega)
  obtain ⟨p, hpe⟩ : ∃ p, p = padTo x 4 := ⟨_, rfl⟩
  rw [← hpe] at hp
  have HP : Hid _ := hpe
  obtain ⟨x1, hx1⟩ : ∃ x1, x1 = x + p := ⟨_, rfl⟩
  have HX : Hid _ := hx1
  clear hpe hx1
  go_enter Ybaf.func19, Ybaf.ntmps19
  go_wp2_with fail
  refine Calls.mono R.out ?_
  rintro e w' ⟨rfl, S', y, b, h1, h2⟩
  clear R
  go_wp2_with fail
  have pb := pad_bd b (by omega) hm 4 (by omega) (by rw [← HP.out]; omega)
  rw [← HP.out] at pb
  refine Calls.mono pb ?_
  clear pb b
  rintro e w' ⟨rfl, b⟩
  obtain ⟨o, hoe⟩ : ∃ o, o = y - p := ⟨_, rfl⟩
  have hx1 := HX.out
  have e1 : 4 ≤ o := by omega
  have e2 : o + x1 ≤ 2 * (h + x) + 264 := by omega
  have e4 : x1 ≤ 100000 := by omega
  rw [← hoe, ← hx1] at b
  clear hoe hx1
  go_wp2_with fail
  refine Calls.mono (failf_bd (b.alloc (.cells #[.iface 29 (.int .u32 0)] 20)) herr _ _ (errorf_d F 0 _ (by rw [(b.alloc (.cells #[.iface 29 (.int .u32 0)] 20)).below.tape]; exact HF.out) _ (by rw [World.cell?_alloc_at _ _ _ _ rfl]; rfl))) ?_
  clear b
  rintro e w' ⟨rfl, q, b⟩
  go_wp2_with fail
  refine Calls.mono (length_bd b (by omega)) ?_
  clear b
  rintro e w' ⟨rfl, b⟩
  go_wp2_with fail
  go_region_with (first | (go_at_call 14; refine (take_bd (b.drewN 1) (by omega) 4 (by omega) (by omega)).mono ?_; rintro e w1 ⟨rfl, b1⟩) | (go_at_call 15; refine (put_bd b1 4 4 (4 + (x1 : Int)) (by omega) (by omega) (by omega) (by omega)).mono ?_; rintro e w2 ⟨rfl, b2⟩))
  all_goals
    go_end0
    exact ⟨rfl, S', o - 4, _, _, q, b2⟩

set_option maxRecDepth 100000 in
set_option maxHeartbeats 1000000 in
theorem pre_far (F : Interp) (hF : F.answers w0.tape) (a : Bd b0 w0 W B S h x X m it err fl) (hL : h + x ≤ 20000) (hx0 : 0 < x) (hm : m = 0 ∨ m = 4) (herr : err = .nilIface ∨ ∃ p, err = .iface 62 (.pointer (some p))) (off : Nat) (ho3 : off ≤ 4294967295) (ho : x + padTo x 4 < off) :
    Calls Ybaf.prog 19 #[.pointer (some ⟨B, 0, none⟩), .int .u32 off] W fun e w' => e = .returned (.tuple #[]) ∧ ∃ S' h' x' Y p, Bd b0 w0 w' B S' h' x' Y 4 it (.iface 62 (.pointer (some p))) fl := by
  have hp := padTo_lt x 4
  have HF : Hid _ := hF
  clear hF
  have R : Hid _ := room_bd a (by omega) hx0 8 (by omega)
  obtain ⟨p, hpe⟩ : ∃ p, p = padTo x 4 := ⟨_, rfl⟩
  rw [← hpe] at hp ho
  have HP : Hid _ := hpe
  obtain ⟨x1, hx1⟩ : ∃ x1, x1 = x + p := ⟨_, rfl⟩
  rw [← hx1] at ho
  have HX : Hid _ := hx1
  clear hpe hx1
  go_enter Ybaf.func19, Ybaf.ntmps19
  go_wp2_with fail
  refine Calls.mono R.out ?_
  rintro e w' ⟨rfl, S', y, b, h1, h2⟩
  clear R
  go_wp2_with fail
  have pb := pad_bd b (by omega) hm 4 (by omega) (by rw [← HP.out]; omega)
  rw [← HP.out] at pb
  refine Calls.mono pb ?_
  clear pb b
  rintro e w' ⟨rfl, b⟩
  obtain ⟨o, hoe⟩ : ∃ o, o = y - p := ⟨_, rfl⟩
  have hx1 := HX.out
  have e1 : 4 ≤ o := by omega
  have e2 : o + x1 ≤ 2 * (h + x) + 264 := by omega
  have e4 : x1 ≤ 100000 := by omega
  rw [← hoe, ← hx1] at b
  clear hoe hx1
  have o0 : ((off : Int) == 0) = false := by rw [beq_eq_false_iff_ne]; omega
  go_wp2_with fail
  refine Calls.mono (length_bd b (by omega)) ?_
  clear b
  rintro e w' ⟨rfl, b⟩
  have o1 : decide ((x1 : Int) < (off : Int)) = true := by simp; omega
  go_wp2_with fail
  refine Calls.mono (failf_bd (b.alloc (.cells #[.iface 29 (.int .u32 (off : Int))] 20)) herr _ _ (errorf_d F off _ (by rw [(b.alloc (.cells #[.iface 29 (.int .u32 (off : Int))] 20)).below.tape]; exact HF.out) _ (by rw [World.cell?_alloc_at _ _ _ _ rfl]; rfl))) ?_
  clear b
  rintro e w' ⟨rfl, q, b⟩
  go_wp2_with fail
  refine Calls.mono (length_bd b (by omega)) ?_
  clear b
  rintro e w' ⟨rfl, b⟩
  go_wp2_with fail
  obtain ⟨v, hv1, hve⟩ : ∃ v : Int, (0 ≤ v ∧ v ≤ 4294967295) ∧ (4 + (x1 : Int) - (off : Int)) % 4294967296 = v := ⟨_, by omega, rfl⟩
  rw [hve]
  clear hve
  go_region_with (first | (go_at_call 14; refine (take_bd (b.drewN 1) (by omega) 4 (by omega) (by omega)).mono ?_; rintro e w1 ⟨rfl, b1⟩) | (go_at_call 15; refine (put_bd b1 4 4 v hv1 (by omega) (by omega) (by omega)).mono ?_; rintro e w2 ⟨rfl, b2⟩))
  all_goals
    go_end0
    exact ⟨rfl, S', o - 4, _, _, q, b2⟩

/-- PrependOffset of a place that is not written yet. -/
theorem pre_bad (F : Interp) (hF : F.answers w0.tape) (a : Bd b0 w0 W B S h x X m it err fl) (hL : h + x ≤ 20000) (hx0 : 0 < x) (hm : m = 0 ∨ m = 4) (herr : err = .nilIface ∨ ∃ p, err = .iface 62 (.pointer (some p))) (off : Nat) (ho3 : off ≤ 4294967295) (ho : off = 0 ∨ x + padTo x 4 < off) :
    Calls Ybaf.prog 19 #[.pointer (some ⟨B, 0, none⟩), .int .u32 off] W fun e w' => e = .returned (.tuple #[]) ∧ ∃ S' h' x' Y p, Bd b0 w0 w' B S' h' x' Y 4 it (.iface 62 (.pointer (some p))) fl := by
  rcases ho with rfl | ho
  · exact pre_zero F hF a hL hx0 hm herr
  · exact pre_far F hF a hL hx0 hm herr off ho3 ho

end
end Go.Proofs.YbulkeoyFmt
