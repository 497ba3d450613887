import Derived.Test.YbulkeoyFmtPre
import Derived.Lib.AppendZeros
namespace Go.Proofs.YbulkeoyFmt
open Go.RowKit Go.Extern.Stop Go.Stop Go.Extern

theorem Ybaf.info29 : (Ybaf.prog.info? 29).map (fun i => (i.zero, i.size, i.bytes)) = some (some (.int .u32 0), 1, 4) := by kernel_rfl

section
variable {b0 : Nat} {w0 W : World} {B S h x : Nat} {X : List Int} {m : Int} {err : Value}

set_option maxRecDepth 100000 in
set_option maxHeartbeats 1000000 in
theorem start_bd (a : Bd b0 w0 W B S h x X m false err (.slice none 0 0)) (hL : h + x ≤ 1000000) (k : Nat) (hk : k ≤ 16) :
    Calls Ybaf.prog 10 #[.pointer (some ⟨B, 0, none⟩), .int .i64 k] W fun e w' => e = .returned (.tuple #[]) ∧ ∃ fl, Bd b0 w0 w' B S h x X m true err fl := by
  obtain ⟨i0, hi, hz0, hz1, hz2⟩ := info_parts Ybaf.info29
  have A : Hid _ := a
  have c15 := a.c15
  have f15 := a.fr 15
  clear a
  go_enter Ybaf.func10, Ybaf.ntmps10
  go_wp2_with fail
  refine Calls.mono (noTable_raw B W _ c15) ?_
  rintro e w' ⟨rfl, rfl⟩
  go_wp2_with fail
  refine Calls.mono (at_bd (A.out.setIn true) hL) ?_
  rintro e w1 ⟨rfl, b⟩
  obtain ⟨u, c16⟩ := b.c16
  have f16 := b.fr 16
  have hBl := b.ltB
  have b2 := b.setEnd (x : Int)
  have d14 := b2.c14
  have e14 := b2.fr 14
  have B2 : Hid _ := b2
  clear b b2
  by_cases hk0 : k = 0
  · subst hk0
    go_wp2
    go_end0
    exact ⟨rfl, _, B2.out.setFl _⟩
  · have hz := fun (w : World) (ty : TypeId) => Lib.run_append_nil_zeros (P := Ybaf.prog) w 31 3 ty 29 i0 (.int .u32 0) .i64 .i64 Ybaf.underlying31 Ybaf.underlying3 hi hz0 k (by omega) (by omega) (by omega) (by rw [hz2]; omega)
    have HZ : Hid _ := hz
    clear hz
    go_wp2_with (at_builtin; refine Lib.wpList_append_run _ rfl _ _ _ _ rfl _ _ rfl rfl _ _ (HZ.out _ _) ?_)
    go_end0
    exact ⟨rfl, _, ((B2.out.setFl _).alloc _).drewN 1⟩

set_option maxRecDepth 100000 in
set_option maxHeartbeats 1000000 in
/-- Finish while a table is being written: no buffer, an error. -/
theorem finish_in {fl : Value} (F : Interp) (hF : F.answers w0.tape) (a : Bd b0 w0 W B S h x X 4 true .nilIface fl) (hL : h + x ≤ 4000) (off : Nat) (ho : 0 < off) (ho2 : off ≤ x) :
    Calls Ybaf.prog 7 #[.pointer (some ⟨B, 0, none⟩), .int .u32 off, .string ⟨#[]⟩] W fun e w' => ∃ p, e = .returned (.tuple #[.slice none 0 0, .iface 62 (.pointer (some p))]) ∧ Below b0 w0 w' := by
  have hp := padTo_lt x 4
  go_enter Ybaf.func7, Ybaf.ntmps7
  go_wp2_with fail
  refine Calls.mono (noTable_in F hF a (Or.inl rfl) _) ?_
  rintro e w' ⟨rfl, p, b⟩
  have c3 := b.c3
  go_wp2_with fail
  have hx0 : 0 < x := by omega
  refine Calls.mono (prep_bd b (by omega) hx0 (Or.inr rfl) 4 (by omega)) ?_
  clear b c3
  rintro e w' ⟨rfl, S', h', b, hb⟩
  generalize padTo x 4 = q at *
  obtain ⟨x1, hx1⟩ : ∃ x1, x1 = x + q := ⟨_, rfl⟩
  have g1 : off ≤ x1 := by omega
  have g2 : h' + x1 ≤ 9000 := by omega
  rw [← hx1] at b
  clear hx1 hb
  go_wp2_with fail
  refine Calls.mono (pre_ok b (by omega) (by omega) (Or.inr rfl) off ho (by omega)) ?_
  clear b
  rintro e w' ⟨rfl, S2, h2, b, hb⟩
  have c18 := b.c18
  have HB : Hid _ := b.below
  clear b hb
  go_wp2
  go_quiet (fail)
  go_wp2
  go_ret2
  exact ⟨p, rfl, below_drewN HB.out _⟩
end
end Go.Proofs.YbulkeoyFmt
