import Derived.Test.YbulkeoyFmtBad
namespace Go.Proofs.YbulkeoyFmt
open Go.RowKit Go.Extern.Stop Go.Stop Go.Extern

section
variable {b0 : Nat} {w0 W : World} {B S h x : Nat} {X : List Int} {fl : Value}

theorem padTo_zero4 (x n : Nat) (hx : x % 4 = 0) (hn : n % 4 = 0) : padTo x n = 0 := by unfold padTo; omega

set_option maxRecDepth 100000 in
set_option maxHeartbeats 1000000 in
/-- Finish without an identifier, a good root. -/
theorem fin_ok (a : Bd b0 w0 W B S h x X 4 false .nilIface fl) (hL : h + x ≤ 4000) (hx4 : x % 4 = 0) (off : Nat) (ho : 0 < off) (ho2 : off ≤ x) :
    Calls Ybaf.prog 7 #[.pointer (some ⟨B, 0, none⟩), .int .u32 off, .string ⟨#[]⟩] W fun e w' => ∃ S' h', e = .returned (.tuple #[.slice (some ⟨S', h', none⟩) (x + 4) (x + 4), .nilIface]) ∧ Bd b0 w0 w' B S' h' (x + 4) (le32 (4 + (x : Int) - (off : Int)) ++ X) 4 false .nilIface fl := by
  have hp := padTo_zero4 x 4 hx4 rfl
  have pr := prep_bd a (by omega) (by omega) (Or.inr rfl) 4 (by omega)
  rw [hp] at pr
  have PR : Hid _ := pr
  have HP : Hid _ := hp
  have c3 := a.c3
  have c15 := a.c15
  obtain ⟨y, hy⟩ : ∃ y, y = x + 4 := ⟨_, rfl⟩
  rw [← hy]
  have HY : Hid _ := hy
  have hy0 : ¬ y = 0 := by omega
  have hy1 : y ≤ 4004 := by omega
  clear pr hp hx4 hy
  go_enter Ybaf.func7, Ybaf.ntmps7
  go_wp2_with fail
  refine Calls.mono (noTable_raw B W _ c15) ?_
  rintro e w' ⟨rfl, rfl⟩
  go_wp2_with fail
  refine Calls.mono PR.out ?_
  clear PR c3 c15
  rintro e w' ⟨rfl, S', h', b, hb⟩
  have pk := pre_ok b (by omega) (by omega) (Or.inr rfl) off ho (by omega)
  simp only [Nat.add_zero, List.replicate_zero, List.nil_append] at pk
  rw [HP.out] at pk
  simp only [Nat.add_zero, List.replicate_zero, List.nil_append] at pk
  rw [← HY.out] at pk
  have PK : Hid _ := pk
  have g2 : h' + x ≤ 9000 := by omega
  clear pk b hb
  go_wp2_with fail
  refine Calls.mono PK.out ?_
  clear PK
  rintro e w' ⟨rfl, S2, h2, b, hb⟩
  have c18 := b.c18
  go_wp2_with fail
  refine Calls.mono (length_bd b (by omega)) ?_
  clear b c18
  rintro e w' ⟨rfl, b⟩
  have c1 := b.c1
  have c2 := b.c2
  have B2 : Hid _ := b
  have z1 : (h2 : Int) ≤ (h2 : Int) + (y : Int) := by omega
  have z2 : (0 : Int) ≤ (h2 : Int) := by omega
  clear b
  go_wp2
  go_quiet (fail)
  go_wp2
  go_ret2
  exact ⟨S2, h2, by simp, B2.out.drewN _⟩

/-- 'copy(dst, s)', s longer than dst: as of s's first bytes. -/
theorem copy_cut (W : World) (d : Value) (n : Nat) (ao : Option Addr) (cap : Nat) (hd : d = .slice ao n cap) (s : ByteArray) (hs : n ≤ s.size) (ty : TypeId) :
    (Builtin.copy_ #[24, 9] ty #[d, .string s]).run Ybaf.prog W = (Builtin.copy_ #[24, 9] ty #[d, .string (s.extract 0 n)]).run Ybaf.prog W := by
  subst hd
  have h1 : Nat.min s.size n = n := Nat.min_eq_right hs
  have h2 : (s.extract 0 n).size = n := by simp [ByteArray.size_extract]; omega
  have h3 : (s.extract 0 n).extract 0 n = s.extract 0 n := by
    apply ByteArray.ext
    simp [ByteArray.data_extract]
  simp only [Builtin.copy_, Builtin.lenOf, Builtin.firstCells, h1, h2, h3, Nat.min_self, List.getElem?_toArray, List.getElem?_cons_zero, List.getElem?_cons_succ, pure_bind]
end
end Go.Proofs.YbulkeoyFmt
