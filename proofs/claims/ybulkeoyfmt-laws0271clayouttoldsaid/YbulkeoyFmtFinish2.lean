import Derived.Test.YbulkeoyFmtFinish
namespace Go.Proofs.YbulkeoyFmt
open Go.RowKit Go.Extern.Stop Go.Stop Go.Extern

section
variable {b0 : Nat} {w0 W : World} {B S h x : Nat} {X : List Int} {fl err : Value}

/-- The identifier is copied over the four bytes that were taken. -/
theorem copyId (a : Bd b0 w0 W B S h x (List.replicate 4 0 ++ X) 4 false err fl) (id : ByteArray) :
    ∃ W' Y n, (∀ ty, (Builtin.copy_ #[24, 9] ty #[.slice (some ⟨S, h, none⟩) 4 4, .string id]).run Ybaf.prog W = .ok (.int .i64 n) W') ∧ Bd b0 w0 W' B S h x Y 4 false err fl ∧ (id.size = 4 → Y = nums id ++ X) := by
  by_cases h4 : id.size ≤ 4
  · obtain ⟨W', h1, h2⟩ := copyS_bd a [] (List.replicate id.size 0) (List.replicate (4 - id.size) 0 ++ X) id (by rw [List.nil_append, ← List.append_assoc, List.replicate_append_replicate, show id.size + (4 - id.size) = 4 by omega]) (by simp) 0 4 4 rfl h4
    exact ⟨W', _, _, h1, h2, fun e => by simp [e]⟩
  · have he : (id.extract 0 4).size = 4 := by simp [ByteArray.size_extract]; omega
    obtain ⟨W', h1, h2⟩ := copyS_bd a [] (List.replicate 4 0) X (id.extract 0 4) rfl (by rw [he]; simp) 0 4 4 rfl (by omega)
    exact ⟨W', _, _, fun ty => by rw [copy_cut W _ 4 _ 4 rfl id (by omega) ty]; exact h1 ty, h2, fun e => by omega⟩

set_option maxRecDepth 100000 in
set_option maxHeartbeats 1000000 in
/-- No identifier, a root that is not written. -/
theorem fin_none_bad (F : Interp) (hF : F.answers w0.tape) (a : Bd b0 w0 W B S h x X 4 false .nilIface fl) (hL : h + x ≤ 4000) (hx0 : 0 < x) (hx4 : x % 4 = 0) (off : Nat) (ho3 : off ≤ 4294967295) (ho : off = 0 ∨ x < off) :
    Calls Ybaf.prog 7 #[.pointer (some ⟨B, 0, none⟩), .int .u32 off, .string ⟨#[]⟩] W fun e w' => ∃ p, e = .returned (.tuple #[.slice none 0 0, .iface 62 (.pointer (some p))]) ∧ Below b0 w0 w' := by
  have HF : Hid _ := hF
  clear hF
  have hp := padTo_zero4 x 4 hx4 rfl
  have HP : Hid _ := hp
  have HP4 : Hid _ := padTo_zero4 (x) 4 (by omega) rfl
  have c3 := a.c3
  have c15 := a.c15
  have HO : Hid _ := ho
  clear ho
  clear hp hx4
  go_enter Ybaf.func7, Ybaf.ntmps7
  go_wp2_with fail
  refine Calls.mono (noTable_raw B W _ c15) ?_
  rintro e w' ⟨rfl, rfl⟩
  go_wp2_with fail
  have pr := prep_bd a (by omega) hx0 (Or.inr rfl) 4 (by omega)
  rw [HP.out] at pr
  simp only [Nat.add_zero, List.replicate_zero, List.nil_append] at pr
  refine Calls.mono pr ?_
  clear pr c3 c15 a
  rintro e w' ⟨rfl, S', h', b, hb⟩
  have g1 : h' + x ≤ 8300 := by omega
  clear hb
  obtain ⟨o, hoe⟩ : ∃ o, o = h' := ⟨_, rfl⟩
  rw [← hoe] at b g1
  clear hoe
  go_wp2_with fail
  refine Calls.mono (pre_bad F HF.out b (by omega) (by omega) (Or.inr rfl) (Or.inl rfl) off ho3 (by rw [HP4.out]; have := HO.out; omega)) ?_
  clear b
  rintro e w' ⟨rfl, S2, h2, x2, Y2, q, b⟩
  have c18 := b.c18
  have HB : Hid _ := b.below
  clear b
  go_wp2
  go_quiet (fail)
  go_wp2
  go_ret2
  exact ⟨_, rfl, below_drewN HB.out _⟩

set_option maxRecDepth 100000 in
set_option maxHeartbeats 1000000 in
/-- An identifier of four bytes, a good root. -/
theorem fin_four_ok (a : Bd b0 w0 W B S h x X 4 false .nilIface fl) (hL : h + x ≤ 4000) (hx0 : 0 < x) (hx4 : x % 4 = 0) (id : ByteArray) (hne : id.toList.isEmpty = false) (h4 : id.size = 4) (off : Nat) (ho : 0 < off) (ho2 : off ≤ x + 4) :
    Calls Ybaf.prog 7 #[.pointer (some ⟨B, 0, none⟩), .int .u32 off, .string id] W fun e w' => ∃ S' h', e = .returned (.tuple #[.slice (some ⟨S', h', none⟩) (x + 8) (x + 8), .nilIface]) ∧ Bd b0 w0 w' B S' h' (x + 8) (le32 (4 + ((x + 4 : Nat) : Int) - (off : Int)) ++ (nums id ++ X)) 4 false .nilIface fl := by
  have hp := padTo_zero4 x 8 hx4 rfl
  have HP : Hid _ := hp
  have HP4 : Hid _ := padTo_zero4 (x + 4) 4 (by omega) rfl
  have c3 := a.c3
  have c15 := a.c15
  obtain ⟨y, hy⟩ : ∃ y, y = x + 8 := ⟨_, rfl⟩
  rw [← hy]
  have HY : Hid _ := hy
  have hy0 : ¬ y = 0 := by omega
  have hy1 : y ≤ 4008 := by omega
  clear hy
  clear hp hx4
  have h44 : ((id.size : Int) != 4) = false := by simp; omega
  have H4 : Hid _ := h4
  clear h4
  go_enter Ybaf.func7, Ybaf.ntmps7
  go_wp2_with fail
  refine Calls.mono (noTable_raw B W _ c15) ?_
  rintro e w' ⟨rfl, rfl⟩
  go_wp2_with fail
  have pr := prep_bd a (by omega) hx0 (Or.inr rfl) 8 (by omega)
  rw [HP.out] at pr
  simp only [Nat.add_zero, List.replicate_zero, List.nil_append] at pr
  refine Calls.mono pr ?_
  clear pr c3 c15 a
  rintro e w' ⟨rfl, S', h', b, hb⟩
  have g1 : h' + x ≤ 8300 := by omega
  clear hb
  go_wp2_with fail
  refine Calls.mono (room_bd b (by omega) hx0 4 (by omega)) ?_
  clear b
  rintro e w' ⟨rfl, S1, h1, b, hb1, hb2⟩
  have g3 : h1 + x ≤ 16900 := by omega
  clear hb2 g1
  go_wp2_with fail
  refine Calls.mono (take_bd b (by omega) 4 (by omega) (by omega)) ?_
  clear b
  rintro e w' ⟨rfl, b⟩
  obtain ⟨wi, Y, nn, hcp, b2, hY⟩ := copyId b id
  obtain ⟨o, hoe⟩ : ∃ o, o = h1 - 4 := ⟨_, rfl⟩
  have g1 : o + (x + 4) ≤ 17000 := by omega
  rw [← hoe] at b2 hcp ⊢
  have HYY : Hid _ := hY
  clear b hY hoe
  have b := b2
  clear b2
  go_wp2_with fail
  have pk := pre_ok b (by omega) (by omega) (Or.inr rfl) off ho (by omega)
  rw [HP4.out] at pk
  simp only [Nat.add_zero, List.replicate_zero, List.nil_append] at pk
  rw [HYY.out H4.out, show x + 4 + 4 = y by have := HY.out; omega] at pk
  refine Calls.mono pk ?_
  clear pk b
  rintro e w' ⟨rfl, S2, h2, b, hb⟩
  have c18 := b.c18
  have g9 : h2 + y ≤ 40000 := by have := HY.out; omega
  go_wp2_with fail
  refine Calls.mono (length_bd b (by omega)) ?_
  clear b c18 hb
  rintro e w' ⟨rfl, b⟩
  have c1 := b.c1
  have c2 := b.c2
  have B2 : Hid _ := b
  have z1 : (h2 : Int) ≤ (h2 : Int) + (y : Int) := by omega
  have z2 : (0 : Int) ≤ (h2 : Int) := by omega
  clear b
  go_wp2
  go_quiet (fail)
  go_wp2
  go_ret2
  exact ⟨S2, h2, by simp, B2.out.drewN _⟩

set_option maxRecDepth 100000 in
set_option maxHeartbeats 1000000 in
/-- An identifier of four bytes, a root that is not written. -/
theorem fin_four_bad (F : Interp) (hF : F.answers w0.tape) (a : Bd b0 w0 W B S h x X 4 false .nilIface fl) (hL : h + x ≤ 4000) (hx0 : 0 < x) (hx4 : x % 4 = 0) (id : ByteArray) (hne : id.toList.isEmpty = false) (h4 : id.size = 4) (off : Nat) (ho3 : off ≤ 4294967295) (ho : off = 0 ∨ x + 4 < off) :
    Calls Ybaf.prog 7 #[.pointer (some ⟨B, 0, none⟩), .int .u32 off, .string id] W fun e w' => ∃ p, e = .returned (.tuple #[.slice none 0 0, .iface 62 (.pointer (some p))]) ∧ Below b0 w0 w' := by
  have HF : Hid _ := hF
  clear hF
  have hp := padTo_zero4 x 8 hx4 rfl
  have HP : Hid _ := hp
  have HP4 : Hid _ := padTo_zero4 (x + 4) 4 (by omega) rfl
  have c3 := a.c3
  have c15 := a.c15
  have HO : Hid _ := ho
  clear ho
  clear hp hx4
  have h44 : ((id.size : Int) != 4) = false := by simp; omega
  have H4 : Hid _ := h4
  clear h4
  go_enter Ybaf.func7, Ybaf.ntmps7
  go_wp2_with fail
  refine Calls.mono (noTable_raw B W _ c15) ?_
  rintro e w' ⟨rfl, rfl⟩
  go_wp2_with fail
  have pr := prep_bd a (by omega) hx0 (Or.inr rfl) 8 (by omega)
  rw [HP.out] at pr
  simp only [Nat.add_zero, List.replicate_zero, List.nil_append] at pr
  refine Calls.mono pr ?_
  clear pr c3 c15 a
  rintro e w' ⟨rfl, S', h', b, hb⟩
  have g1 : h' + x ≤ 8300 := by omega
  clear hb
  go_wp2_with fail
  refine Calls.mono (room_bd b (by omega) hx0 4 (by omega)) ?_
  clear b
  rintro e w' ⟨rfl, S1, h1, b, hb1, hb2⟩
  have g3 : h1 + x ≤ 16900 := by omega
  clear hb2 g1
  go_wp2_with fail
  refine Calls.mono (take_bd b (by omega) 4 (by omega) (by omega)) ?_
  clear b
  rintro e w' ⟨rfl, b⟩
  obtain ⟨wi, Y, nn, hcp, b2, hY⟩ := copyId b id
  obtain ⟨o, hoe⟩ : ∃ o, o = h1 - 4 := ⟨_, rfl⟩
  have g1 : o + (x + 4) ≤ 17000 := by omega
  rw [← hoe] at b2 hcp ⊢
  have HYY : Hid _ := hY
  clear b hY hoe
  have b := b2
  clear b2
  go_wp2_with fail
  refine Calls.mono (pre_bad F HF.out b (by omega) (by omega) (Or.inr rfl) (Or.inl rfl) off ho3 (by rw [HP4.out]; have := HO.out; omega)) ?_
  clear b
  rintro e w' ⟨rfl, S2, h2, x2, Y2, q, b⟩
  have c18 := b.c18
  have HB : Hid _ := b.below
  clear b
  go_wp2
  go_quiet (fail)
  go_wp2
  go_ret2
  exact ⟨_, rfl, below_drewN HB.out _⟩

set_option maxRecDepth 100000 in
set_option maxHeartbeats 1000000 in
/-- An identifier of another length, a good root. -/
theorem fin_odd_ok (F : Interp) (hF : F.answers w0.tape) (a : Bd b0 w0 W B S h x X 4 false .nilIface fl) (hL : h + x ≤ 4000) (hx0 : 0 < x) (hx4 : x % 4 = 0) (id : ByteArray) (hne : id.toList.isEmpty = false) (h4 : ¬ id.size = 4) (_hid : id.size ≤ 1024) (off : Nat) (ho : 0 < off) (ho2 : off ≤ x + 4) :
    Calls Ybaf.prog 7 #[.pointer (some ⟨B, 0, none⟩), .int .u32 off, .string id] W fun e w' => ∃ p, e = .returned (.tuple #[.slice none 0 0, .iface 62 (.pointer (some p))]) ∧ Below b0 w0 w' := by
  have HF : Hid _ := hF
  clear hF
  have hp := padTo_zero4 x 8 hx4 rfl
  have HP : Hid _ := hp
  have HP4 : Hid _ := padTo_zero4 (x + 4) 4 (by omega) rfl
  have c3 := a.c3
  have c15 := a.c15
  clear hp hx4
  have h44 : ((id.size : Int) != 4) = true := by simp; omega
  have H4 : Hid _ := h4
  clear h4
  go_enter Ybaf.func7, Ybaf.ntmps7
  go_wp2_with fail
  refine Calls.mono (noTable_raw B W _ c15) ?_
  rintro e w' ⟨rfl, rfl⟩
  go_wp2_with fail
  have aa := a.alloc (.cells #[.iface 9 (.string id), .iface 3 (.int .i64 4)] 20)
  refine Calls.mono (failf_bd aa (Or.inl rfl) _ _ (errorf_q F id 4 _ (by rw [aa.below.tape]; exact HF.out) _ (by rw [World.cell?_alloc_at _ _ _ _ rfl]; rfl) (by rw [World.cell?_alloc_at _ _ _ _ rfl]; rfl))) ?_
  clear aa a c3
  rintro e w' ⟨rfl, q0, a⟩
  have c3 := a.c3
  go_wp2_with fail
  have pr := prep_bd a (by omega) hx0 (Or.inr rfl) 8 (by omega)
  rw [HP.out] at pr
  simp only [Nat.add_zero, List.replicate_zero, List.nil_append] at pr
  refine Calls.mono pr ?_
  clear pr c3 c15 a
  rintro e w' ⟨rfl, S', h', b, hb⟩
  have g1 : h' + x ≤ 8300 := by omega
  clear hb
  go_wp2_with fail
  refine Calls.mono (room_bd b (by omega) hx0 4 (by omega)) ?_
  clear b
  rintro e w' ⟨rfl, S1, h1, b, hb1, hb2⟩
  have g3 : h1 + x ≤ 16900 := by omega
  clear hb2 g1
  go_wp2_with fail
  refine Calls.mono (take_bd b (by omega) 4 (by omega) (by omega)) ?_
  clear b
  rintro e w' ⟨rfl, b⟩
  obtain ⟨wi, Y, nn, hcp, b2, hY⟩ := copyId b id
  obtain ⟨o, hoe⟩ : ∃ o, o = h1 - 4 := ⟨_, rfl⟩
  have g1 : o + (x + 4) ≤ 17000 := by omega
  rw [← hoe] at b2 hcp ⊢
  have HYY : Hid _ := hY
  clear b hY hoe
  have b := b2
  clear b2
  go_wp2_with fail
  have pk := pre_ok b (by omega) (by omega) (Or.inr rfl) off ho (by omega)
  rw [HP4.out] at pk
  simp only [Nat.add_zero, List.replicate_zero, List.nil_append] at pk
  refine Calls.mono pk ?_
  clear pk b
  rintro e w' ⟨rfl, S2, h2, b, hb⟩
  have c18 := b.c18
  have HB : Hid _ := b.below
  clear b hb
  go_wp2
  go_quiet (fail)
  go_wp2
  go_ret2
  exact ⟨_, rfl, below_drewN HB.out _⟩

set_option maxRecDepth 100000 in
set_option maxHeartbeats 1000000 in
/-- An identifier of another length, a root that is not written. -/
theorem fin_odd_bad (F : Interp) (hF : F.answers w0.tape) (a : Bd b0 w0 W B S h x X 4 false .nilIface fl) (hL : h + x ≤ 4000) (hx0 : 0 < x) (hx4 : x % 4 = 0) (id : ByteArray) (hne : id.toList.isEmpty = false) (h4 : ¬ id.size = 4) (_hid : id.size ≤ 1024) (off : Nat) (ho3 : off ≤ 4294967295) (ho : off = 0 ∨ x + 4 < off) :
    Calls Ybaf.prog 7 #[.pointer (some ⟨B, 0, none⟩), .int .u32 off, .string id] W fun e w' => ∃ p, e = .returned (.tuple #[.slice none 0 0, .iface 62 (.pointer (some p))]) ∧ Below b0 w0 w' := by
  have HF : Hid _ := hF
  clear hF
  have hp := padTo_zero4 x 8 hx4 rfl
  have HP : Hid _ := hp
  have HP4 : Hid _ := padTo_zero4 (x + 4) 4 (by omega) rfl
  have c3 := a.c3
  have c15 := a.c15
  have HO : Hid _ := ho
  clear ho
  clear hp hx4
  have h44 : ((id.size : Int) != 4) = true := by simp; omega
  have H4 : Hid _ := h4
  clear h4
  go_enter Ybaf.func7, Ybaf.ntmps7
  go_wp2_with fail
  refine Calls.mono (noTable_raw B W _ c15) ?_
  rintro e w' ⟨rfl, rfl⟩
  go_wp2_with fail
  have aa := a.alloc (.cells #[.iface 9 (.string id), .iface 3 (.int .i64 4)] 20)
  refine Calls.mono (failf_bd aa (Or.inl rfl) _ _ (errorf_q F id 4 _ (by rw [aa.below.tape]; exact HF.out) _ (by rw [World.cell?_alloc_at _ _ _ _ rfl]; rfl) (by rw [World.cell?_alloc_at _ _ _ _ rfl]; rfl))) ?_
  clear aa a c3
  rintro e w' ⟨rfl, q0, a⟩
  have c3 := a.c3
  go_wp2_with fail
  have pr := prep_bd a (by omega) hx0 (Or.inr rfl) 8 (by omega)
  rw [HP.out] at pr
  simp only [Nat.add_zero, List.replicate_zero, List.nil_append] at pr
  refine Calls.mono pr ?_
  clear pr c3 c15 a
  rintro e w' ⟨rfl, S', h', b, hb⟩
  have g1 : h' + x ≤ 8300 := by omega
  clear hb
  go_wp2_with fail
  refine Calls.mono (room_bd b (by omega) hx0 4 (by omega)) ?_
  clear b
  rintro e w' ⟨rfl, S1, h1, b, hb1, hb2⟩
  have g3 : h1 + x ≤ 16900 := by omega
  clear hb2 g1
  go_wp2_with fail
  refine Calls.mono (take_bd b (by omega) 4 (by omega) (by omega)) ?_
  clear b
  rintro e w' ⟨rfl, b⟩
  obtain ⟨wi, Y, nn, hcp, b2, hY⟩ := copyId b id
  obtain ⟨o, hoe⟩ : ∃ o, o = h1 - 4 := ⟨_, rfl⟩
  have g1 : o + (x + 4) ≤ 17000 := by omega
  rw [← hoe] at b2 hcp ⊢
  have HYY : Hid _ := hY
  clear b hY hoe
  have b := b2
  clear b2
  go_wp2_with fail
  refine Calls.mono (pre_bad F HF.out b (by omega) (by omega) (Or.inr rfl) (Or.inr ⟨q0, rfl⟩) off ho3 (by rw [HP4.out]; have := HO.out; omega)) ?_
  clear b
  rintro e w' ⟨rfl, S2, h2, x2, Y2, q, b⟩
  have c18 := b.c18
  have HB : Hid _ := b.below
  clear b
  go_wp2
  go_quiet (fail)
  go_wp2
  go_ret2
  exact ⟨_, rfl, below_drewN HB.out _⟩

end
end Go.Proofs.YbulkeoyFmt
