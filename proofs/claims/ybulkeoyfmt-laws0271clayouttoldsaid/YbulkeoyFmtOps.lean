import Derived.Test.YbulkeoyFmtBd
namespace Go.Proofs.YbulkeoyFmt
open Go.RowKit

def le32 (v : Int) : List Int := [v % 256, v / 256 % 256, v / 65536 % 256, v / 16777216]
theorem set4 (X : List Int) (h : 4 ≤ X.length) (a b c d : Int) : (((X.set 0 a).set 1 b).set 2 c).set 3 d = [a, b, c, d] ++ X.drop 4 := by
  match X, h with
  | _ :: _ :: _ :: _ :: _, _ => rfl

section
variable {b0 : Nat} {w0 W : World} {B S h x : Nat} {X : List Int} {m : Int} {it : Bool} {err fl : Value}

theorem length_bd (a : Bd b0 w0 W B S h x X m it err fl) (hL : h + x ≤ 1000000) :
    Calls Ybaf.prog 20 #[.pointer (some ⟨B, 0, none⟩)] W fun e w' => e = .returned (.int .i64 (x : Int)) ∧ Bd b0 w0 w' B S h x X m it err fl := by
  refine (length_x B h x _ _ W hL a.c1 a.c2).mono ?_
  rintro e w' ⟨rfl, k, rfl⟩
  exact ⟨rfl, a.drewN k⟩
theorem at_bd (a : Bd b0 w0 W B S h x X m it err fl) (hL : h + x ≤ 1000000) :
    Calls Ybaf.prog 16 #[.pointer (some ⟨B, 0, none⟩)] W fun e w' => e = .returned (.int .u32 (x : Int)) ∧ Bd b0 w0 w' B S h x X m it err fl := by
  have := at_raw B (h + x) h _ _ W hL (by omega) a.c1 a.c2
  rw [show ((h + x : Nat) : Int) - (h : Int) = (x : Int) by omega] at this
  refine this.mono ?_
  rintro e w' ⟨rfl, k, rfl⟩
  exact ⟨rfl, a.drewN k⟩
theorem take_bd (a : Bd b0 w0 W B S h x X m it err fl) (hL : h + x ≤ 1000000) (n : Nat) (hn : n ≤ h) (hn0 : 0 < n) :
    Calls Ybaf.prog 14 #[.pointer (some ⟨B, 0, none⟩), .int .i64 n] W fun e w' => e = .returned (.slice (some ⟨S, h - n, none⟩) n n) ∧ Bd b0 w0 w' B S (h - n) (x + n) (List.replicate n 0 ++ X) m it err fl := by
  refine (take_raw B S (h + x) h n W hL (by omega) hn hn0 a.c1 a.c2 (a.fr 2)).mono ?_
  rintro e w' ⟨rfl, k, rfl⟩
  exact ⟨rfl, (a.back n hn).drewN k⟩
theorem pad_bd (a : Bd b0 w0 W B S h x X m it err fl) (hL : h + x ≤ 1000000) (hm : m = 0 ∨ m = 4) (n : Nat) (hn : n ≤ 1000000) (hp : padTo x n ≤ h) :
    Calls Ybaf.prog 13 #[.pointer (some ⟨B, 0, none⟩), .int .i64 4, .int .i64 n] W fun e w' => e = .returned (.tuple #[]) ∧ Bd b0 w0 w' B S (h - padTo x n) (x + padTo x n) (List.replicate (padTo x n) 0 ++ X) 4 it err fl := by
  have e : h + x - h = x := by omega
  have := pad_raw B (h + x) h n _ _ m W hL (by omega) hn (by rw [e]; exact hp) a.c1 a.c2 (a.fr 2) a.c3 (a.fr 3) hm
  rw [e] at this
  refine this.mono ?_
  rintro e w' ⟨rfl, k, rfl⟩
  exact ⟨rfl, ((a.setMax 4).back _ hp).drewN k⟩
theorem put_bd (a : Bd b0 w0 W B S h x X m it err fl) (n cap : Nat) (v : Int) (hv : 0 ≤ v ∧ v ≤ 4294967295) (hn : 4 ≤ n) (hn2 : n ≤ 1000000) (hx4 : 4 ≤ x) :
    Calls Ybaf.prog 15 #[.agg #[], .slice (some ⟨S, h, none⟩) n cap, .int .u32 v] W fun e w' => e = .returned (.tuple #[]) ∧ Bd b0 w0 w' B S h x (le32 v ++ X.drop 4) m it err fl := by
  refine (put_raw S h n cap v _ _ _ _ W hv hn hn2 a.ltS (a.cellS 0 (by omega)) (a.cellS 1 (by omega)) (a.cellS 2 (by omega)) (a.cellS 3 (by omega)) a.frozenS).mono ?_
  rintro e w' ⟨rfl, rfl⟩
  refine ⟨rfl, ?_⟩
  have := ((((a.byte 0 (v % 256)).byte 1 (v / 256 % 256)).byte 2 (v / 65536 % 256)).byte 3 (v / 16777216)).alloc (.cells #[] 41)
  rw [set4 X (by rw [a.hx]; exact hx4)] at this
  exact this
theorem room_has (a : Bd b0 w0 W B S h x X m it err fl) (n : Nat) (hn : n ≤ h) (_hh : h ≤ 1000000) :
    Calls Ybaf.prog 12 #[.pointer (some ⟨B, 0, none⟩), .int .i64 n] W fun e w' => e = .returned (.tuple #[]) ∧ w' = W := by
  have c2 := a.c2
  go_enter Ybaf.func12, Ybaf.ntmps12
  go_wp2
  go_end0
  exact ⟨rfl, rfl⟩
theorem grow_bd (a : Bd b0 w0 W B S h x X m it err fl) (hL : h + x ≤ 50000) (hx0 : 0 < x) (n : Nat) (hn : n ≤ 2000) :
    Calls Ybaf.prog 22 #[.pointer (some ⟨B, 0, none⟩), .int .i64 n] W fun e w' => e = .returned (.tuple #[]) ∧ ∃ S' y, Bd b0 w0 w' B S' y x X m it err fl ∧ h + n ≤ y ∧ y + x ≤ 2 * (h + x) + n + 256 := by
  obtain ⟨y, hy⟩ : ∃ y, y + x = max (max (2 * (h + x)) (h + x + n)) 256 := ⟨max (max (2 * (h + x)) (h + x + n)) 256 - x, by omega⟩
  refine (grow_some B S h x y n (bytesOf h X).toArray W (by omega) (by omega) hx0 hy (by omega) (by omega) a.ltB a.blk (by rw [List.size_toArray, bytesOf_length, a.hx]) (bytesOf_one h X) a.c1 a.c2 (a.fr 1) (a.fr 2)).mono ?_
  rintro e w' ⟨rfl, k, rfl⟩
  have hlB := a.ltB
  refine ⟨rfl, W.heap.size, y, Bd.drewN ?_ k, by omega, by omega⟩
  rw [List.toList_toArray, bytesOf_grow]
  have a1 := a.alloc (.cells (bytesOf y X).toArray 5)
  have hc : ∀ i j v, i ≠ j → ∀ V : World, (V.setCell ⟨B, j, none⟩ v).cell? ⟨B, i, none⟩ = V.cell? ⟨B, i, none⟩ := fun i j v hij V => World.cell?_setCell_other _ _ _ _ (ne_addr (Or.inr (Ne.symm hij)))
  obtain ⟨u, hu⟩ := a1.c16
  refine ⟨(a1.below.setCell a.hB _).setCell a.hB _, a.hB, a.base, by omega, a.hx, ?_, ?_, ?_, ?_, ?_, ⟨u, ?_⟩, ?_, ?_, ?_⟩
  · exact World.cell?_setCell_same _ _ _ ((hc 1 2 _ (by omega) _).trans a1.c1)
  · rw [hc 2 1 _ (by omega)]; exact World.cell?_setCell_same _ _ _ a1.c2
  · rw [hc 3 1 _ (by omega), hc 3 2 _ (by omega)]; exact a1.c3
  · rw [hc 14 1 _ (by omega), hc 14 2 _ (by omega)]; exact a1.c14
  · rw [hc 15 1 _ (by omega), hc 15 2 _ (by omega)]; exact a1.c15
  · rw [hc 16 1 _ (by omega), hc 16 2 _ (by omega)]; exact hu
  · rw [hc 18 1 _ (by omega), hc 18 2 _ (by omega)]; exact a1.c18
  · intro i; rw [World.frozen?_setCell, World.frozen?_setCell]; exact a1.fr i
  · rw [Below.heap_setCell _ _ _ _ (by show W.heap.size ≠ B; omega), Below.heap_setCell _ _ _ _ (by show W.heap.size ≠ B; omega)]; exact heap_alloc_new _ _
/-- room, whatever the head: behind it there is room. -/
theorem room_bd (a : Bd b0 w0 W B S h x X m it err fl) (hL : h + x ≤ 50000) (hx0 : 0 < x) (n : Nat) (hn : n ≤ 2000) :
    Calls Ybaf.prog 12 #[.pointer (some ⟨B, 0, none⟩), .int .i64 n] W fun e w' => e = .returned (.tuple #[]) ∧ ∃ S' y, Bd b0 w0 w' B S' y x X m it err fl ∧ n ≤ y ∧ y + x ≤ 2 * (h + x) + n + 256 := by
  by_cases hr : n ≤ h
  · refine (room_has a n hr (by omega)).mono ?_
    rintro e w' ⟨rfl, rfl⟩
    exact ⟨rfl, S, h, a, hr, by omega⟩
  · have c2 := a.c2
    have g := grow_bd a hL hx0 n hn
    have G : Hid _ := g
    clear g
    go_enter Ybaf.func12, Ybaf.ntmps12
    go_wp2_with fail
    refine Calls.mono G.out ?_
    rintro e w' ⟨rfl, S', y, b, h1, h2⟩
    go_wp2_with fail
    go_end0
    exact ⟨rfl, S', y, b, by omega, h2⟩
end
end Go.Proofs.YbulkeoyFmt
