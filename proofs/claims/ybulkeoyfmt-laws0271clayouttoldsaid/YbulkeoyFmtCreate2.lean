import Derived.Test.YbulkeoyFmtCreate
namespace Go.Proofs.YbulkeoyFmt
open Go.RowKit

/-- The zero Builder at block B. -/
structure Bn (b0 : Nat) (w0 W : World) (B : Nat) : Prop where
  below : Below b0 w0 W
  hB : b0 ≤ B
  c1 : W.cell? ⟨B, 1, none⟩ = some (.slice none 0 0)
  c2 : W.cell? ⟨B, 2, none⟩ = some (.int .i64 0)
  c3 : W.cell? ⟨B, 3, none⟩ = some (.int .i64 0)
  c14 : W.cell? ⟨B, 14, none⟩ = some (.slice none 0 0)
  c15 : W.cell? ⟨B, 15, none⟩ = some (.bool false)
  c16 : W.cell? ⟨B, 16, none⟩ = some (.int .u32 0)
  c18 : W.cell? ⟨B, 18, none⟩ = some .nilIface
  fr : ∀ i, W.frozen? ⟨B, i, none⟩ = false

theorem grow_bn {b0 : Nat} {w0 W : World} {B : Nat} (a : Bn b0 w0 W B) (n Z : Nat) (hn : n ≤ 2000) (hZ : Z = max n 256) :
    Calls Ybaf.prog 22 #[.pointer (some ⟨B, 0, none⟩), .int .i64 n] W fun e w' => e = .returned (.tuple #[]) ∧ Bd b0 w0 w' B W.heap.size Z 0 [] 0 false .nilIface (.slice none 0 0) := by
  have hlB : B < W.heap.size := World.block_lt_of_cell? _ _ a.c2
  have hb0 : b0 ≤ W.heap.size := by have := a.hB; omega
  refine (grow_nil B n Z W (by omega) hZ (by omega) (by omega) hlB a.c1 a.c2 (a.fr 1) (a.fr 2)).mono ?_
  rintro e w' ⟨rfl, k, rfl⟩
  refine ⟨rfl, Bd.drewN ?_ k⟩
  have hc : ∀ i j v, i ≠ j → ∀ V : World, (V.setCell ⟨B, j, none⟩ v).cell? ⟨B, i, none⟩ = V.cell? ⟨B, i, none⟩ := fun i j v hij V => World.cell?_setCell_other _ _ _ _ (ne_addr (Or.inr (Ne.symm hij)))
  have hp : ∀ i, (W.alloc (.cells (madeCells #[.int .u8 0] Z) 5)).cell? ⟨B, i, none⟩ = W.cell? ⟨B, i, none⟩ := fun i => World.cell?_alloc_past _ _ _ hlB
  have eb : (madeCells #[Value.int .u8 0] Z) = (bytesOf Z []).toArray := by
    apply Array.toList_inj.1; rw [toList_madeCells_one]; simp [bytesOf]
  refine ⟨((a.below.alloc hb0 _).setCell a.hB _).setCell a.hB _, a.hB, hb0, by omega, rfl, ?_, ?_, ?_, ?_, ?_, ⟨0, ?_⟩, ?_, ?_, ?_⟩
  · exact World.cell?_setCell_same _ _ _ ((hc 1 2 _ (by omega) _).trans ((hp 1).trans a.c1))
  · rw [hc 2 1 _ (by omega)]; exact World.cell?_setCell_same _ _ _ ((hp 2).trans a.c2)
  · rw [hc 3 1 _ (by omega), hc 3 2 _ (by omega), hp]; exact a.c3
  · rw [hc 14 1 _ (by omega), hc 14 2 _ (by omega), hp]; exact a.c14
  · rw [hc 15 1 _ (by omega), hc 15 2 _ (by omega), hp]; exact a.c15
  · rw [hc 16 1 _ (by omega), hc 16 2 _ (by omega), hp]; exact a.c16
  · rw [hc 18 1 _ (by omega), hc 18 2 _ (by omega), hp]; exact a.c18
  · intro i; rw [World.frozen?_setCell, World.frozen?_setCell, World.frozen?_alloc_past _ _ _ hlB]; exact a.fr i
  · rw [Below.heap_setCell _ _ _ _ (by show W.heap.size ≠ B; omega), Below.heap_setCell _ _ _ _ (by show W.heap.size ≠ B; omega), eb]; exact heap_alloc_new _ _

theorem room_bn {b0 : Nat} {w0 W : World} {B : Nat} (a : Bn b0 w0 W B) (n Z : Nat) (hn : n ≤ 2000) (hn0 : 0 < n) (hZ : Z = max n 256) :
    Calls Ybaf.prog 12 #[.pointer (some ⟨B, 0, none⟩), .int .i64 n] W fun e w' => e = .returned (.tuple #[]) ∧ Bd b0 w0 w' B W.heap.size Z 0 [] 0 false .nilIface (.slice none 0 0) := by
  have g := grow_bn a n Z hn hZ
  have G : Hid _ := g
  have c2 := a.c2
  clear g hZ
  go_enter Ybaf.func12, Ybaf.ntmps12
  go_wp2_with fail
  refine Calls.mono G.out ?_
  rintro e w' ⟨rfl, b⟩
  go_wp2_with fail
  go_end0
  exact ⟨rfl, b⟩

/-- What CreateString writes. -/
def strBytes (s : ByteArray) : List Int := le32 (s.size : Int) ++ nums s ++ (0 :: List.replicate (padTo 0 (s.size + 5)) 0)
theorem strBytes_length (s : ByteArray) : (strBytes s).length = s.size + 5 + padTo 0 (s.size + 5) := by
  simp [strBytes, le32, nums_length]; omega

theorem xs_eq (s : ByteArray) (n p : Nat) (hn : n = s.size + 5) : le32 (s.size : Int) ++ (List.replicate n (0 : Int) ++ (List.replicate p (0 : Int) ++ [])).drop 4 = le32 (s.size : Int) ++ List.replicate s.size (0 : Int) ++ ((0 : Int) :: List.replicate p (0 : Int)) := by
  subst hn
  rw [List.append_assoc]
  congr 1
  rw [List.append_nil, List.drop_append_of_le_length (by simp), List.drop_replicate, show s.size + 5 - 4 = s.size + 1 by omega, ← List.replicate_append_replicate]
  simp
theorem set_zero (s : ByteArray) (R : List Int) : (le32 (s.size : Int) ++ nums s ++ 0 :: R).set (4 + s.size) 0 = le32 (s.size : Int) ++ nums s ++ 0 :: R := by
  have hl : (le32 (s.size : Int) ++ nums s).length = 4 + s.size := by simp [le32, nums_length]; omega
  rw [List.set_append_right _ _ (by rw [hl]; exact Nat.le_refl _), hl, Nat.sub_self]
  rfl
theorem strBytes_eq (s : ByteArray) : strBytes s = le32 (s.size : Int) ++ nums s ++ (0 :: List.replicate (padTo 0 (s.size + 5)) 0) := rfl

set_option maxRecDepth 100000 in
set_option maxHeartbeats 1000000 in
theorem create_bn {b0 : Nat} {w0 W : World} {B : Nat} (a : Bn b0 w0 W B) (s : ByteArray) (hs : s.size ≤ 1024) :
    Calls Ybaf.prog 6 #[.pointer (some ⟨B, 0, none⟩), .string s] W fun e w' => e = .returned (.int .u32 ((s.size + 5 + padTo 0 (s.size + 5) : Nat) : Int)) ∧ ∃ S h, Bd b0 w0 w' B S h (s.size + 5 + padTo 0 (s.size + 5)) (strBytes s) 4 false .nilIface (.slice none 0 0) ∧ h + (s.size + 5 + padTo 0 (s.size + 5)) ≤ 1100 := by
  have hp := padTo_lt 0 (s.size + 5)
  have SB : Hid _ := strBytes_eq s
  obtain ⟨n, hn⟩ : ∃ n, n = s.size + 5 := ⟨_, rfl⟩
  rw [← hn] at hp SB ⊢
  have hn1 : n ≤ 1029 := by omega
  have hn2 : 5 ≤ n := by omega
  have hns : (n : Int) = (s.size : Int) + 5 := by omega
  have HNS : Hid _ := hns
  have HN : Hid _ := hn
  have C15 : Hid _ := a.c15
  obtain ⟨Z, hZ⟩ : ∃ Z, Z = max (n + 4) 256 := ⟨_, rfl⟩
  have RM : Hid _ := room_bn a (n + 4) Z (by omega) (by omega) hZ
  have hZ1 : n + 4 ≤ Z := by omega
  have hZ2 : Z ≤ 1033 := by omega
  clear hn hns hZ
  obtain ⟨p, hpe⟩ : ∃ p, p = padTo 0 n := ⟨_, rfl⟩
  rw [← hpe] at hp SB ⊢
  have HPP : Hid _ := hpe
  clear hpe
  go_enter Ybaf.func6, Ybaf.ntmps6
  go_wp2_with fail
  refine Calls.mono (noTable_raw B W _ C15.out) ?_
  rintro e w' ⟨rfl, rfl⟩
  go_wp2_with fail
  rw [show (4 + (s.size : Int) + 1) = (n : Int) by have := HNS.out; omega, show ((n : Int) + 4) = ((n + 4 : Nat) : Int) by omega]
  refine Calls.mono RM.out ?_
  rintro e wa ⟨rfl, b⟩
  generalize w'.heap.size = S at b
  clear RM
  go_wp2_with fail
  have pb := pad_bd b (by omega) (Or.inl rfl) n (by omega) (by rw [← HPP.out]; omega)
  rw [← HPP.out] at pb
  refine Calls.mono pb ?_
  clear pb b
  rintro e wb ⟨rfl, b⟩
  go_wp2_with fail
  refine Calls.mono (take_bd b (by omega) n (by omega) (by omega)) ?_
  clear b
  rintro e wc ⟨rfl, b⟩
  obtain ⟨o, ho⟩ : ∃ o, o = Z - p - n := ⟨_, rfl⟩
  have ho1 : o + p + n ≤ 1033 := by omega
  rw [← ho] at b ⊢
  clear ho hZ1 hZ2
  go_wp2_with fail
  refine Calls.mono (put_bd b n n s.size (by omega) (by omega) (by omega) (by omega)) ?_
  clear b
  rintro e wd ⟨rfl, b⟩
  rw [xs_eq s n p HN.out] at b
  obtain ⟨we, hcp, b2⟩ := copyS_bd b (le32 s.size) (List.replicate s.size 0) (0 :: List.replicate p 0) s rfl (by simp) 4 (n - 4) (n - 4) rfl (by have := HN.out; omega)
  clear b
  have hn4 : ¬ n = 4 := by omega
  have ce := b2.cellS (4 + s.size) (by have := HN.out; omega)
  have fe := b2.frozenS
  have hlt : 4 + (s.size : Int) < (n : Int) := by have := HNS.out; omega
  go_wp2_with fail
  have b3 := b2.byte (4 + s.size) 0
  rw [set_zero, ← SB.out, show 0 + p + n = n + p by omega] at b3
  clear b2 ce fe hcp
  refine Calls.mono (at_bd b3 (by omega)) ?_
  clear b3
  rintro e wf ⟨rfl, b⟩
  go_wp2_with fail
  go_ret
  exact ⟨rfl, S, o, b, by omega⟩
end Go.Proofs.YbulkeoyFmt
