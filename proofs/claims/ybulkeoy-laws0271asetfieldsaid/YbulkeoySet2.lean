import Derived.Test.YbulkeoySet
import Derived.Deep.OwnRows
import Derived.OpenShut
namespace Go.Proofs.Ybulkeoy
open Go.RowKit

theorem Yba.info26 : (Yba.prog.info? 26).map (fun i => (i.zero, i.size, i.bytes)) = some (some (.int .u32 0), 1, 4) := by kernel_rfl
theorem Yba.info5 : (Yba.prog.info? 5).map (fun i => (i.zero, i.size, i.bytes)) = some (some (.int .u8 0), 1, 1) := by kernel_rfl

theorem row_set {cur : Array Value} {n k : Nat} {zf : Nat → Int} (hcs : cur.size = n) (hk : k < n) (hA : ∀ j, j < n → ∃ y, cur[j]? = some (.int .u32 y)) (hC : ∀ j, j < k → cur[j]? = some (.int .u32 (zf j))) :
    (∀ j, j < n → ∃ y, (cur.setIfInBounds k (.int .u32 (zf k)))[j]? = some (.int .u32 y)) ∧ (∀ j, j < k + 1 → (cur.setIfInBounds k (.int .u32 (zf k)))[j]? = some (.int .u32 (zf j))) := by
  constructor
  · intro j hj
    by_cases e : k = j
    · subst e; exact ⟨zf k, by simp [hcs, hk]⟩
    · obtain ⟨y, h⟩ := hA j hj
      exact ⟨y, by rw [Array.getElem?_setIfInBounds_ne e]; exact h⟩
  · intro j hj
    by_cases e : k = j
    · subst e; simp [hcs, hk]
    · rw [Array.getElem?_setIfInBounds_ne e]; exact hC j (by omega)

/-- The Builder as the law lays it: fields at block N, the buffer at N + 1. -/
def bldr (N L h n : Nat) (it : Bool) (err : Value) : Obj :=
  .cells #[.bool false, .slice (some ⟨N + 1, 0, none⟩) L L, .int .i64 h, .int .i64 0, .map none, .int .u64 0, .int .u32 0, .int .u32 0, .int .u32 0, .int .u32 0, .int .u32 0, .int .u32 0, .int .u32 0, .int .u32 0,
    .slice (some ⟨N, 0, none⟩) n n, .bool it, .int .u32 0, .slice none 0 0, err] 38

/-- What holds of the world behind setField. -/
structure After (w w1 : World) (L h n : Nat) (it : Bool) (err : Value) (f : Nat → Int) : Prop where
  below : Below w.heap.size w w1
  c1 : w1.cell? ⟨w.heap.size + 1 + 1, 1, none⟩ = some (.slice (some ⟨w.heap.size + 1, 0, none⟩) L L)
  c2 : w1.cell? ⟨w.heap.size + 1 + 1, 2, none⟩ = some (.int .i64 h)
  c14 : w1.cell? ⟨w.heap.size + 1 + 1, 14, none⟩ = some (.slice (some ⟨w.heap.size, 0, none⟩) n n)
  c15 : w1.cell? ⟨w.heap.size + 1 + 1, 15, none⟩ = some (.bool it)
  c18 : w1.cell? ⟨w.heap.size + 1 + 1, 18, none⟩ = some err
  row : ∀ i, i < n → w1.cell? ⟨w.heap.size, i, none⟩ = some (.int .u32 (f i))
  fr : ∀ i, w1.frozen? ⟨w.heap.size, i, none⟩ = false
  fr2 : ∀ i, w1.frozen? ⟨w.heap.size + 1 + 1, i, none⟩ = false

theorem sz1 (w : World) (o : Obj) : (w.alloc o).heap.size = w.heap.size + 1 := by simp
theorem below3 (w : World) (o1 o2 o3 : Obj) : Below w.heap.size w (((w.alloc o1).alloc o2).alloc o3) :=
  (((Below.refl _ w).alloc (Nat.le_refl _) _).alloc (by simp) _).alloc (by simp; omega) _

/-- The world before the call, no earlier mistake. -/
theorem before0 (w : World) (cur bc : Array Value) (L h n : Nat) (it : Bool) (err : Value) (f : Nat → Int) (hrow : ∀ i, i < n → cur[i]? = some (.int .u32 (f i))) :
    After w (((w.alloc (.cells cur 26)).alloc (.cells bc 5)).alloc (bldr w.heap.size L h n it err)) L h n it err f := by
  have s2 : ((w.alloc (.cells cur 26)).alloc (.cells bc 5)).heap.size = w.heap.size + 1 + 1 := by simp
  have key : ∀ i, (((w.alloc (.cells cur 26)).alloc (.cells bc 5)).alloc (bldr w.heap.size L h n it err)).cell? ⟨w.heap.size + 1 + 1, i, none⟩ = (#[.bool false, .slice (some ⟨w.heap.size + 1, 0, none⟩) L L, .int .i64 h, .int .i64 0, .map none, .int .u64 0, .int .u32 0, .int .u32 0, .int .u32 0, .int .u32 0, .int .u32 0, .int .u32 0, .int .u32 0, .int .u32 0,
    .slice (some ⟨w.heap.size, 0, none⟩) n n, .bool it, .int .u32 0, .slice none 0 0, err] : Array Value)[i]? := fun i => World.cell?_alloc_at _ _ _ _ s2.symm
  refine ⟨below3 _ _ _ _, ?_, ?_, ?_, ?_, ?_, ?_, ?_, fun i => World.frozen?_alloc_at _ _ _ _ s2.symm⟩
  · rw [key]; rfl
  · rw [key]; rfl
  · rw [key]; rfl
  · rw [key]; rfl
  · rw [key]; rfl
  · intro i hi
    rw [World.cell?_alloc_past _ _ _ (by simp; omega), World.cell?_alloc_past _ _ _ (by simp), World.cell?_alloc_at _ _ _ _ rfl]
    exact hrow i hi
  · intro i
    rw [World.frozen?_alloc_past _ _ _ (by simp; omega), World.frozen?_alloc_past _ _ _ (by simp), World.frozen?_alloc_at _ _ _ _ rfl]

theorem After.size {w w1 : World} {L h n : Nat} {it : Bool} {err : Value} {f : Nat → Int} (a : After w w1 L h n it err f) : w.heap.size + 1 + 1 < w1.heap.size := by
  have := World.block_lt_of_cell? _ _ a.c2
  exact this

theorem After.alloc {w w1 : World} {L h n : Nat} {it : Bool} {err : Value} {f : Nat → Int} (a : After w w1 L h n it err f) (o : Obj) : After w (w1.alloc o) L h n it err f := by
  have s := a.size
  refine ⟨a.below.alloc (by omega) o, ?_, ?_, ?_, ?_, ?_, ?_, ?_, ?_⟩
  · rw [World.cell?_alloc_past _ _ _ s]; exact a.c1
  · rw [World.cell?_alloc_past _ _ _ s]; exact a.c2
  · rw [World.cell?_alloc_past _ _ _ s]; exact a.c14
  · rw [World.cell?_alloc_past _ _ _ s]; exact a.c15
  · rw [World.cell?_alloc_past _ _ _ s]; exact a.c18
  · intro i hi; rw [World.cell?_alloc_past _ _ _ (by omega)]; exact a.row i hi
  · intro i; rw [World.frozen?_alloc_past _ _ _ (by omega)]; exact a.fr i
  · intro i; rw [World.frozen?_alloc_past _ _ _ s]; exact a.fr2 i
theorem After.drewN {w w1 : World} {L h n : Nat} {it : Bool} {err : Value} {f : Nat → Int} (a : After w w1 L h n it err f) (k : Nat) : After w (w1.drewN k) L h n it err f :=
  ⟨below_drewN a.below k, a.c1, a.c2, a.c14, a.c15, a.c18, a.row, a.fr, a.fr2⟩

theorem ne_addr {b b' i j : Nat} (h : b ≠ b' ∨ i ≠ j) : (⟨b, i, none⟩ : Addr) ≠ ⟨b', j, none⟩ := by
  intro e; simp only [Addr.mk.injEq] at e; omega

theorem After.setErr {w w1 : World} {L h n : Nat} {it : Bool} {err : Value} {f : Nat → Int} (a : After w w1 L h n it err f) (v : Value) : After w (w1.setCell ⟨w.heap.size + 1 + 1, 18, none⟩ v) L h n it v f := by
  refine ⟨a.below.setCell (by show w.heap.size ≤ w.heap.size + 1 + 1; omega) v, ?_, ?_, ?_, ?_, World.cell?_setCell_same _ _ _ a.c18, ?_, ?_, ?_⟩
  · rw [World.cell?_setCell_other _ _ _ _ (ne_addr (by omega))]; exact a.c1
  · rw [World.cell?_setCell_other _ _ _ _ (ne_addr (by omega))]; exact a.c2
  · rw [World.cell?_setCell_other _ _ _ _ (ne_addr (by omega))]; exact a.c14
  · rw [World.cell?_setCell_other _ _ _ _ (ne_addr (by omega))]; exact a.c15
  · intro i hi; rw [World.cell?_setCell_other _ _ _ _ (ne_addr (by omega))]; exact a.row i hi
  · intro i; rw [World.frozen?_setCell]; exact a.fr i
  · intro i; rw [World.frozen?_setCell]; exact a.fr2 i

theorem After.setRow {w w1 : World} {L h n : Nat} {it : Bool} {err : Value} {f : Nat → Int} (a : After w w1 L h n it err f) (slot : Nat) (hs : slot < n) (v : Int) : After w (w1.setCell ⟨w.heap.size, slot, none⟩ (.int .u32 v)) L h n it err (fun i => if i = slot then v else f i) := by
  refine ⟨a.below.setCell (Nat.le_refl _) _, ?_, ?_, ?_, ?_, ?_, ?_, ?_, ?_⟩
  · rw [World.cell?_setCell_other _ _ _ _ (ne_addr (by omega))]; exact a.c1
  · rw [World.cell?_setCell_other _ _ _ _ (ne_addr (by omega))]; exact a.c2
  · rw [World.cell?_setCell_other _ _ _ _ (ne_addr (by omega))]; exact a.c14
  · rw [World.cell?_setCell_other _ _ _ _ (ne_addr (by omega))]; exact a.c15
  · rw [World.cell?_setCell_other _ _ _ _ (ne_addr (by omega))]; exact a.c18
  · intro i hi
    by_cases e : i = slot
    · subst e; rw [World.cell?_setCell_same _ _ _ (a.row i hi)]; simp
    · rw [World.cell?_setCell_other _ _ _ _ (ne_addr (by omega)), a.row i hi]; simp [e]
  · intro i; rw [World.frozen?_setCell]; exact a.fr i
  · intro i; rw [World.frozen?_setCell]; exact a.fr2 i

theorem set_ok {w W : World} {L h n : Nat} {err : Value} {f : Nat → Int} (a : After w W L h n true err f) (hL : L ≤ 1024) (hh : h ≤ L) (hn : n ≤ 1024) (slot : Nat) (hs : slot < n) :
    Calls Yba.prog 6 #[.pointer (some ⟨w.heap.size + 1 + 1, 0, none⟩), .int .i64 slot] W fun e w1 => e = .returned (.tuple #[]) ∧ After w w1 L h n true err (fun i => if i = slot then (L : Int) - h else f i) := by
  refine (setField_ok (w.heap.size + 1 + 1) w.heap.size L h n slot _ _ _ _ W (by omega) hh (by omega) hs a.c1 a.c2 a.c14 a.c15 (a.row slot hs) (a.fr slot)).mono ?_
  rintro e w1 ⟨rfl, k, rfl⟩
  exact ⟨rfl, (a.setRow slot hs _).drewN k⟩

theorem set_bad {w W : World} {L h n : Nat} {it : Bool} {f : Nat → Int} (a : After w W L h n it .nilIface f) (hn : n ≤ 1024) (slot : Int) (ws : -9223372036854775808 ≤ slot ∧ slot ≤ 9223372036854775807) (hbad : it = true → slot < 0 ∨ (n : Int) ≤ slot) :
    Calls Yba.prog 6 #[.pointer (some ⟨w.heap.size + 1 + 1, 0, none⟩), .int .i64 slot] W fun e w1 => e = .returned (.tuple #[]) ∧ After w w1 L h n it (.iface 27 (.pointer (some ⟨W.heap.size, 0, none⟩))) f ∧ w1.cell? ⟨W.heap.size, 0, none⟩ = some (.int .i64 slot) := by
  refine (setField_bad (w.heap.size + 1 + 1) n slot it _ _ W (by omega) ws hbad a.size a.c14 a.c15 a.c18 (a.fr2 18)).mono ?_
  rintro e w1 ⟨rfl, rfl⟩
  exact ⟨rfl, (a.setErr _).alloc _, by rw [World.cell?_alloc_at _ _ _ _ (by simp)]; rfl⟩

theorem set_kept {w W : World} {L h n : Nat} {it : Bool} {t : TypeId} {x : Value} {f : Nat → Int} (a : After w W L h n it (.iface t x) f) (hn : n ≤ 1024) (slot : Int) (ws : -9223372036854775808 ≤ slot ∧ slot ≤ 9223372036854775807) (hbad : it = true → slot < 0 ∨ (n : Int) ≤ slot) :
    Calls Yba.prog 6 #[.pointer (some ⟨w.heap.size + 1 + 1, 0, none⟩), .int .i64 slot] W fun e w1 => e = .returned (.tuple #[]) ∧ After w w1 L h n it (.iface t x) f := by
  refine (setField_kept (w.heap.size + 1 + 1) n slot it _ _ W (by omega) ws hbad a.size a.c14 a.c15 t x a.c18).mono ?_
  rintro e w1 ⟨rfl, rfl⟩
  exact ⟨rfl, a.alloc _⟩

end Go.Proofs.Ybulkeoy
