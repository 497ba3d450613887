/- The count's invariant over the two maps, and its two steps. -/
import Derived.Test.YbulkercMaps
namespace Go.Proofs.Ybulkerc
open Go.ChangeMaps (setBlock)
open Go.MapKept
open Go.RowKit

/-- How often s stands among the first k names. -/
def cnt (ss : List ByteArray) (s : ByteArray) : Nat → Nat
  | 0 => 0
  | k + 1 => cnt ss s k + (if ss.getD k ByteArray.empty == s then 1 else 0)

theorem cnt_le (ss : List ByteArray) (s : ByteArray) : ∀ k, cnt ss s k ≤ k
  | 0 => Nat.le_refl _
  | k + 1 => by have := cnt_le ss s k; simp only [cnt]; split <;> omega

theorem cnt_hit (ss : List ByteArray) (s : ByteArray) (k : Nat) (h : ss.getD k ByteArray.empty = s) : cnt ss s (k + 1) = cnt ss s k + 1 := by
  simp only [cnt]; rw [if_pos ((bytes_beq _ _).2 h)]
theorem cnt_miss (ss : List ByteArray) (s : ByteArray) (k : Nat) (h : ss.getD k ByteArray.empty ≠ s) : cnt ss s (k + 1) = cnt ss s k := by
  simp only [cnt]; rw [if_neg (fun e => h ((bytes_beq _ _).1 e))]; rfl

def Keys (w : World) (ie : Array MapEntry) : Prop := ∀ x ∈ ie.toList, ∃ b c, x.key = .pointer (some ⟨b, 0, none⟩) ∧ w.heap[b]? = some (Obj.cells c 74 (0, 0))

structure Inv (ss : List ByteArray) (W : World) (srv : Array Value) (k : Nat) (w : World) (R : ByteArray → Option Nat) : Prop where
  below : Below W.heap.size W w
  server : w.heap[W.heap.size + 1]? = some (Obj.cells srv 59 (0, 0))
  map : ∃ es clk, Outer es R ∧ w.heap[W.heap.size]? = some (.map es clk)
  bare : ∀ s, R s = none → cnt ss s k = 0
  inner : ∀ s r, R s = some r → W.heap.size + 1 < r ∧ ∃ ie ic, w.heap[r]? = some (.map ie ic) ∧ ie.size = cnt ss s k ∧ Keys w ie

theorem lt_of_some {w : World} {r : Nat} {o : Obj} (h : w.heap[r]? = some o) : r < w.heap.size := (Array.getElem?_eq_some_iff.1 h).1

theorem size_setBlock (w : World) (b : Nat) (o : Obj) : (setBlock w b o).heap.size = w.heap.size := by simp [setBlock]

theorem below_setBlock {B : Nat} {a w : World} {b : Nat} {o : Obj} (h : Below B a w) (hB : B ≤ b) : Below B a (setBlock w b o) :=
  ⟨h.os, h.tape, h.output, by rw [size_setBlock]; exact h.size, fun k hk => by
    rw [← h.block k hk]
    simp [setBlock, show b ≠ k by omega]⟩

theorem set_same {w : World} {b : Nat} {o o' : Obj} (h : w.heap[b]? = some o) : (setBlock w b o').heap[b]? = some o' := (heap_set h).1
theorem set_other {w : World} {b i : Nat} {o' : Obj} (h : i ≠ b) : (setBlock w b o').heap[i]? = w.heap[i]? := by
  simp [setBlock, Ne.symm h]
theorem alloc_old {w : World} {o o' : Obj} {i : Nat} (h : w.heap[i]? = some o') : (w.alloc o).heap[i]? = some o' := by
  rw [(heap_alloc w o).2 i (lt_of_some h)]; exact h

theorem Keys.keep {w w' : World} {ie : Array MapEntry} (h : Keys w ie) (k : ∀ (b : Nat) (c : Array Value), w.heap[b]? = some (Obj.cells c 74 (0, 0)) → w'.heap[b]? = some (Obj.cells c 74 (0, 0))) : Keys w' ie := fun x hx => by
  obtain ⟨b, c, h1, h2⟩ := h x hx
  exact ⟨b, c, h1, k b c h2⟩

/-- A NEW ROOM: the name led nowhere; an empty inner map is laid and entered. -/
theorem step_miss {ss : List ByteArray} {W : World} {srv : Array Value} {k : Nat} {w : World} {R : ByteArray → Option Nat} (I : Inv ss W srv k w R) (s : ByteArray) (hs : R s = none) :
    ∃ w2 R', (Instr.mapUpdate 25 (.map (some W.heap.size)) (.string s) (.map (some w.heap.size))).run Yba.prog (w.alloc (.map #[] 0)) = .ok () w2 ∧ R' s = some w.heap.size ∧ Inv ss W srv k w2 R' := by
  obtain ⟨es, clk, O, hm⟩ := I.map
  have hm1 := alloc_old (o := .map #[] 0) hm
  refine ⟨_, fun t => if t == s then some w.heap.size else R t, update_outer hm1 O s hs _, by simp [(bytes_beq s s).2 rfl], ?_⟩
  have hsz := I.below.size
  have hlt := lt_of_some I.server
  have hone : ∀ t, t ≠ s → (if t == s then some w.heap.size else R t) = R t := fun t ht => if_neg (fun e => ht ((bytes_beq _ _).1 e))
  have hself : (if s == s then some w.heap.size else R s) = some w.heap.size := if_pos ((bytes_beq s s).2 rfl)
  have hRlt : ∀ t r, R t = some r → r < w.heap.size := fun t r ht => by
    obtain ⟨_, ie, ic, h2, _⟩ := I.inner t r ht
    exact lt_of_some h2
  have hcells : ∀ (b : Nat) (c : Array Value), w.heap[b]? = some (Obj.cells c 74 (0, 0)) → (setBlock (w.alloc (.map #[] 0)) W.heap.size (.map (es.push ⟨.string s, .map (some w.heap.size), clk⟩) (clk + 1))).heap[b]? = some (Obj.cells c 74 (0, 0)) := fun b c hb => by
    have hne : b ≠ W.heap.size := fun e => by rw [e, hm] at hb; cases hb
    rw [set_other hne]
    exact alloc_old hb
  refine ⟨below_setBlock (I.below.alloc (by omega) _) (Nat.le_refl _), ?_, ⟨_, _, ⟨?_, ?_, ?_⟩, set_same hm1⟩, ?_, ?_⟩
  · rw [set_other (by omega)]; exact alloc_old I.server
  · intro x hx
    simp only [Array.toList_push, List.mem_append, List.mem_singleton] at hx
    rcases hx with hx | rfl
    · obtain ⟨t, r, h1, h2, h3⟩ := O.keys x hx
      have hts : t ≠ s := fun e => by rw [e, hs] at h3; cases h3
      exact ⟨t, r, h1, h2, (hone t hts).trans h3⟩
    · exact ⟨s, w.heap.size, rfl, rfl, hself⟩
  · intro t r ht
    by_cases hts : t = s
    · subst hts
      exact ⟨⟨.string t, .map (some w.heap.size), clk⟩, by simp, rfl⟩
    · simp only [hone t hts] at ht
      obtain ⟨x, hx, h1⟩ := O.total t r ht
      exact ⟨x, by simp [hx], h1⟩
  · intro t t' r h1 h2
    by_cases e1 : t = s <;> by_cases e2 : t' = s
    · rw [e1, e2]
    · subst e1
      simp only [hself] at h1
      simp only [hone t' e2] at h2
      have := hRlt t' r h2
      injection h1 with h1
      omega
    · subst e2
      simp only [hself] at h2
      simp only [hone t e1] at h1
      have := hRlt t r h1
      injection h2 with h2
      omega
    · simp only [hone t e1] at h1
      simp only [hone t' e2] at h2
      exact O.inj t t' r h1 h2
  · intro t ht
    by_cases hts : t = s
    · subst hts
      simp only [hself] at ht
      cases ht
    · simp only [hone t hts] at ht
      exact I.bare t ht
  · intro t r ht
    by_cases hts : t = s
    · subst hts
      simp only [hself] at ht
      injection ht with ht
      subst ht
      refine ⟨by omega, #[], 0, ?_, ?_, fun x hx => by simp at hx⟩
      · rw [set_other (by omega)]; exact (heap_alloc w _).1
      · simp [I.bare t hs]
    · simp only [hone t hts] at ht
      obtain ⟨h1, ie, ic, h2, h3, h4⟩ := I.inner t r ht
      refine ⟨h1, ie, ic, ?_, h3, Keys.keep h4 hcells⟩
      rw [set_other (by omega)]
      exact alloc_old h2

/-- ONE MORE IN THE ROOM: the inner map takes a new pointer. -/
theorem step_hit {ss : List ByteArray} {W : World} {srv : Array Value} {k : Nat} {w : World} {R : ByteArray → Option Nat} (I : Inv ss W srv k w R) (r : Nat) (c : Array Value) (v : Value) (hs : R (ss.getD k ByteArray.empty) = some r) :
    ∃ w2, (Instr.mapUpdate 60 (.map (some r)) (.pointer (some ⟨w.heap.size, 0, none⟩)) v).run Yba.prog (w.alloc (.cells c 74)) = .ok () w2 ∧ Inv ss W srv (k + 1) w2 R := by
  obtain ⟨es, clk, O, hm⟩ := I.map
  obtain ⟨h1, ie, ic, h2, h3, h4⟩ := I.inner _ r hs
  have hsz := I.below.size
  have hnew := (heap_alloc w (.cells c 74)).1
  have hr1 := alloc_old (o := .cells c 74) h2
  have hrlt := lt_of_some h2
  refine ⟨_, update_inner (w.alloc (.cells c 74)) r w.heap.size c ie ic v hr1 hnew ?_, ?_⟩
  · intro x hx
    obtain ⟨b, c', e1, e2⟩ := h4 x hx
    exact ⟨b, c', e1, Nat.ne_of_lt (lt_of_some e2), alloc_old e2⟩
  have hcells : ∀ (b : Nat) (c' : Array Value), (w.alloc (.cells c 74)).heap[b]? = some (Obj.cells c' 74 (0, 0)) → (setBlock (w.alloc (.cells c 74)) r (.map (ie.push ⟨.pointer (some ⟨w.heap.size, 0, none⟩), v, ic⟩) (ic + 1))).heap[b]? = some (Obj.cells c' 74 (0, 0)) := fun b c' hb => by
    have hne : b ≠ r := fun e => by rw [e, hr1] at hb; cases hb
    rw [set_other hne]
    exact hb
  refine ⟨below_setBlock (I.below.alloc (by omega) _) (by omega), ?_, ⟨es, clk, O, ?_⟩, ?_, ?_⟩
  · rw [set_other (by omega)]; exact alloc_old I.server
  · rw [set_other (by omega)]; exact alloc_old hm
  · intro t ht
    have hne : ss.getD k ByteArray.empty ≠ t := fun e => by rw [e, ht] at hs; cases hs
    rw [cnt_miss ss t k hne]
    exact I.bare t ht
  · intro t r' ht
    by_cases hts : ss.getD k ByteArray.empty = t
    · subst hts
      rw [hs] at ht
      injection ht with ht
      subst ht
      refine ⟨h1, _, _, set_same hr1, by rw [cnt_hit ss _ k rfl, Array.size_push, h3], ?_⟩
      intro x hx
      simp only [Array.toList_push, List.mem_append, List.mem_singleton] at hx
      rcases hx with hx | rfl
      · obtain ⟨b, c', e1, e2⟩ := h4 x hx
        exact ⟨b, c', e1, hcells b c' (alloc_old e2)⟩
      · exact ⟨_, c, rfl, hcells _ c hnew⟩
    · have hne : r' ≠ r := fun e => hts (O.inj _ _ r hs (e ▸ ht))
      obtain ⟨g1, ie', ic', g2, g3, g4⟩ := I.inner t r' ht
      refine ⟨g1, ie', ic', ?_, by rw [cnt_miss ss t k hts]; exact g3, Keys.keep g4 (fun b c' hb => hcells b c' (alloc_old hb))⟩
      rw [set_other hne]
      exact alloc_old g2

end Go.Proofs.Ybulkerc
