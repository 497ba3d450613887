/- The two maps of LawS0275BCount: map[string]map[*Conn]struct{}: lookups and updates as run equations, and the count's invariant. -/
import Derived.Test.YbulkercLocks
import Derived.ChangeMaps5
import Derived.MapKept
import Derived.LaidEqlPtr
import Derived.Below
import Derived.Carry
namespace Go.Proofs.Ybulkerc
open Go.ChangeMaps (setBlock)
open Go.MapKept

theorem findAsking_none (w : World) (b : Nat) (c : Array Value) (hb : w.heap[b]? = some (.cells c 74 (0, 0))) : ∀ (l : List MapEntry) (i : Nat),
    (∀ x ∈ l, ∃ b' c', x.key = .pointer (some ⟨b', 0, none⟩) ∧ b' ≠ b ∧ w.heap[b']? = some (.cells c' 74 (0, 0))) →
    (Instr.findAsking 61 (.pointer (some ⟨b, 0, none⟩)) l i).run Yba.prog w = .ok none w
  | [], _, _ => by simp [Instr.findAsking]
  | e :: es, i, h => by
    obtain ⟨b', c', h1, h2, h3⟩ := h e (.head _)
    have he : (Op.equal 61 (.pointer (some ⟨b, 0, none⟩)) e.key).run Yba.prog w = .ok false w := by
      rw [h1]
      have hne : (⟨b, 0, none⟩ : Addr) ≠ ⟨b', 0, none⟩ := fun e => h2 (by injection e with e; exact e.symm)
      have h : ∀ d : Nat, (Op.equalIn (d + 1) 61 (.pointer (some ⟨b, 0, none⟩)) (.pointer (some ⟨b', 0, none⟩))).run Yba.prog w = .ok false w := fun d => by
        simp [Op.equalIn, run_underlying Yba.underlying61, Yba.sizeOf74, run_sameAddr_other (P := Yba.prog) w hne hb h3]
      simp [Op.equal, Op.maxDepth, h 9999]
    simp [Instr.findAsking, he, findAsking_none w b c hb es (i + 1) (fun x hx => h x (.tail _ hx))]

theorem findNow_ptr (k : Value) (l : List MapEntry) : Instr.findNow (.pointer 74) k l 0 = some none ∧ l = [] ∨ Instr.findNow (.pointer 74) k l 0 = none := by
  cases l with
  | nil => exact .inl ⟨rfl, rfl⟩
  | cons e es => right; simp [Instr.findNow, Instr.sameNow]

theorem update_inner (w : World) (r b : Nat) (c : Array Value) (ie : Array MapEntry) (ic : Nat) (v : Value) (hr : w.heap[r]? = some (.map ie ic)) (hb : w.heap[b]? = some (.cells c 74 (0, 0)))
    (h : ∀ x ∈ ie.toList, ∃ b' c', x.key = .pointer (some ⟨b', 0, none⟩) ∧ b' ≠ b ∧ w.heap[b']? = some (.cells c' 74 (0, 0))) :
    (Instr.mapUpdate 60 (.map (some r)) (.pointer (some ⟨b, 0, none⟩)) v).run Yba.prog w = .ok () (setBlock w r (.map (ie.push ⟨.pointer (some ⟨b, 0, none⟩), v, ic⟩) (ic + 1))) := by
  have hc : (Instr.checkKey false 10000 61 (.pointer (some ⟨b, 0, none⟩))).run Yba.prog w = .ok () w := by
    have h : ∀ n, (Instr.checkKey false (n + 1) 61 (.pointer (some ⟨b, 0, none⟩))).run Yba.prog w = .ok () w := fun n => by
      simp [Instr.checkKey, run_underlying Yba.underlying61]
    exact h 9999
  have hf : (Instr.findKey 61 (.pointer (some ⟨b, 0, none⟩)) ie.toList).run Yba.prog w = .ok none w := by
    rcases findNow_ptr (.pointer (some ⟨b, 0, none⟩)) ie.toList with ⟨h1, _⟩ | h1
    · exact run_findKey Yba.underlying61 h1
    · simp [Instr.findKey, run_underlying Yba.underlying61, Result.andThen, h1, findAsking_none w b c hb ie.toList 0 h]
  simp [Instr.mapUpdate, run_underlying Yba.underlying60, MapKept.run_getObj_map hr, hc, hf, MapKept.run_setObj_map _ hr, Result.andThen, setBlock]

/-- Which inner map a name leads to. -/
structure Outer (es : Array MapEntry) (R : ByteArray → Option Nat) : Prop where
  keys : ∀ x ∈ es.toList, ∃ s r, x.key = .string s ∧ x.val = .map (some r) ∧ R s = some r
  total : ∀ s r, R s = some r → ∃ x ∈ es.toList, x.key = .string s
  inj : ∀ s s' r, R s = some r → R s' = some r → s = s'

theorem Outer.isKey {es : Array MapEntry} {R : ByteArray → Option Nat} (O : Outer es R) : ∀ x ∈ es.toList, IsKey .string x.key := fun x hx => by
  obtain ⟨s, r, h, _⟩ := O.keys x hx
  rw [h]; trivial

theorem lookup_outer {w : World} {M : Nat} {es : Array MapEntry} {clk : Nat} {R : ByteArray → Option Nat} (hb : w.heap[M]? = some (.map es clk)) (O : Outer es R) (s : ByteArray) :
    (Instr.lookup 25 (.map (some M)) (.string s) false).run Yba.prog w = .ok (.map (R s)) w := by
  have hkey : IsKey .string (.string s) := trivial
  have hc := fun em => run_checkKey (P := Yba.prog) (w := w) (kt := 9) Yba.underlying9 hkey em 9999
  rcases findNow_spec hkey es.toList 0 O.isKey with ⟨h1, h2⟩ | ⟨j, e0, h1, h2, h3⟩
  · have hR : R s = none := by
      cases hs : R s with
      | none => rfl
      | some r =>
        obtain ⟨x, hx, hk⟩ := O.total s r hs
        exact absurd hk (h2 x hx)
    rw [hR]
    simp [Instr.lookup, run_underlying Yba.underlying25, MapKept.run_getObj_map hb, hc, run_findKey Yba.underlying9 h1, Yba.zeroValue60, Result.andThen]
  · obtain ⟨s', r, k1, k2, k3⟩ := O.keys e0 (List.mem_of_getElem? h2)
    have e : s' = s := by rw [k1] at h3; injection h3
    subst e
    rw [k3]
    simp [Instr.lookup, run_underlying Yba.underlying25, MapKept.run_getObj_map hb, hc, run_findKey Yba.underlying9 h1, Result.andThen, k2]

theorem update_outer {w : World} {M : Nat} {es : Array MapEntry} {clk : Nat} {R : ByteArray → Option Nat} (hb : w.heap[M]? = some (.map es clk)) (O : Outer es R) (s : ByteArray) (hs : R s = none) (v : Value) :
    (Instr.mapUpdate 25 (.map (some M)) (.string s) v).run Yba.prog w = .ok () (setBlock w M (.map (es.push ⟨.string s, v, clk⟩) (clk + 1))) := by
  have hkey : IsKey .string (.string s) := trivial
  have hc := fun em => run_checkKey (P := Yba.prog) (w := w) (kt := 9) Yba.underlying9 hkey em 9999
  rcases findNow_spec hkey es.toList 0 O.isKey with ⟨h1, h2⟩ | ⟨j, e0, h1, h2, h3⟩
  · simp [Instr.mapUpdate, run_underlying Yba.underlying25, MapKept.run_getObj_map hb, hc, run_findKey Yba.underlying9 h1, MapKept.run_setObj_map _ hb, Result.andThen, setBlock]
  · obtain ⟨s', r, k1, k2, k3⟩ := O.keys e0 (List.mem_of_getElem? h2)
    have e : s' = s := by rw [k1] at h3; injection h3
    subst e
    rw [hs] at k3
    cases k3

end Go.Proofs.Ybulkerc
