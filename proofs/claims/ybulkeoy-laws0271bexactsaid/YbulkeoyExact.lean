import Derived.Test.YbulkeoyName2
import Derived.Deep.OwnRows
import Derived.Laws.CopyOwn
import Derived.OpenShut
namespace Go.Proofs.Ybulkeoy.lawS0271BExact
open Go.RowKit

theorem info5 : (Yba.prog.info? 5).map (fun i => (i.zero, i.size, i.bytes)) = some (some (.int .u8 0), 1, 1) := by kernel_rfl
theorem size5 : (Yba.prog.info? 5).map (·.size) = some 1 := by kernel_rfl

theorem setRow_new (w : World) (c c' : Array Value) (t : TypeId) : (w.alloc (.cells c t)).setRow w.heap.size c' = w.alloc (.cells c' t) := by
  unfold World.setRow World.alloc
  congr 1
  apply Array.ext_getElem?
  intro k
  simp only [Array.getElem?_modify, Array.getElem?_push]
  by_cases e : w.heap.size = k
  · subst e; simp
  · have e' : ¬ k = w.heap.size := fun h => e h.symm
    simp [e, e']

theorem copied (w : World) (n cap b off : Nat) (Z : List Int) (hZ : Z.length = n) (hb : b < w.heap.size) (row : ∀ j, j < n → w.cell? ⟨b, off + j, none⟩ = some (.int .u8 (Z.getD j 0))) (ty : TypeId) :
    (Builtin.copy_ #[29, 29] ty #[.slice (some ⟨w.heap.size, 0, none⟩) n n, .slice (some ⟨b, off, none⟩) n cap]).run Yba.prog (w.alloc (.cells (madeCells #[.int .u8 0] n) 5)) = .ok (.int .i64 n) (w.alloc (.cells (Z.map (Value.int .u8)).toArray 5)) := by
  have h := run_copy_row (P := Yba.prog) (w.alloc (.cells (madeCells #[.int .u8 0] n) 5)) 29 29 ty 5 w.heap.size 0 n n ⟨b, off, none⟩ n cap (madeCells #[.int .u8 0] n) 5 (Z.map (Value.int .u8)) Yba.underlying29 size5
    (heap_alloc_new _ _) (by simp [hZ]) (fun j v hj => by
      have hjn : j < n := by
        rcases Nat.lt_or_ge j n with h | h
        · exact h
        · rw [List.getElem?_eq_none (by simp; omega)] at hj; cases hj
      rw [show (⟨b, off, none⟩ : Addr).add j = ⟨b, off + j, none⟩ from Go.WideShapes.add_plain _ _ _, World.cell?_alloc_past _ _ _ hb, row j hjn]
      simp [List.getElem?_eq_getElem (show j < Z.length by omega)] at hj
      subst hj
      simp [List.getD, List.getElem?_eq_getElem (show j < Z.length by omega)]) (by simp [hZ, size_madeCells]) (by intro v hv; simp at hv; obtain ⟨x, _, rfl⟩ := hv; rfl)
  rw [h, setRow_new]
  have e : (madeCells #[Value.int .u8 0] n).toList.drop (0 + (Z.map (Value.int .u8)).length) = [] := List.drop_of_length_le (by simp [size_madeCells, hZ])
  rw [e]
  simp [goInt, hZ]

/-- What holds of the world behind 'name'. -/
theorem behind (w : World) (n i q b off k : Nat) (Z : List Int) (file : ByteArray) (depth : Int) (hZ : Z.length = n) (hb : b < w.heap.size)
    (row : ∀ j, j < n → w.cell? ⟨b, off + j, none⟩ = some (.int .u8 (Z.getD j 0))) :
    ∃ w1, w1 = ((((w.alloc (.cells (Z.map (Value.int .u8)).toArray 5)).alloc (.cells #[.string file, .slice (some ⟨w.heap.size, 0, none⟩) n n, .int .i64 i, .int .i64 depth] 47)).setCell ⟨w.heap.size + 1, 2, none⟩ (.int .i64 q)).drewN k) ∧
      Below w.heap.size w w1 ∧ w1.cell? ⟨w.heap.size + 1, 0, none⟩ = some (.string file) ∧ w1.cell? ⟨w.heap.size + 1, 2, none⟩ = some (.int .i64 q) ∧ w1.cell? ⟨w.heap.size + 1, 3, none⟩ = some (.int .i64 depth) ∧
      (∀ j, j < n → w1.cell? ⟨w.heap.size, j, none⟩ = some (.int .u8 (Z.getD j 0))) ∧ (∀ j, j < n → w1.cell? ⟨b, off + j, none⟩ = some (.int .u8 (Z.getD j 0))) := by
  have s2 : (w.alloc (.cells (Z.map (Value.int .u8)).toArray 5)).heap.size = w.heap.size + 1 := by simp
  refine ⟨_, rfl, ?_, ?_, ?_, ?_, ?_, ?_⟩
  · exact below_drewN ((((Below.refl _ w).alloc (Nat.le_refl _) _).alloc (by simp) _).setCell (by show w.heap.size ≤ w.heap.size + 1; omega) _) k
  · rw [World.cell?_drewN, World.setCell_alloc_at _ _ _ _ _ s2.symm, World.cell?_alloc_at _ _ _ _ s2.symm]; rfl
  · rw [World.cell?_drewN, World.setCell_alloc_at _ _ _ _ _ s2.symm, World.cell?_alloc_at _ _ _ _ s2.symm]; rfl
  · rw [World.cell?_drewN, World.setCell_alloc_at _ _ _ _ _ s2.symm, World.cell?_alloc_at _ _ _ _ s2.symm]; rfl
  · intro j hj
    rw [World.cell?_drewN, World.setCell_alloc_at _ _ _ _ _ s2.symm, World.cell?_alloc_past _ _ _ (by omega), World.cell?_alloc_at _ _ _ _ rfl]
    simp [List.getD, List.getElem?_eq_getElem (show j < Z.length by omega)]
  · intro j hj
    rw [World.cell?_drewN, World.setCell_alloc_at _ _ _ _ _ s2.symm, World.cell?_alloc_past _ _ _ (by omega), World.cell?_alloc_past _ _ _ hb]
    exact row j hj

set_option maxRecDepth 100000 in
set_option maxHeartbeats 1000000 in
theorem core (b off n cap : Nat) (Z : List Int) (a1 : Int) (a2 : ByteArray) (a3 : Int) (w : World) (hZ : Z.length = n) (hn : n ≤ 1024) (hn0 : 0 < n) (hcap : n ≤ cap) (_hcm : cap ≤ 9223372036854775807) (hb : b < w.heap.size) (b1 : 0 ≤ a1 ∧ a1 ≤ 18446744073709551615)
    (row : ∀ j, j < n → w.cell? ⟨b, off + j, none⟩ = some (.int .u8 (Z.getD j 0))) :
    Calls Yba.prog 4 #[.slice (some ⟨b, off, none⟩) n cap, .int .u64 a1, .string a2, .int .i64 a3] w fun e w' => e = .returned (.bool true) ∧ Below w.heap.size w w' := by
  obtain ⟨i, hi, hi'⟩ : ∃ i : Nat, i < n ∧ Hid (wrap64 (a1 % (n : Int)) = (i : Int)) := by
    have h1 : 0 ≤ a1 % (n : Int) := Int.emod_nonneg _ (by omega)
    have h2 : a1 % (n : Int) < (n : Int) := Int.emod_lt_of_pos _ (by omega)
    refine ⟨(a1 % (n : Int)).toNat, by omega, ?_⟩
    simp only [Hid]
    unfold wrap64
    omega
  have hmk : ∀ w : World, (Instr.makeSlice 29 (.int .i64 (n : Int)) (.int .i64 (n : Int))).run Yba.prog w = .ok (.slice (some ⟨w.heap.size, 0, none⟩) n n) (w.alloc (.cells (madeCells #[.int .u8 0] n) 5)) := fun w =>
    run_make_row' (P := Yba.prog) 29 5 (.int .u8 0) 1 Yba.underlying29 info5 rfl .i64 .i64 n (by omega) (by omega) w
  have hcp := copied w n cap b off Z hZ hb row
  have h0 : ((n : Int) == 0) = false := by rw [beq_eq_false_iff_ne]; omega
  have h00 : decide (1024 < (n : Int)) = false := by simp; omega
  have s2 : (w.alloc (.cells (Z.map (Value.int .u8)).toArray 5)).heap.size = w.heap.size + 1 := by simp
  have nm := name_calls (w.heap.size + 1) w.heap.size n n i Z hZ (by omega) (by omega) hi ((w.alloc (.cells (Z.map (Value.int .u8)).toArray 5)).alloc (.cells #[.string a2, .slice (some ⟨w.heap.size, 0, none⟩) n n, .int .i64 i, .int .i64 a3] 47)) (by omega)
    (by rw [World.cell?_alloc_at _ _ _ _ s2.symm]; rfl) (by rw [World.cell?_alloc_at _ _ _ _ s2.symm]; rfl) (World.frozen?_alloc_at _ _ _ _ s2.symm)
    (fun j hj => by
      rw [World.cell?_alloc_past _ _ _ (by omega), World.cell?_alloc_at _ _ _ _ rfl]
      simp [List.getD, List.getElem?_eq_getElem (show j < Z.length by omega)])
  have NM : Hid _ := nm
  have RO : Hid _ := row
  clear nm row s2
  generalize hzz : (Z.map (Value.int .u8)).toArray = zz at *
  have HZZ : Hid _ := hzz
  clear hzz
  go_enter Yba.func4, Yba.ntmps4
  go_wp2_with fail
  rw [hi'.out]
  refine Calls.mono NM.out ?_
  clear NM hmk hcp
  rintro e w1' ⟨rfl, k, hw1⟩
  obtain ⟨w1, e1, hbl, c0, c2, c3, rown, rowb⟩ := behind w n i (i + 1 + runOf (Z.drop (i + 1))) b off k Z a2 a3 hZ hb RO.out
  rw [HZZ.out] at e1
  rw [← e1] at hw1
  subst hw1
  clear e1
  have hq := run_ub Z (i + 1) (by omega)
  obtain ⟨q, eq⟩ : ∃ q, q = i + 1 + runOf (Z.drop (i + 1)) := ⟨_, rfl⟩
  have hcv : (convert 29 9 (.slice (some ⟨b, off + i, none⟩) (q - i) (cap - i))).run Yba.prog w1' = .ok (.string (strOfNums ((Z.drop i).take (runOf (Z.drop (i + 1)) + 1)))) w1' := by
    rw [show q - i = runOf (Z.drop (i + 1)) + 1 by omega]
    exact run_convert_bytes_arg w1' 29 5 Yba.underlying29 Yba.underlying5 b (off + i) _ _ ((Z.drop i).take (runOf (Z.drop (i + 1)) + 1)) (by simp; omega) (fun q hq => by
        rw [Nat.add_assoc, rowb (i + q) (by omega)]
        simp [List.getD, hq]) 9 Yba.underlying9
  generalize strOfNums ((Z.drop i).take (runOf (Z.drop (i + 1)) + 1)) = str at *
  have hqn : q ≤ n := by omega
  have hqi : i < q := by omega
  rw [← eq] at c2
  have EQ : Hid _ := eq
  have HB : Hid _ := hbl
  have RN : Hid _ := rown
  clear hbl rown rowb eq hq
  go_wp2
  go_loop [13] (fun v => ∃ e : Nat, i < e ∧ e ≤ n ∧ v = .int .i64 e ∧ Hid (q = e + runOf (Z.drop e))) (fun v => n - (intOf v).toNat)
  case atStart => exact ⟨i + 1, by omega, by omega, by simp, EQ.out⟩
  case round =>
    obtain ⟨e, he, hen, rfl, HE⟩ := hrel
    by_cases hlt : e < n
    · have hlti : decide ((e : Int) < (n : Int)) = true := by simp; omega
      have dj := RN.out e hlt
      have HG : Hid _ := run_go Z e (by omega)
      have HS : Hid _ := run_stop Z e (by omega)
      generalize Z.getD e 0 = c at *
      cases hp : isPart c
      · obtain rfl : q = e := by have := HS.out hp; have := HE.out; omega
        go_wp2_with fail
        refine (part2_calls c _).mono ?_
        rintro x w2 ⟨rfl, rfl⟩
        go_wp2
        go_ret
        exact ⟨by simp, HB.out⟩
      · go_wp2_with fail
        refine (part2_calls c _).mono ?_
        rintro x w2 ⟨rfl, rfl⟩
        go_wp2
        go_round
        case rel => exact ⟨e + 1, by omega, by omega, by go_num, by have := HG.out hp; have := HE.out; simp only [Hid]; omega⟩
        case measure => simp [intOf]; omega
    · obtain rfl : q = e := by have := run_end Z e (by omega); have := HE.out; omega
      have hlti : decide ((q : Int) < (n : Int)) = false := by simp; omega
      go_wp2
      go_ret
      exact ⟨by simp, HB.out⟩
/-- WHAT THE WALK IS TOLD OF A SLICE OF INTEGERS THAT CAME IN: it is nil; or it leads to a row of 'cap' cells, the numbers 'zs' (the first 'len' are its elements, the rest its spare room), each fitting its kind. -/
def IsRow (k : IntKind) (w : World) (a : Option Addr) (len cap : Nat) (zs : List Int) : Prop :=
  (a = none ∧ len = 0 ∧ cap = 0 ∧ zs = []) ∨
  ∃ x, a = some x ∧ len ≤ cap ∧ cap ≤ maxLen ∧ zs.length = cap ∧ (∀ i, i < zs.length → w.cell? (x.add i) = some (.int k (zs.getD i 0))) ∧ ∀ n ∈ zs, (Lit.int k n).wf = true

set_option maxRecDepth 100000 in
theorem long (a0 : Option Addr) (len0 cap0 : Nat) (a1 : Int) (a2 : ByteArray) (a3 : Int) (w : World) (h : 1024 < len0) (hm : len0 ≤ maxLen) :
    Calls Yba.prog 4 #[.slice a0 len0 cap0, .int .u64 a1, .string a2, .int .i64 a3] w fun e w' => e = .returned (.bool true) ∧ Below w.heap.size w w' := by
  unfold maxLen at hm
  go_enter Yba.func4, Yba.ntmps4
  go_wp2
  go_ret
  exact ⟨rfl, Below.refl _ _⟩
set_option maxRecDepth 100000 in
theorem empty (a0 : Option Addr) (cap0 : Nat) (a1 : Int) (a2 : ByteArray) (a3 : Int) (w : World) :
    Calls Yba.prog 4 #[.slice a0 0 cap0, .int .u64 a1, .string a2, .int .i64 a3] w fun e w' => e = .returned (.bool true) ∧ Below w.heap.size w w' := by
  go_enter Yba.func4, Yba.ntmps4
  go_wp2
  go_ret
  exact ⟨rfl, Below.refl _ _⟩

set_option linter.unusedVariables false in
theorem walk (a0 : Option Addr) (len0 cap0 : Nat) (z0 : List Int) (a1 : Int) (a2 : ByteArray) (a3 : Int) (w : World) (w0 : IsRow .u8 w a0 len0 cap0 z0) (w1 : (Lit.int .u64 a1).wf = true) (w2 : a2.size ≤ maxLen) (w3 : (Lit.int .i64 a3).wf = true) :
    Calls Yba.prog 4 #[.slice a0 len0 cap0, .int .u64 a1, .string a2, .int .i64 a3] w fun e w' => e = .returned (.bool true) ∧ Below w.heap.size w w' := by
  have b1 := bounds_u64 w1
  rcases w0 with ⟨rfl, rfl, rfl, rfl⟩ | ⟨x, rfl, h1, h2, h3, h4, h5⟩
  · exact empty none 0 a1 a2 a3 w
  · by_cases hz : len0 = 0
    · subst hz; exact empty _ cap0 a1 a2 a3 w
    · by_cases hlen : len0 ≤ 1024
      · obtain ⟨b, off, rfl, hc⟩ := ints_at h4 (by omega)
        have hc0 := hc 0 (by omega)
        exact core b off len0 cap0 (z0.take len0) a1 a2 a3 w (by simp; omega) hlen (by omega) h1 h2 (World.block_lt_of_cell? _ _ hc0) b1 (fun j hj => by
          rw [hc j (by omega)]; simp [List.getD, hj])
      · exact long _ len0 cap0 a1 a2 a3 w (by omega) (Nat.le_trans h1 h2)

end Go.Proofs.Ybulkeoy.lawS0271BExact
