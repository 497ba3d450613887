import Derived.Test.YbulkeoyName
namespace Go.Proofs.Ybulkeoy
open Go.RowKit

theorem setTwice (w : World) (blk off : Nat) (v v' : Value) : (w.setCell ⟨blk, off, none⟩ v).setCell ⟨blk, off, none⟩ v' = w.setCell ⟨blk, off, none⟩ v' := by
  unfold World.setCell
  congr 1
  apply Array.ext_getElem?
  intro k
  simp only [Array.getElem?_modify]
  by_cases e : blk = k
  · simp only [e, if_true]
    cases w.heap[k]? with
    | none => rfl
    | some o => cases o <;> simp
  · simp [e]
theorem ret_str {a b : ByteArray} (h : a = b) : Ending.returned (.string a) = .returned (.string b) := by rw [h]
theorem again (W : World) (R : Nat) (u v : Value) (k : Nat) : ((W.setCell ⟨R, 2, none⟩ u).drewN k).setCell ⟨R, 2, none⟩ v = (W.setCell ⟨R, 2, none⟩ v).drewN k := by
  show ((W.setCell ⟨R, 2, none⟩ u).setCell ⟨R, 2, none⟩ v).drewN k = _
  rw [setTwice]

set_option maxRecDepth 100000 in
set_option maxHeartbeats 1000000 in
theorem name_calls (R S n cap i : Nat) (Z : List Int) (hZ : Z.length = n) (hn : n ≤ 65536) (hcap : n ≤ cap) (hi : i < n) (W : World) (hne : S ≠ R)
    (c1 : W.cell? ⟨R, 1, none⟩ = some (.slice (some ⟨S, 0, none⟩) n cap)) (c2 : W.cell? ⟨R, 2, none⟩ = some (.int .i64 i)) (f2 : W.frozen? ⟨R, 2, none⟩ = false)
    (row : ∀ j, j < n → W.cell? ⟨S, j, none⟩ = some (.int .u8 (Z.getD j 0))) :
    Calls Yba.prog 7 #[.pointer (some ⟨R, 0, none⟩)] W fun e w' => e = .returned (.string (strOfNums ((Z.drop i).take (runOf (Z.drop (i + 1)) + 1)))) ∧ ∃ k, w' = (W.setCell ⟨R, 2, none⟩ (.int .i64 ((i + 1 + runOf (Z.drop (i + 1)) : Nat) : Int))).drewN k := by
  have RO : Hid _ := row
  clear row
  go_enter Yba.func7, Yba.ntmps7
  go_wp2
  go_loopw [] (fun wr => ∃ j k : Nat, i < j ∧ j ≤ n ∧ wr = (W.setCell ⟨R, 2, none⟩ (.int .i64 j)).drewN k ∧ Hid (i + 1 + runOf (Z.drop (i + 1)) = j + runOf (Z.drop j))) (fun wr => n - (intOf ((wr.cell? ⟨R, 2, none⟩).getD .nilIface)).toNat)
  case atStart => exact ⟨i + 1, 0, by omega, by omega, by simp; rfl, by simp [Hid]⟩
  case round =>
    obtain ⟨j, k, hij, hjn, hwr, HH⟩ := hrel
    have d2 : wr.cell? ⟨R, 2, none⟩ = some (.int .i64 j) := by
      rw [hwr, World.cell?_drewN]; exact World.cell?_setCell_same W ⟨R, 2, none⟩ (.int .i64 j) c2
    have d1 : wr.cell? ⟨R, 1, none⟩ = some (.slice (some ⟨S, 0, none⟩) n cap) := by
      rw [hwr, World.cell?_drewN, World.cell?_setCell_other _ _ _ _ (by intro e; simp at e)]; exact c1
    have df : wr.frozen? ⟨R, 2, none⟩ = false := by
      rw [hwr, World.frozen?_drewN, World.frozen?_setCell]; exact f2
    have HJ : Hid (∀ q, q < n → wr.cell? ⟨S, q, none⟩ = some (.int .u8 (Z.getD q 0))) := by
      intro q hq
      rw [hwr, World.cell?_drewN, World.cell?_setCell_other _ _ _ _ (by intro e; injection e; omega)]; exact RO.out q hq
    have HW : Hid _ := hwr
    clear hwr
    have hcv : ∀ m, (convert 29 9 (.slice (some ⟨S, i, none⟩) (j - i) (cap - i))).run Yba.prog (wr.drewN m) = .ok (.string (strOfNums ((Z.drop i).take (j - i)))) (wr.drewN m) := fun m =>
      run_convert_bytes_arg (wr.drewN m) 29 5 Yba.underlying29 Yba.underlying5 S i (j - i) (cap - i) ((Z.drop i).take (j - i)) (by simp; omega) (fun q hq => by
        rw [World.cell?_drewN, HJ.out (i + q) (by omega)]
        simp [List.getD, hq]) 9 Yba.underlying9
    generalize hstr : strOfNums ((Z.drop i).take (j - i)) = str at hcv
    have HT : Hid _ := hstr
    clear hstr
    by_cases hlt : j < n
    · have dj := HJ.out j hlt
      have hlti : (j : Int) < (n : Int) := by omega
      have HG : Hid _ := run_go Z j (by omega)
      have HS : Hid _ := run_stop Z j (by omega)
      generalize hc : Z.getD j 0 = c at *
      have HC : Hid _ := hc
      clear hc
      cases hp : isPart c
      · go_wp2
        go_quiet ((go_at_call 14; exact Calls.quiet_of_same (part_calls _ _)))
        go_wp2
        go_quiet (fail)
        go_wp2
        go_ret
        have e0 := HS.out hp
        have e1 := HH.out
        have hs : str = strOfNums ((Z.drop i).take (runOf (Z.drop (i + 1)) + 1)) := by rw [← HT.out, show j - i = runOf (Z.drop (i + 1)) + 1 by omega]
        exact ⟨ret_str hs, _, by rw [HW.out, show j = i + 1 + runOf (Z.drop (i + 1)) by omega, World.drewN_drewN, World.drewN_drewN]⟩
      · go_wp2
        go_quiet ((go_at_call 14; exact Calls.quiet_of_same (part_calls _ _)))
        go_wp2
        go_roundw
        case rel =>
          have e0 := HG.out hp
          have e1 := HH.out
          exact ⟨j + 1, k + nq, by omega, by omega, by rw [HW.out, World.drewN_drewN, again]; rfl, by simp only [Hid]; omega⟩
        case measure =>
          have m1 : ((wr.drewN nq).setCell ⟨R, 2, none⟩ (.int .i64 ((j : Int) + 1))).cell? ⟨R, 2, none⟩ = some (.int .i64 ((j : Int) + 1)) := World.cell?_setCell_same _ _ _ (by rw [World.cell?_drewN]; exact d2)
          rw [m1, d2]
          simp [intOf]; omega
    · have hd : decide ((j : Int) < (n : Int)) = false := by simp; omega
      go_wp2
      go_quiet (fail)
      go_wp2
      go_quiet (fail)
      go_wp2
      go_ret
      have e0 := run_end Z j (by omega)
      have e1 := HH.out
      have hs : str = strOfNums ((Z.drop i).take (runOf (Z.drop (i + 1)) + 1)) := by rw [← HT.out, show j - i = runOf (Z.drop (i + 1)) + 1 by omega]
      exact ⟨ret_str hs, _, by rw [HW.out, show j = i + 1 + runOf (Z.drop (i + 1)) by omega, World.drewN_drewN, World.drewN_drewN]⟩
end Go.Proofs.Ybulkeoy
