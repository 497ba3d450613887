/- LawS0275BCount, walked: three ways ahead of the loops, one text behind them (written by gen-count.py). -/
import Derived.Test.YbulkercEnd
namespace Go.Proofs.Ybulkerc
open Go.ChangeMaps (setBlock)
open Go.RowKit

set_option maxRecDepth 100000 in
set_option maxHeartbeats 1000000 in
theorem core_odd (a0 : Option Addr) (n cap : Nat) (ss : List ByteArray) (q : ByteArray) (b : Int) (W : World) (hn : n ≤ 1024) (hn0 : 0 < n) (hb0 : 0 ≤ b) (hb1 : b ≤ 255) (hodd : (b % 2 == 0) = false)
    (row : ∀ k, k < n → ∃ bl off, a0 = some ⟨bl, off, none⟩ ∧ bl < W.heap.size ∧ W.cell? ⟨bl, off + k, none⟩ = some (.string (ss.getD k ByteArray.empty))) :
    Calls Yba.prog 3 #[.slice a0 n cap, .string q, .int .u8 b] W fun e w' => e = .returned (.bool true) ∧ Below W.heap.size W w' := by
  have ROW : Hid _ := row
  clear row
  have d0 : decide (1024 < (n : Int)) = false := by simp; omega
  have d1 : decide (0 < (n : Int)) = true := by simp; omega
  have hmm := @run_makeMap Yba.prog
  have qT : ∀ (w : World) (r : Option Nat), (binOp .eql 60 (.map r) (.map none)).run Yba.prog w = .ok (.bool r.isNone) w := fun w r => run_eql_map_nil w _ _ _ r Yba.underlying60
  go_enter Yba.func3, Yba.ntmps3
  go_wp2
  go_loopw [10, 11, 42] (fun _ _ i wr => ∃ (k : Nat) (R : ByteArray → Option Nat), k ≤ n ∧ i = .int .i64 k ∧ Inv ss W (srvOf W.heap.size) k wr R) (fun _ _ i _ => n - (intOf i).toNat)
  case atStart => exact ⟨0, fun _ => none, Nat.zero_le _, rfl, inv0 ss W (srvOf W.heap.size)⟩
  case round =>
    obtain ⟨k, R, hk, rfl, I⟩ := hrel
    by_cases hlt : k < n
    · obtain ⟨bl, off, ha, hbl, hc⟩ := ROW.out k hlt
      subst ha
      have hcx : wr.cell? ⟨bl, off + k, none⟩ = some (.string (ss.getD k ByteArray.empty)) := (I.below.cell (p := ⟨bl, off + k, none⟩) hbl).trans hc
      have hrm := I.rooms
      have hlk := I.lookup (ss.getD k ByteArray.empty)
      have hin : W.heap.size + 1 < wr.heap.size := lt_of_some I.server
      clear hc
      cases hR : R (ss.getD k ByteArray.empty) with
      | none =>
        rw [hR] at hlk
        obtain ⟨w2, R', hmu, hR', I2⟩ := step_miss I _ hR
        obtain ⟨w4, hmu2, I4⟩ := step_hit I2 wr.heap.size connC (.agg #[]) hR'
        have hrm1 : (wr.alloc (.map #[] 0)).cell? ⟨W.heap.size + 1, 23, none⟩ = some (.map (some W.heap.size)) := by rw [World.cell?_alloc_past _ _ _ hin]; exact hrm
        have II : Hid _ := I4
        clear I I2 I4 hR'
        generalize ss.getD k ByteArray.empty = s at *
        go_wp2
        go_roundw
        case rel => exact ⟨k + 1, R', by omega, by go_num, II.out⟩
        case measure => simp [intOf]; omega
      | some r =>
        rw [hR] at hlk
        obtain ⟨w4, hmu2, I4⟩ := step_hit I r connC (.agg #[]) hR
        have II : Hid _ := I4
        clear I I4
        generalize ss.getD k ByteArray.empty = s at *
        go_wp2
        go_roundw
        case rel => exact ⟨k + 1, R, by omega, by go_num, II.out⟩
        case measure => simp [intOf]; omega
    · obtain rfl : k = n := by omega
      clear hlt hk
      have II : Hid _ := I
      have hblw := I.below
      clear I
      go_wp2
      go_loopw [12, 14, 68] (fun c _ i ws => ∃ (j : Nat), j ≤ k ∧ i = .int .i64 j ∧ c = .int .i64 (cnt ss q j : Int) ∧ ws = wr) (fun _ _ i _ => k - (intOf i).toNat)
      case atStart => exact ⟨0, Nat.zero_le _, rfl, rfl, rfl⟩
      case round =>
        obtain ⟨j, hj, rfl, rfl, rfl⟩ := hrel
        have hcl := cnt_le ss q j
        by_cases hlt : j < k
        · obtain ⟨bl, off, ha, hbl, hc⟩ := ROW.out j hlt
          subst ha
          have hcx := (hblw.cell (p := ⟨bl, off + j, none⟩) hbl).trans hc
          have HC : Hid (cnt ss q (j + 1) = cnt ss q j + (if ss.getD j ByteArray.empty == q then 1 else 0)) := rfl
          clear hc
          generalize ss.getD j ByteArray.empty = s at *
          generalize hcj : cnt ss q j = cj at *
          cases hsq : (s == q)
          · have hsl := hsq
            rw [beq_toListBytes] at hsl
            go_wp2
            go_roundw
            case rel => exact ⟨j + 1, by omega, by go_num, by rw [HC.out, hsq]; rfl, trivial⟩
            case measure => simp [intOf]; omega
          · have hsl := hsq
            rw [beq_toListBytes] at hsl
            go_wp2
            go_roundw
            case rel => exact ⟨j + 1, by omega, by go_num, by rw [HC.out, hsq]; rfl, trivial⟩
            case measure => simp [intOf]; omega
        · obtain rfl : j = k := by omega
          clear hlt hj
          have I := II.out
          have m1 : (wr.setCell ⟨W.heap.size + 1, 20, none⟩ (.int .i32 1)).cell? ⟨W.heap.size + 1, 20, none⟩ = some (.int .i32 1) := World.cell?_setCell_same _ _ _ I.mu
          have RS := roomSize (W.heap.size + 1) W.heap.size q (.map (R q)) (cnt ss q j : Int) wr I.mu I.rooms (I.warm _) (I.lookup_set 20 _ q) (I.len_set 20 _ q)
          obtain ⟨w5, hw5⟩ : ∃ w5, w5 = (wr.setCell ⟨W.heap.size + 1, 20, none⟩ (.int .i32 1)).setCell ⟨W.heap.size + 1, 20, none⟩ (.int .i32 0) := ⟨_, rfl⟩
          have m0 : w5.cell? ⟨W.heap.size + 1, 20, none⟩ = some (.int .i32 0) := by rw [hw5]; exact World.cell?_setCell_same _ _ _ m1
          have z0 : w5.frozen? ⟨W.heap.size + 1, 20, none⟩ = false := by rw [hw5]; simp [I.warm]
          have bl5 : Below W.heap.size W w5 := by rw [hw5]; exact (hblw.setCell (Nat.le_succ _) _).setCell (Nat.le_succ _) _
          rw [← hw5] at RS
          have TR := try_free ⟨W.heap.size + 1, 20, none⟩ w5 m0 z0
          have m6 : (w5.setCell ⟨W.heap.size + 1, 20, none⟩ (.int .i32 1)).cell? ⟨W.heap.size + 1, 20, none⟩ = some (.int .i32 1) := World.cell?_setCell_same _ _ _ m0
          have z6 : (w5.setCell ⟨W.heap.size + 1, 20, none⟩ (.int .i32 1)).frozen? ⟨W.heap.size + 1, 20, none⟩ = false := by simp [z0]
          have UN := Go.MuLone.unlock_held Yba.muLib ⟨W.heap.size + 1, 20, none⟩ (w5.setCell ⟨W.heap.size + 1, 20, none⟩ (.int .i32 1)) m6 z6
          have HB : Hid (Below W.heap.size W ((w5.setCell ⟨W.heap.size + 1, 20, none⟩ (.int .i32 1)).setCell ⟨W.heap.size + 1, 20, none⟩ (.int .i32 0))) := (bl5.setCell (Nat.le_succ _) _).setCell (Nat.le_succ _) _
          have RS' : Hid _ := RS
          have TR' : Hid _ := TR
          have UN' : Hid _ := UN
          clear RS TR UN m6 z6 m0 z0 m1 bl5 hblw hw5 I II ROW
          generalize cnt ss q j = cj at *
          go_wp2_with fail
          refine Calls.mono RS'.out ?_
          rintro e w' ⟨rfl, rfl⟩
          go_wp2_with fail
          refine Calls.mono TR'.out ?_
          rintro e w' ⟨rfl, rfl⟩
          go_wp2_with fail
          refine Calls.mono UN'.out ?_
          rintro e w' ⟨rfl, rfl⟩
          go_wp2
          go_ret
          exact ⟨rfl, HB.out⟩

set_option maxRecDepth 100000 in
set_option maxHeartbeats 1000000 in
theorem core_zero (a0 : Option Addr) (n cap : Nat) (ss : List ByteArray) (q : ByteArray) (b : Int) (W : World) (hn0 : n = 0)
    (row : ∀ k, k < n → ∃ bl off, a0 = some ⟨bl, off, none⟩ ∧ bl < W.heap.size ∧ W.cell? ⟨bl, off + k, none⟩ = some (.string (ss.getD k ByteArray.empty))) :
    Calls Yba.prog 3 #[.slice a0 n cap, .string q, .int .u8 b] W fun e w' => e = .returned (.bool true) ∧ Below W.heap.size W w' := by
  have ROW : Hid _ := row
  clear row
  have d0 : decide (1024 < (n : Int)) = false := by simp; omega
  have hn : n ≤ 1024 := by omega
  have d1 : decide (0 < (n : Int)) = false := by simp; omega
  have hmm := @run_makeMap Yba.prog
  have qT : ∀ (w : World) (r : Option Nat), (binOp .eql 60 (.map r) (.map none)).run Yba.prog w = .ok (.bool r.isNone) w := fun w r => run_eql_map_nil w _ _ _ r Yba.underlying60
  go_enter Yba.func3, Yba.ntmps3
  go_wp2
  go_loopw [10, 11, 42] (fun _ _ i wr => ∃ (k : Nat) (R : ByteArray → Option Nat), k ≤ n ∧ i = .int .i64 k ∧ Inv ss W (srvOf W.heap.size) k wr R) (fun _ _ i _ => n - (intOf i).toNat)
  case atStart => exact ⟨0, fun _ => none, Nat.zero_le _, rfl, inv0 ss W (srvOf W.heap.size)⟩
  case round =>
    obtain ⟨k, R, hk, rfl, I⟩ := hrel
    by_cases hlt : k < n
    · omega
    · obtain rfl : k = n := by omega
      clear hlt hk
      have II : Hid _ := I
      have hblw := I.below
      clear I
      go_wp2
      go_loopw [12, 14, 68] (fun c _ i ws => ∃ (j : Nat), j ≤ k ∧ i = .int .i64 j ∧ c = .int .i64 (cnt ss q j : Int) ∧ ws = wr) (fun _ _ i _ => k - (intOf i).toNat)
      case atStart => exact ⟨0, Nat.zero_le _, rfl, rfl, rfl⟩
      case round =>
        obtain ⟨j, hj, rfl, rfl, rfl⟩ := hrel
        have hcl := cnt_le ss q j
        by_cases hlt : j < k
        · omega
        · obtain rfl : j = k := by omega
          clear hlt hj
          have I := II.out
          have m1 : (wr.setCell ⟨W.heap.size + 1, 20, none⟩ (.int .i32 1)).cell? ⟨W.heap.size + 1, 20, none⟩ = some (.int .i32 1) := World.cell?_setCell_same _ _ _ I.mu
          have RS := roomSize (W.heap.size + 1) W.heap.size q (.map (R q)) (cnt ss q j : Int) wr I.mu I.rooms (I.warm _) (I.lookup_set 20 _ q) (I.len_set 20 _ q)
          obtain ⟨w5, hw5⟩ : ∃ w5, w5 = (wr.setCell ⟨W.heap.size + 1, 20, none⟩ (.int .i32 1)).setCell ⟨W.heap.size + 1, 20, none⟩ (.int .i32 0) := ⟨_, rfl⟩
          have m0 : w5.cell? ⟨W.heap.size + 1, 20, none⟩ = some (.int .i32 0) := by rw [hw5]; exact World.cell?_setCell_same _ _ _ m1
          have z0 : w5.frozen? ⟨W.heap.size + 1, 20, none⟩ = false := by rw [hw5]; simp [I.warm]
          have bl5 : Below W.heap.size W w5 := by rw [hw5]; exact (hblw.setCell (Nat.le_succ _) _).setCell (Nat.le_succ _) _
          rw [← hw5] at RS
          have TR := try_free ⟨W.heap.size + 1, 20, none⟩ w5 m0 z0
          have m6 : (w5.setCell ⟨W.heap.size + 1, 20, none⟩ (.int .i32 1)).cell? ⟨W.heap.size + 1, 20, none⟩ = some (.int .i32 1) := World.cell?_setCell_same _ _ _ m0
          have z6 : (w5.setCell ⟨W.heap.size + 1, 20, none⟩ (.int .i32 1)).frozen? ⟨W.heap.size + 1, 20, none⟩ = false := by simp [z0]
          have UN := Go.MuLone.unlock_held Yba.muLib ⟨W.heap.size + 1, 20, none⟩ (w5.setCell ⟨W.heap.size + 1, 20, none⟩ (.int .i32 1)) m6 z6
          have HB : Hid (Below W.heap.size W ((w5.setCell ⟨W.heap.size + 1, 20, none⟩ (.int .i32 1)).setCell ⟨W.heap.size + 1, 20, none⟩ (.int .i32 0))) := (bl5.setCell (Nat.le_succ _) _).setCell (Nat.le_succ _) _
          have RS' : Hid _ := RS
          have TR' : Hid _ := TR
          have UN' : Hid _ := UN
          clear RS TR UN m6 z6 m0 z0 m1 bl5 hblw hw5 I II ROW
          generalize cnt ss q j = cj at *
          go_wp2_with fail
          refine Calls.mono RS'.out ?_
          rintro e w' ⟨rfl, rfl⟩
          go_wp2_with fail
          refine Calls.mono TR'.out ?_
          rintro e w' ⟨rfl, rfl⟩
          go_wp2_with fail
          refine Calls.mono UN'.out ?_
          rintro e w' ⟨rfl, rfl⟩
          go_wp2
          go_ret
          exact ⟨rfl, HB.out⟩

set_option maxRecDepth 100000 in
set_option maxHeartbeats 1000000 in
theorem core_even (bl0 off0 n cap : Nat) (ss : List ByteArray) (q0 q : ByteArray) (b : Int) (j0 : Nat) (W : World) (hn : n ≤ 1024) (hb0 : 0 ≤ b) (hb1 : b ≤ 255) (hodd : (b % 2 == 0) = true) (hj0 : b / 2 % (n : Int) = (j0 : Int)) (hjn : j0 < n) (hcq : W.cell? ⟨bl0, off0 + j0, none⟩ = some (.string q))
    (row : ∀ k, k < n → ∃ bl off, (some (⟨bl0, off0, none⟩ : Addr)) = some ⟨bl, off, none⟩ ∧ bl < W.heap.size ∧ W.cell? ⟨bl, off + k, none⟩ = some (.string (ss.getD k ByteArray.empty))) :
    Calls Yba.prog 3 #[.slice (some (⟨bl0, off0, none⟩ : Addr)) n cap, .string q0, .int .u8 b] W fun e w' => e = .returned (.bool true) ∧ Below W.heap.size W w' := by
  have ROW : Hid _ := row
  clear row
  have d0 : decide (1024 < (n : Int)) = false := by simp; omega
  have d1 : decide (0 < (n : Int)) = true := by simp; omega
  have hmm := @run_makeMap Yba.prog
  have qT : ∀ (w : World) (r : Option Nat), (binOp .eql 60 (.map r) (.map none)).run Yba.prog w = .ok (.bool r.isNone) w := fun w r => run_eql_map_nil w _ _ _ r Yba.underlying60
  go_enter Yba.func3, Yba.ntmps3
  go_wp2
  go_loopw [10, 11, 42] (fun _ _ i wr => ∃ (k : Nat) (R : ByteArray → Option Nat), k ≤ n ∧ i = .int .i64 k ∧ Inv ss W (srvOf W.heap.size) k wr R) (fun _ _ i _ => n - (intOf i).toNat)
  case atStart => exact ⟨0, fun _ => none, Nat.zero_le _, rfl, inv0 ss W (srvOf W.heap.size)⟩
  case round =>
    obtain ⟨k, R, hk, rfl, I⟩ := hrel
    by_cases hlt : k < n
    · obtain ⟨bl, off, ha, hbl, hc⟩ := ROW.out k hlt
      obtain ⟨rfl, rfl⟩ : bl0 = bl ∧ off0 = off := by simpa using ha
      have hcx : wr.cell? ⟨bl0, off0 + k, none⟩ = some (.string (ss.getD k ByteArray.empty)) := (I.below.cell (p := ⟨bl0, off0 + k, none⟩) hbl).trans hc
      have hrm := I.rooms
      have hlk := I.lookup (ss.getD k ByteArray.empty)
      have hin : W.heap.size + 1 < wr.heap.size := lt_of_some I.server
      clear hc
      cases hR : R (ss.getD k ByteArray.empty) with
      | none =>
        rw [hR] at hlk
        obtain ⟨w2, R', hmu, hR', I2⟩ := step_miss I _ hR
        obtain ⟨w4, hmu2, I4⟩ := step_hit I2 wr.heap.size connC (.agg #[]) hR'
        have hrm1 : (wr.alloc (.map #[] 0)).cell? ⟨W.heap.size + 1, 23, none⟩ = some (.map (some W.heap.size)) := by rw [World.cell?_alloc_past _ _ _ hin]; exact hrm
        have II : Hid _ := I4
        clear I I2 I4 hR'
        generalize ss.getD k ByteArray.empty = s at *
        go_wp2
        go_roundw
        case rel => exact ⟨k + 1, R', by omega, by go_num, II.out⟩
        case measure => simp [intOf]; omega
      | some r =>
        rw [hR] at hlk
        obtain ⟨w4, hmu2, I4⟩ := step_hit I r connC (.agg #[]) hR
        have II : Hid _ := I4
        clear I I4
        generalize ss.getD k ByteArray.empty = s at *
        go_wp2
        go_roundw
        case rel => exact ⟨k + 1, R, by omega, by go_num, II.out⟩
        case measure => simp [intOf]; omega
    · obtain rfl : k = n := by omega
      clear hlt hk
      have II : Hid _ := I
      have hblw := I.below
      clear I
      go_wp2
      go_loopw [12, 14, 68] (fun c _ i ws => ∃ (j : Nat), j ≤ k ∧ i = .int .i64 j ∧ c = .int .i64 (cnt ss q j : Int) ∧ ws = wr) (fun _ _ i _ => k - (intOf i).toNat)
      case atStart => exact ⟨0, Nat.zero_le _, rfl, rfl, rfl⟩
      case round =>
        obtain ⟨j, hj, rfl, rfl, rfl⟩ := hrel
        have hcl := cnt_le ss q j
        by_cases hlt : j < k
        · obtain ⟨bl, off, ha, hbl, hc⟩ := ROW.out j hlt
          obtain ⟨rfl, rfl⟩ : bl0 = bl ∧ off0 = off := by simpa using ha
          have hcx := (hblw.cell (p := ⟨bl0, off0 + j, none⟩) hbl).trans hc
          have HC : Hid (cnt ss q (j + 1) = cnt ss q j + (if ss.getD j ByteArray.empty == q then 1 else 0)) := rfl
          clear hc
          generalize ss.getD j ByteArray.empty = s at *
          generalize hcj : cnt ss q j = cj at *
          cases hsq : (s == q)
          · have hsl := hsq
            rw [beq_toListBytes] at hsl
            go_wp2
            go_roundw
            case rel => exact ⟨j + 1, by omega, by go_num, by rw [HC.out, hsq]; rfl, trivial⟩
            case measure => simp [intOf]; omega
          · have hsl := hsq
            rw [beq_toListBytes] at hsl
            go_wp2
            go_roundw
            case rel => exact ⟨j + 1, by omega, by go_num, by rw [HC.out, hsq]; rfl, trivial⟩
            case measure => simp [intOf]; omega
        · obtain rfl : j = k := by omega
          clear hlt hj
          have I := II.out
          have m1 : (wr.setCell ⟨W.heap.size + 1, 20, none⟩ (.int .i32 1)).cell? ⟨W.heap.size + 1, 20, none⟩ = some (.int .i32 1) := World.cell?_setCell_same _ _ _ I.mu
          have RS := roomSize (W.heap.size + 1) W.heap.size q (.map (R q)) (cnt ss q j : Int) wr I.mu I.rooms (I.warm _) (I.lookup_set 20 _ q) (I.len_set 20 _ q)
          obtain ⟨w5, hw5⟩ : ∃ w5, w5 = (wr.setCell ⟨W.heap.size + 1, 20, none⟩ (.int .i32 1)).setCell ⟨W.heap.size + 1, 20, none⟩ (.int .i32 0) := ⟨_, rfl⟩
          have m0 : w5.cell? ⟨W.heap.size + 1, 20, none⟩ = some (.int .i32 0) := by rw [hw5]; exact World.cell?_setCell_same _ _ _ m1
          have z0 : w5.frozen? ⟨W.heap.size + 1, 20, none⟩ = false := by rw [hw5]; simp [I.warm]
          have bl5 : Below W.heap.size W w5 := by rw [hw5]; exact (hblw.setCell (Nat.le_succ _) _).setCell (Nat.le_succ _) _
          rw [← hw5] at RS
          have TR := try_free ⟨W.heap.size + 1, 20, none⟩ w5 m0 z0
          have m6 : (w5.setCell ⟨W.heap.size + 1, 20, none⟩ (.int .i32 1)).cell? ⟨W.heap.size + 1, 20, none⟩ = some (.int .i32 1) := World.cell?_setCell_same _ _ _ m0
          have z6 : (w5.setCell ⟨W.heap.size + 1, 20, none⟩ (.int .i32 1)).frozen? ⟨W.heap.size + 1, 20, none⟩ = false := by simp [z0]
          have UN := Go.MuLone.unlock_held Yba.muLib ⟨W.heap.size + 1, 20, none⟩ (w5.setCell ⟨W.heap.size + 1, 20, none⟩ (.int .i32 1)) m6 z6
          have HB : Hid (Below W.heap.size W ((w5.setCell ⟨W.heap.size + 1, 20, none⟩ (.int .i32 1)).setCell ⟨W.heap.size + 1, 20, none⟩ (.int .i32 0))) := (bl5.setCell (Nat.le_succ _) _).setCell (Nat.le_succ _) _
          have RS' : Hid _ := RS
          have TR' : Hid _ := TR
          have UN' : Hid _ := UN
          clear RS TR UN m6 z6 m0 z0 m1 bl5 hblw hw5 I II ROW
          generalize cnt ss q j = cj at *
          go_wp2_with fail
          refine Calls.mono RS'.out ?_
          rintro e w' ⟨rfl, rfl⟩
          go_wp2_with fail
          refine Calls.mono TR'.out ?_
          rintro e w' ⟨rfl, rfl⟩
          go_wp2_with fail
          refine Calls.mono UN'.out ?_
          rintro e w' ⟨rfl, rfl⟩
          go_wp2
          go_ret
          exact ⟨rfl, HB.out⟩

end Go.Proofs.Ybulkerc
