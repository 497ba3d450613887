import Derived.Test.YbulkeoySet2
import Derived.LaidEqlPtr
namespace Go.Proofs.Ybulkeoy.lawS0271ASetField
open Go.RowKit

theorem assert27 (p : Option Addr) (w : World) : (Instr.typeAssert (.iface 27 (.pointer p)) 36 27 true).run Yba.prog w = .ok (.tuple #[.pointer p, .bool true]) w := by kernel_rfl

theorem info40 : (Yba.prog.info? 40).map (fun i => (i.zero, i.size, i.bytes)) = some (some (.agg #[.int .i64 0]), 1, 8) := by kernel_rfl
theorem eql27 (a : Addr) (w : World) : (binOp .eql 27 (.pointer (some a)) (.pointer (some a))).run Yba.prog w = .ok (.bool true) w := by
  obtain ⟨i, hi, -⟩ := info_parts info40
  exact run_eql_ptr_same w a Yba.underlying27 hi

theorem args_row {w w1 : World} {a0 : Option Addr} {len0 : Nat} {zf : Nat → Int} (hb : Below w.heap.size w w1) (hrow : ∀ k, k < len0 → ∃ b off, a0 = some ⟨b, off, none⟩ ∧ b < w.heap.size ∧ w.cell? ⟨b, off + k, none⟩ = some (.int .u32 (zf k))) :
    ∀ k, k < len0 → ∃ b off, a0 = some ⟨b, off, none⟩ ∧ w1.cell? ⟨b, off + k, none⟩ = some (.int .u32 (zf k)) := by
  intro k hk
  obtain ⟨b, off, h1, h2, h3⟩ := hrow k hk
  exact ⟨b, off, h1, by rw [hb.cell (p := ⟨b, off + k, none⟩) h2]; exact h3⟩

set_option maxRecDepth 100000 in
set_option maxHeartbeats 1000000 in
theorem ok0 (a0 : Option Addr) (len0 cap0 : Nat) (zf : Nat → Int) (a1 a2 : Int) (slot : Nat) (w : World)
    (hlen : len0 ≤ 1024) (b1 : 0 ≤ a1 ∧ a1 ≤ 65535) (b2 : 0 ≤ a2 ∧ a2 ≤ 65535) (hs : slot < len0)
    (hrow : ∀ k, k < len0 → ∃ b off, a0 = some ⟨b, off, none⟩ ∧ b < w.heap.size ∧ w.cell? ⟨b, off + k, none⟩ = some (.int .u32 (zf k))) :
    Calls Yba.prog 3 #[.slice a0 len0 cap0, .int .u16 a1, .int .u16 a2, .bool true, .bool false, .int .i64 slot] w fun e w' => e = .returned (.bool true) ∧ Below w.heap.size w w' := by
  obtain ⟨L, hL, hL'⟩ : ∃ L : Nat, L ≤ 1024 ∧ a1 % 1025 = (L : Int) := ⟨(a1 % 1025).toNat, by omega, by omega⟩
  obtain ⟨h, hh, hh'⟩ : ∃ h : Nat, h ≤ L ∧ a2 % ((L : Int) + 1) = (h : Int) := by
    have h1 : 0 ≤ a2 % ((L : Int) + 1) := Int.emod_nonneg _ (by omega)
    have h2 : a2 % ((L : Int) + 1) < (L : Int) + 1 := Int.emod_lt_of_pos _ (by omega)
    exact ⟨(a2 % ((L : Int) + 1)).toNat, by omega, by omega⟩
  have hmk1 : ∀ w : World, (Instr.makeSlice 24 (.int .i64 (len0 : Int)) (.int .i64 (len0 : Int))).run Yba.prog w = .ok (.slice (some ⟨w.heap.size, 0, none⟩) len0 len0) (w.alloc (.cells (madeCells #[.int .u32 0] len0) 26)) := fun w =>
    run_make_row' (P := Yba.prog) 24 26 (.int .u32 0) 4 Yba.underlying24 Yba.info26 rfl .i64 .i64 len0 (by omega) (by omega) w
  have hmk2 : ∀ w : World, (Instr.makeSlice 29 (.int .i64 (L : Int)) (.int .i64 (L : Int))).run Yba.prog w = .ok (.slice (some ⟨w.heap.size, 0, none⟩) L L) (w.alloc (.cells (madeCells #[.int .u8 0] L) 5)) := fun w =>
    run_make_row' (P := Yba.prog) 29 5 (.int .u8 0) 1 Yba.underlying29 Yba.info5 rfl .i64 .i64 L (by omega) (by omega) w
  have HL : Hid _ := hL'
  have HH : Hid _ := hh'
  have HR : Hid _ := hrow
  clear hrow hL' hh'
  go_enter Yba.func3, Yba.ntmps3
  go_wp2
  rw [HL.out, HH.out]
  go_loopw [16, 17, 44] (fun _ _ i wr => ∃ (k : Nat) (cur : Array Value), k ≤ len0 ∧ i = .int .i64 k ∧ wr = w.alloc (.cells cur 26) ∧ cur.size = len0 ∧ (∀ j, j < len0 → ∃ y, cur[j]? = some (.int .u32 y)) ∧ (∀ j, j < k → cur[j]? = some (.int .u32 (zf j)))) (fun _ _ i _ => len0 - (intOf i).toNat)
  case atStart => exact ⟨0, _, Nat.zero_le _, rfl, rfl, size_madeCells _ _, fun j hj => ⟨0, by simp [madeCells, hj, Nat.mod_one]⟩, fun j hj => absurd hj (by omega)⟩
  case round =>
    obtain ⟨k, cur, hk, rfl, rfl, hcs, hall, hcur⟩ := hrel
    have HA : Hid _ := hall
    have HC : Hid _ := hcur
    clear hall hcur
    by_cases hlt : k < len0
    · obtain ⟨b, off, rfl, hb, hc⟩ := HR.out k hlt
      obtain ⟨y, hy⟩ := HA.out k hlt
      go_wp2
      go_roundw
      case rel => exact ⟨k + 1, cur.setIfInBounds k (.int .u32 (zf k)), by omega, by go_num, rfl, by simp [hcs], row_set hcs hlt HA.out HC.out⟩
      case measure => simp [intOf]; omega
    · have bf := before0 w cur (madeCells #[.int .u8 0] L) L h len0 true .nilIface zf (fun i hi => HC.out i (by omega))
      unfold bldr at bf
      have st := set_ok bf hL hh hlen slot hs
      have ST : Hid _ := st
      clear st bf 
      go_wp2_with fail
      refine Calls.mono ST.out ?_
      clear ST HA HC hmk1 hmk2 hcs hk hlt
      rintro e w1 ⟨rfl, ha⟩
      have AR : Hid _ := args_row ha.below HR.out
      obtain ⟨hbl, c1, c2, c14, c15, c18, row, fr, fr2⟩ := ha
      have HB : Hid _ := hbl
      have RO : Hid _ := row
      clear hbl row fr fr2
      go_wp2
      go_loop [21, 22, 23, 118] (fun _ _ _ i => ∃ k : Nat, k ≤ len0 ∧ i = .int .i64 k) (fun _ _ _ i => len0 - (intOf i).toNat)
      case atStart => exact ⟨0, Nat.zero_le _, rfl⟩
      case round =>
        obtain ⟨m, hm, rfl⟩ := hrel
        by_cases hlt : m < len0
        · obtain ⟨b, off, rfl, hc⟩ := AR.out m hlt
          have hro := RO.out m hlt
          by_cases hms : m = slot
          · have e1 : ((m : Int) == (slot : Int)) = true := by simp [hms]
            rw [if_pos hms] at hro
            clear hms
            go_wp2
            go_round
            case rel => exact ⟨m + 1, by omega, by go_num⟩
            case measure => simp [intOf]; omega
          · have e1 : ((m : Int) == (slot : Int)) = false := by rw [beq_eq_false_iff_ne]; omega
            rw [if_neg hms] at hro
            clear hms
            go_wp2
            go_round
            case rel => exact ⟨m + 1, by omega, by go_num⟩
            case measure => simp [intOf]; omega
        · have hta := assert27
          have heq := eql27
          go_wp2
          go_ret
          exact ⟨by simp, HB.out⟩

set_option maxRecDepth 100000 in
set_option maxHeartbeats 1000000 in
theorem ok1 (a0 : Option Addr) (len0 cap0 : Nat) (zf : Nat → Int) (a1 a2 : Int) (slot : Nat) (w : World)
    (hlen : len0 ≤ 1024) (b1 : 0 ≤ a1 ∧ a1 ≤ 65535) (b2 : 0 ≤ a2 ∧ a2 ≤ 65535) (hs : slot < len0)
    (hrow : ∀ k, k < len0 → ∃ b off, a0 = some ⟨b, off, none⟩ ∧ b < w.heap.size ∧ w.cell? ⟨b, off + k, none⟩ = some (.int .u32 (zf k))) :
    Calls Yba.prog 3 #[.slice a0 len0 cap0, .int .u16 a1, .int .u16 a2, .bool true, .bool true, .int .i64 slot] w fun e w' => e = .returned (.bool true) ∧ Below w.heap.size w w' := by
  obtain ⟨L, hL, hL'⟩ : ∃ L : Nat, L ≤ 1024 ∧ a1 % 1025 = (L : Int) := ⟨(a1 % 1025).toNat, by omega, by omega⟩
  obtain ⟨h, hh, hh'⟩ : ∃ h : Nat, h ≤ L ∧ a2 % ((L : Int) + 1) = (h : Int) := by
    have h1 : 0 ≤ a2 % ((L : Int) + 1) := Int.emod_nonneg _ (by omega)
    have h2 : a2 % ((L : Int) + 1) < (L : Int) + 1 := Int.emod_lt_of_pos _ (by omega)
    exact ⟨(a2 % ((L : Int) + 1)).toNat, by omega, by omega⟩
  have hmk1 : ∀ w : World, (Instr.makeSlice 24 (.int .i64 (len0 : Int)) (.int .i64 (len0 : Int))).run Yba.prog w = .ok (.slice (some ⟨w.heap.size, 0, none⟩) len0 len0) (w.alloc (.cells (madeCells #[.int .u32 0] len0) 26)) := fun w =>
    run_make_row' (P := Yba.prog) 24 26 (.int .u32 0) 4 Yba.underlying24 Yba.info26 rfl .i64 .i64 len0 (by omega) (by omega) w
  have hmk2 : ∀ w : World, (Instr.makeSlice 29 (.int .i64 (L : Int)) (.int .i64 (L : Int))).run Yba.prog w = .ok (.slice (some ⟨w.heap.size, 0, none⟩) L L) (w.alloc (.cells (madeCells #[.int .u8 0] L) 5)) := fun w =>
    run_make_row' (P := Yba.prog) 29 5 (.int .u8 0) 1 Yba.underlying29 Yba.info5 rfl .i64 .i64 L (by omega) (by omega) w
  have HL : Hid _ := hL'
  have HH : Hid _ := hh'
  have HR : Hid _ := hrow
  clear hrow hL' hh'
  go_enter Yba.func3, Yba.ntmps3
  go_wp2
  rw [HL.out, HH.out]
  go_loopw [16, 17, 44] (fun _ _ i wr => ∃ (k : Nat) (cur : Array Value), k ≤ len0 ∧ i = .int .i64 k ∧ wr = w.alloc (.cells cur 26) ∧ cur.size = len0 ∧ (∀ j, j < len0 → ∃ y, cur[j]? = some (.int .u32 y)) ∧ (∀ j, j < k → cur[j]? = some (.int .u32 (zf j)))) (fun _ _ i _ => len0 - (intOf i).toNat)
  case atStart => exact ⟨0, _, Nat.zero_le _, rfl, rfl, size_madeCells _ _, fun j hj => ⟨0, by simp [madeCells, hj, Nat.mod_one]⟩, fun j hj => absurd hj (by omega)⟩
  case round =>
    obtain ⟨k, cur, hk, rfl, rfl, hcs, hall, hcur⟩ := hrel
    have HA : Hid _ := hall
    have HC : Hid _ := hcur
    clear hall hcur
    by_cases hlt : k < len0
    · obtain ⟨b, off, rfl, hb, hc⟩ := HR.out k hlt
      obtain ⟨y, hy⟩ := HA.out k hlt
      go_wp2
      go_roundw
      case rel => exact ⟨k + 1, cur.setIfInBounds k (.int .u32 (zf k)), by omega, by go_num, rfl, by simp [hcs], row_set hcs hlt HA.out HC.out⟩
      case measure => simp [intOf]; omega
    · have bf := before0 w cur (madeCells #[.int .u8 0] L) L h len0 true (.iface 27 (.pointer (some ⟨w.heap.size + 1 + 1 + 1, 0, none⟩))) zf (fun i hi => HC.out i (by omega))
      unfold bldr at bf
      have bf1 := bf.alloc (.cells #[.int .i64 (-7)] 40)
      have st := set_ok bf1 hL hh hlen slot hs
      have ST : Hid _ := st
      clear st bf bf1
      go_wp2_with fail
      refine Calls.mono ST.out ?_
      clear ST HA HC hmk1 hmk2 hcs hk hlt
      rintro e w1 ⟨rfl, ha⟩
      have AR : Hid _ := args_row ha.below HR.out
      obtain ⟨hbl, c1, c2, c14, c15, c18, row, fr, fr2⟩ := ha
      have HB : Hid _ := hbl
      have RO : Hid _ := row
      clear hbl row fr fr2
      go_wp2
      go_loop [21, 22, 23, 118] (fun _ _ _ i => ∃ k : Nat, k ≤ len0 ∧ i = .int .i64 k) (fun _ _ _ i => len0 - (intOf i).toNat)
      case atStart => exact ⟨0, Nat.zero_le _, rfl⟩
      case round =>
        obtain ⟨m, hm, rfl⟩ := hrel
        by_cases hlt : m < len0
        · obtain ⟨b, off, rfl, hc⟩ := AR.out m hlt
          have hro := RO.out m hlt
          by_cases hms : m = slot
          · have e1 : ((m : Int) == (slot : Int)) = true := by simp [hms]
            rw [if_pos hms] at hro
            clear hms
            go_wp2
            go_round
            case rel => exact ⟨m + 1, by omega, by go_num⟩
            case measure => simp [intOf]; omega
          · have e1 : ((m : Int) == (slot : Int)) = false := by rw [beq_eq_false_iff_ne]; omega
            rw [if_neg hms] at hro
            clear hms
            go_wp2
            go_round
            case rel => exact ⟨m + 1, by omega, by go_num⟩
            case measure => simp [intOf]; omega
        · have hta := assert27
          have heq := eql27
          go_wp2
          go_ret
          exact ⟨by simp, HB.out⟩

set_option maxRecDepth 100000 in
set_option maxHeartbeats 1000000 in
theorem neg0 (a0 : Option Addr) (len0 cap0 : Nat) (zf : Nat → Int) (a1 a2 : Int) (slot : Int) (w : World)
    (hlen : len0 ≤ 1024) (b1 : 0 ≤ a1 ∧ a1 ≤ 65535) (b2 : 0 ≤ a2 ∧ a2 ≤ 65535) (ws : -9223372036854775808 ≤ slot ∧ slot ≤ 9223372036854775807) (hs : slot < 0)
    (hrow : ∀ k, k < len0 → ∃ b off, a0 = some ⟨b, off, none⟩ ∧ b < w.heap.size ∧ w.cell? ⟨b, off + k, none⟩ = some (.int .u32 (zf k))) :
    Calls Yba.prog 3 #[.slice a0 len0 cap0, .int .u16 a1, .int .u16 a2, .bool true, .bool false, .int .i64 slot] w fun e w' => e = .returned (.bool true) ∧ Below w.heap.size w w' := by
  obtain ⟨L, hL, hL'⟩ : ∃ L : Nat, L ≤ 1024 ∧ a1 % 1025 = (L : Int) := ⟨(a1 % 1025).toNat, by omega, by omega⟩
  obtain ⟨h, hh, hh'⟩ : ∃ h : Nat, h ≤ L ∧ a2 % ((L : Int) + 1) = (h : Int) := by
    have h1 : 0 ≤ a2 % ((L : Int) + 1) := Int.emod_nonneg _ (by omega)
    have h2 : a2 % ((L : Int) + 1) < (L : Int) + 1 := Int.emod_lt_of_pos _ (by omega)
    exact ⟨(a2 % ((L : Int) + 1)).toNat, by omega, by omega⟩
  have hmk1 : ∀ w : World, (Instr.makeSlice 24 (.int .i64 (len0 : Int)) (.int .i64 (len0 : Int))).run Yba.prog w = .ok (.slice (some ⟨w.heap.size, 0, none⟩) len0 len0) (w.alloc (.cells (madeCells #[.int .u32 0] len0) 26)) := fun w =>
    run_make_row' (P := Yba.prog) 24 26 (.int .u32 0) 4 Yba.underlying24 Yba.info26 rfl .i64 .i64 len0 (by omega) (by omega) w
  have hmk2 : ∀ w : World, (Instr.makeSlice 29 (.int .i64 (L : Int)) (.int .i64 (L : Int))).run Yba.prog w = .ok (.slice (some ⟨w.heap.size, 0, none⟩) L L) (w.alloc (.cells (madeCells #[.int .u8 0] L) 5)) := fun w =>
    run_make_row' (P := Yba.prog) 29 5 (.int .u8 0) 1 Yba.underlying29 Yba.info5 rfl .i64 .i64 L (by omega) (by omega) w
  have HL : Hid _ := hL'
  have HH : Hid _ := hh'
  have HR : Hid _ := hrow
  clear hrow hL' hh'
  go_enter Yba.func3, Yba.ntmps3
  go_wp2
  rw [HL.out, HH.out]
  go_loopw [16, 17, 44] (fun _ _ i wr => ∃ (k : Nat) (cur : Array Value), k ≤ len0 ∧ i = .int .i64 k ∧ wr = w.alloc (.cells cur 26) ∧ cur.size = len0 ∧ (∀ j, j < len0 → ∃ y, cur[j]? = some (.int .u32 y)) ∧ (∀ j, j < k → cur[j]? = some (.int .u32 (zf j)))) (fun _ _ i _ => len0 - (intOf i).toNat)
  case atStart => exact ⟨0, _, Nat.zero_le _, rfl, rfl, size_madeCells _ _, fun j hj => ⟨0, by simp [madeCells, hj, Nat.mod_one]⟩, fun j hj => absurd hj (by omega)⟩
  case round =>
    obtain ⟨k, cur, hk, rfl, rfl, hcs, hall, hcur⟩ := hrel
    have HA : Hid _ := hall
    have HC : Hid _ := hcur
    clear hall hcur
    by_cases hlt : k < len0
    · obtain ⟨b, off, rfl, hb, hc⟩ := HR.out k hlt
      obtain ⟨y, hy⟩ := HA.out k hlt
      go_wp2
      go_roundw
      case rel => exact ⟨k + 1, cur.setIfInBounds k (.int .u32 (zf k)), by omega, by go_num, rfl, by simp [hcs], row_set hcs hlt HA.out HC.out⟩
      case measure => simp [intOf]; omega
    · have bf := before0 w cur (madeCells #[.int .u8 0] L) L h len0 true .nilIface zf (fun i hi => HC.out i (by omega))
      unfold bldr at bf
      have st := set_bad bf hlen slot ws (fun _ => Or.inl hs)
      have ST : Hid _ := st
      clear st bf 
      go_wp2_with fail
      refine Calls.mono ST.out ?_
      clear ST HA HC hmk1 hmk2 hcs hk hlt
      rintro e w1 ⟨rfl, ha, hse⟩
      have AR : Hid _ := args_row ha.below HR.out
      obtain ⟨hbl, c1, c2, c14, c15, c18, row, fr, fr2⟩ := ha
      have HB : Hid _ := hbl
      have RO : Hid _ := row
      clear hbl row fr fr2
      have es : (((w.alloc (.cells cur 26)).alloc (.cells (madeCells #[.int .u8 0] L) 5)).alloc (bldr w.heap.size L h len0 true .nilIface)).heap.size = w.heap.size + 1 + 1 + 1 := by simp
      unfold bldr at es
      rw [es] at hse c18
      clear es
      go_wp2
      go_loop [21, 22, 23, 118] (fun _ _ _ i => ∃ k : Nat, k ≤ len0 ∧ i = .int .i64 k) (fun _ _ _ i => len0 - (intOf i).toNat)
      case atStart => exact ⟨0, Nat.zero_le _, rfl⟩
      case round =>
        obtain ⟨m, hm, rfl⟩ := hrel
        by_cases hlt : m < len0
        · obtain ⟨b, off, rfl, hc⟩ := AR.out m hlt
          have hro := RO.out m hlt
          go_wp2
          go_round
          case rel => exact ⟨m + 1, by omega, by go_num⟩
          case measure => simp [intOf]; omega
        · have hta := assert27
          have heq := eql27
          go_wp2
          go_ret
          exact ⟨by simp, HB.out⟩

set_option maxRecDepth 100000 in
set_option maxHeartbeats 1000000 in
theorem neg1 (a0 : Option Addr) (len0 cap0 : Nat) (zf : Nat → Int) (a1 a2 : Int) (slot : Int) (w : World)
    (hlen : len0 ≤ 1024) (b1 : 0 ≤ a1 ∧ a1 ≤ 65535) (b2 : 0 ≤ a2 ∧ a2 ≤ 65535) (ws : -9223372036854775808 ≤ slot ∧ slot ≤ 9223372036854775807) (hs : slot < 0)
    (hrow : ∀ k, k < len0 → ∃ b off, a0 = some ⟨b, off, none⟩ ∧ b < w.heap.size ∧ w.cell? ⟨b, off + k, none⟩ = some (.int .u32 (zf k))) :
    Calls Yba.prog 3 #[.slice a0 len0 cap0, .int .u16 a1, .int .u16 a2, .bool true, .bool true, .int .i64 slot] w fun e w' => e = .returned (.bool true) ∧ Below w.heap.size w w' := by
  obtain ⟨L, hL, hL'⟩ : ∃ L : Nat, L ≤ 1024 ∧ a1 % 1025 = (L : Int) := ⟨(a1 % 1025).toNat, by omega, by omega⟩
  obtain ⟨h, hh, hh'⟩ : ∃ h : Nat, h ≤ L ∧ a2 % ((L : Int) + 1) = (h : Int) := by
    have h1 : 0 ≤ a2 % ((L : Int) + 1) := Int.emod_nonneg _ (by omega)
    have h2 : a2 % ((L : Int) + 1) < (L : Int) + 1 := Int.emod_lt_of_pos _ (by omega)
    exact ⟨(a2 % ((L : Int) + 1)).toNat, by omega, by omega⟩
  have hmk1 : ∀ w : World, (Instr.makeSlice 24 (.int .i64 (len0 : Int)) (.int .i64 (len0 : Int))).run Yba.prog w = .ok (.slice (some ⟨w.heap.size, 0, none⟩) len0 len0) (w.alloc (.cells (madeCells #[.int .u32 0] len0) 26)) := fun w =>
    run_make_row' (P := Yba.prog) 24 26 (.int .u32 0) 4 Yba.underlying24 Yba.info26 rfl .i64 .i64 len0 (by omega) (by omega) w
  have hmk2 : ∀ w : World, (Instr.makeSlice 29 (.int .i64 (L : Int)) (.int .i64 (L : Int))).run Yba.prog w = .ok (.slice (some ⟨w.heap.size, 0, none⟩) L L) (w.alloc (.cells (madeCells #[.int .u8 0] L) 5)) := fun w =>
    run_make_row' (P := Yba.prog) 29 5 (.int .u8 0) 1 Yba.underlying29 Yba.info5 rfl .i64 .i64 L (by omega) (by omega) w
  have HL : Hid _ := hL'
  have HH : Hid _ := hh'
  have HR : Hid _ := hrow
  clear hrow hL' hh'
  go_enter Yba.func3, Yba.ntmps3
  go_wp2
  rw [HL.out, HH.out]
  go_loopw [16, 17, 44] (fun _ _ i wr => ∃ (k : Nat) (cur : Array Value), k ≤ len0 ∧ i = .int .i64 k ∧ wr = w.alloc (.cells cur 26) ∧ cur.size = len0 ∧ (∀ j, j < len0 → ∃ y, cur[j]? = some (.int .u32 y)) ∧ (∀ j, j < k → cur[j]? = some (.int .u32 (zf j)))) (fun _ _ i _ => len0 - (intOf i).toNat)
  case atStart => exact ⟨0, _, Nat.zero_le _, rfl, rfl, size_madeCells _ _, fun j hj => ⟨0, by simp [madeCells, hj, Nat.mod_one]⟩, fun j hj => absurd hj (by omega)⟩
  case round =>
    obtain ⟨k, cur, hk, rfl, rfl, hcs, hall, hcur⟩ := hrel
    have HA : Hid _ := hall
    have HC : Hid _ := hcur
    clear hall hcur
    by_cases hlt : k < len0
    · obtain ⟨b, off, rfl, hb, hc⟩ := HR.out k hlt
      obtain ⟨y, hy⟩ := HA.out k hlt
      go_wp2
      go_roundw
      case rel => exact ⟨k + 1, cur.setIfInBounds k (.int .u32 (zf k)), by omega, by go_num, rfl, by simp [hcs], row_set hcs hlt HA.out HC.out⟩
      case measure => simp [intOf]; omega
    · have bf := before0 w cur (madeCells #[.int .u8 0] L) L h len0 true (.iface 27 (.pointer (some ⟨w.heap.size + 1 + 1 + 1, 0, none⟩))) zf (fun i hi => HC.out i (by omega))
      unfold bldr at bf
      have bf1 := bf.alloc (.cells #[.int .i64 (-7)] 40)
      have st := set_kept bf1 hlen slot ws (fun _ => Or.inl hs)
      have ST : Hid _ := st
      clear st bf bf1
      go_wp2_with fail
      refine Calls.mono ST.out ?_
      clear ST HA HC hmk1 hmk2 hcs hk hlt
      rintro e w1 ⟨rfl, ha⟩
      have AR : Hid _ := args_row ha.below HR.out
      obtain ⟨hbl, c1, c2, c14, c15, c18, row, fr, fr2⟩ := ha
      have HB : Hid _ := hbl
      have RO : Hid _ := row
      clear hbl row fr fr2
      go_wp2
      go_loop [21, 22, 23, 118] (fun _ _ _ i => ∃ k : Nat, k ≤ len0 ∧ i = .int .i64 k) (fun _ _ _ i => len0 - (intOf i).toNat)
      case atStart => exact ⟨0, Nat.zero_le _, rfl⟩
      case round =>
        obtain ⟨m, hm, rfl⟩ := hrel
        by_cases hlt : m < len0
        · obtain ⟨b, off, rfl, hc⟩ := AR.out m hlt
          have hro := RO.out m hlt
          go_wp2
          go_round
          case rel => exact ⟨m + 1, by omega, by go_num⟩
          case measure => simp [intOf]; omega
        · have hta := assert27
          have heq := eql27
          go_wp2
          go_ret
          exact ⟨by simp, HB.out⟩

set_option maxRecDepth 100000 in
set_option maxHeartbeats 1000000 in
theorem big0 (a0 : Option Addr) (len0 cap0 : Nat) (zf : Nat → Int) (a1 a2 : Int) (slot : Int) (w : World)
    (hlen : len0 ≤ 1024) (b1 : 0 ≤ a1 ∧ a1 ≤ 65535) (b2 : 0 ≤ a2 ∧ a2 ≤ 65535) (ws : -9223372036854775808 ≤ slot ∧ slot ≤ 9223372036854775807) (hs : (len0 : Int) ≤ slot)
    (hrow : ∀ k, k < len0 → ∃ b off, a0 = some ⟨b, off, none⟩ ∧ b < w.heap.size ∧ w.cell? ⟨b, off + k, none⟩ = some (.int .u32 (zf k))) :
    Calls Yba.prog 3 #[.slice a0 len0 cap0, .int .u16 a1, .int .u16 a2, .bool true, .bool false, .int .i64 slot] w fun e w' => e = .returned (.bool true) ∧ Below w.heap.size w w' := by
  obtain ⟨L, hL, hL'⟩ : ∃ L : Nat, L ≤ 1024 ∧ a1 % 1025 = (L : Int) := ⟨(a1 % 1025).toNat, by omega, by omega⟩
  obtain ⟨h, hh, hh'⟩ : ∃ h : Nat, h ≤ L ∧ a2 % ((L : Int) + 1) = (h : Int) := by
    have h1 : 0 ≤ a2 % ((L : Int) + 1) := Int.emod_nonneg _ (by omega)
    have h2 : a2 % ((L : Int) + 1) < (L : Int) + 1 := Int.emod_lt_of_pos _ (by omega)
    exact ⟨(a2 % ((L : Int) + 1)).toNat, by omega, by omega⟩
  have hmk1 : ∀ w : World, (Instr.makeSlice 24 (.int .i64 (len0 : Int)) (.int .i64 (len0 : Int))).run Yba.prog w = .ok (.slice (some ⟨w.heap.size, 0, none⟩) len0 len0) (w.alloc (.cells (madeCells #[.int .u32 0] len0) 26)) := fun w =>
    run_make_row' (P := Yba.prog) 24 26 (.int .u32 0) 4 Yba.underlying24 Yba.info26 rfl .i64 .i64 len0 (by omega) (by omega) w
  have hmk2 : ∀ w : World, (Instr.makeSlice 29 (.int .i64 (L : Int)) (.int .i64 (L : Int))).run Yba.prog w = .ok (.slice (some ⟨w.heap.size, 0, none⟩) L L) (w.alloc (.cells (madeCells #[.int .u8 0] L) 5)) := fun w =>
    run_make_row' (P := Yba.prog) 29 5 (.int .u8 0) 1 Yba.underlying29 Yba.info5 rfl .i64 .i64 L (by omega) (by omega) w
  have HL : Hid _ := hL'
  have HH : Hid _ := hh'
  have HR : Hid _ := hrow
  clear hrow hL' hh'
  have hd : decide (slot < (len0 : Int)) = false := by simp; omega
  have hd2 : decide ((0 : Int) ≤ slot) = true := by simp; omega
  go_enter Yba.func3, Yba.ntmps3
  go_wp2
  rw [HL.out, HH.out]
  go_loopw [16, 17, 44] (fun _ _ i wr => ∃ (k : Nat) (cur : Array Value), k ≤ len0 ∧ i = .int .i64 k ∧ wr = w.alloc (.cells cur 26) ∧ cur.size = len0 ∧ (∀ j, j < len0 → ∃ y, cur[j]? = some (.int .u32 y)) ∧ (∀ j, j < k → cur[j]? = some (.int .u32 (zf j)))) (fun _ _ i _ => len0 - (intOf i).toNat)
  case atStart => exact ⟨0, _, Nat.zero_le _, rfl, rfl, size_madeCells _ _, fun j hj => ⟨0, by simp [madeCells, hj, Nat.mod_one]⟩, fun j hj => absurd hj (by omega)⟩
  case round =>
    obtain ⟨k, cur, hk, rfl, rfl, hcs, hall, hcur⟩ := hrel
    have HA : Hid _ := hall
    have HC : Hid _ := hcur
    clear hall hcur
    by_cases hlt : k < len0
    · obtain ⟨b, off, rfl, hb, hc⟩ := HR.out k hlt
      obtain ⟨y, hy⟩ := HA.out k hlt
      go_wp2
      go_roundw
      case rel => exact ⟨k + 1, cur.setIfInBounds k (.int .u32 (zf k)), by omega, by go_num, rfl, by simp [hcs], row_set hcs hlt HA.out HC.out⟩
      case measure => simp [intOf]; omega
    · have bf := before0 w cur (madeCells #[.int .u8 0] L) L h len0 true .nilIface zf (fun i hi => HC.out i (by omega))
      unfold bldr at bf
      have st := set_bad bf hlen slot ws (fun _ => Or.inr hs)
      have ST : Hid _ := st
      clear st bf 
      go_wp2_with fail
      refine Calls.mono ST.out ?_
      clear ST HA HC hmk1 hmk2 hcs hk hlt
      rintro e w1 ⟨rfl, ha, hse⟩
      have AR : Hid _ := args_row ha.below HR.out
      obtain ⟨hbl, c1, c2, c14, c15, c18, row, fr, fr2⟩ := ha
      have HB : Hid _ := hbl
      have RO : Hid _ := row
      clear hbl row fr fr2
      have es : (((w.alloc (.cells cur 26)).alloc (.cells (madeCells #[.int .u8 0] L) 5)).alloc (bldr w.heap.size L h len0 true .nilIface)).heap.size = w.heap.size + 1 + 1 + 1 := by simp
      unfold bldr at es
      rw [es] at hse c18
      clear es
      go_wp2
      go_loop [21, 22, 23, 118] (fun _ _ _ i => ∃ k : Nat, k ≤ len0 ∧ i = .int .i64 k) (fun _ _ _ i => len0 - (intOf i).toNat)
      case atStart => exact ⟨0, Nat.zero_le _, rfl⟩
      case round =>
        obtain ⟨m, hm, rfl⟩ := hrel
        by_cases hlt : m < len0
        · obtain ⟨b, off, rfl, hc⟩ := AR.out m hlt
          have hro := RO.out m hlt
          go_wp2
          go_round
          case rel => exact ⟨m + 1, by omega, by go_num⟩
          case measure => simp [intOf]; omega
        · have hta := assert27
          have heq := eql27
          go_wp2
          go_ret
          exact ⟨by simp, HB.out⟩

set_option maxRecDepth 100000 in
set_option maxHeartbeats 1000000 in
theorem big1 (a0 : Option Addr) (len0 cap0 : Nat) (zf : Nat → Int) (a1 a2 : Int) (slot : Int) (w : World)
    (hlen : len0 ≤ 1024) (b1 : 0 ≤ a1 ∧ a1 ≤ 65535) (b2 : 0 ≤ a2 ∧ a2 ≤ 65535) (ws : -9223372036854775808 ≤ slot ∧ slot ≤ 9223372036854775807) (hs : (len0 : Int) ≤ slot)
    (hrow : ∀ k, k < len0 → ∃ b off, a0 = some ⟨b, off, none⟩ ∧ b < w.heap.size ∧ w.cell? ⟨b, off + k, none⟩ = some (.int .u32 (zf k))) :
    Calls Yba.prog 3 #[.slice a0 len0 cap0, .int .u16 a1, .int .u16 a2, .bool true, .bool true, .int .i64 slot] w fun e w' => e = .returned (.bool true) ∧ Below w.heap.size w w' := by
  obtain ⟨L, hL, hL'⟩ : ∃ L : Nat, L ≤ 1024 ∧ a1 % 1025 = (L : Int) := ⟨(a1 % 1025).toNat, by omega, by omega⟩
  obtain ⟨h, hh, hh'⟩ : ∃ h : Nat, h ≤ L ∧ a2 % ((L : Int) + 1) = (h : Int) := by
    have h1 : 0 ≤ a2 % ((L : Int) + 1) := Int.emod_nonneg _ (by omega)
    have h2 : a2 % ((L : Int) + 1) < (L : Int) + 1 := Int.emod_lt_of_pos _ (by omega)
    exact ⟨(a2 % ((L : Int) + 1)).toNat, by omega, by omega⟩
  have hmk1 : ∀ w : World, (Instr.makeSlice 24 (.int .i64 (len0 : Int)) (.int .i64 (len0 : Int))).run Yba.prog w = .ok (.slice (some ⟨w.heap.size, 0, none⟩) len0 len0) (w.alloc (.cells (madeCells #[.int .u32 0] len0) 26)) := fun w =>
    run_make_row' (P := Yba.prog) 24 26 (.int .u32 0) 4 Yba.underlying24 Yba.info26 rfl .i64 .i64 len0 (by omega) (by omega) w
  have hmk2 : ∀ w : World, (Instr.makeSlice 29 (.int .i64 (L : Int)) (.int .i64 (L : Int))).run Yba.prog w = .ok (.slice (some ⟨w.heap.size, 0, none⟩) L L) (w.alloc (.cells (madeCells #[.int .u8 0] L) 5)) := fun w =>
    run_make_row' (P := Yba.prog) 29 5 (.int .u8 0) 1 Yba.underlying29 Yba.info5 rfl .i64 .i64 L (by omega) (by omega) w
  have HL : Hid _ := hL'
  have HH : Hid _ := hh'
  have HR : Hid _ := hrow
  clear hrow hL' hh'
  have hd : decide (slot < (len0 : Int)) = false := by simp; omega
  have hd2 : decide ((0 : Int) ≤ slot) = true := by simp; omega
  go_enter Yba.func3, Yba.ntmps3
  go_wp2
  rw [HL.out, HH.out]
  go_loopw [16, 17, 44] (fun _ _ i wr => ∃ (k : Nat) (cur : Array Value), k ≤ len0 ∧ i = .int .i64 k ∧ wr = w.alloc (.cells cur 26) ∧ cur.size = len0 ∧ (∀ j, j < len0 → ∃ y, cur[j]? = some (.int .u32 y)) ∧ (∀ j, j < k → cur[j]? = some (.int .u32 (zf j)))) (fun _ _ i _ => len0 - (intOf i).toNat)
  case atStart => exact ⟨0, _, Nat.zero_le _, rfl, rfl, size_madeCells _ _, fun j hj => ⟨0, by simp [madeCells, hj, Nat.mod_one]⟩, fun j hj => absurd hj (by omega)⟩
  case round =>
    obtain ⟨k, cur, hk, rfl, rfl, hcs, hall, hcur⟩ := hrel
    have HA : Hid _ := hall
    have HC : Hid _ := hcur
    clear hall hcur
    by_cases hlt : k < len0
    · obtain ⟨b, off, rfl, hb, hc⟩ := HR.out k hlt
      obtain ⟨y, hy⟩ := HA.out k hlt
      go_wp2
      go_roundw
      case rel => exact ⟨k + 1, cur.setIfInBounds k (.int .u32 (zf k)), by omega, by go_num, rfl, by simp [hcs], row_set hcs hlt HA.out HC.out⟩
      case measure => simp [intOf]; omega
    · have bf := before0 w cur (madeCells #[.int .u8 0] L) L h len0 true (.iface 27 (.pointer (some ⟨w.heap.size + 1 + 1 + 1, 0, none⟩))) zf (fun i hi => HC.out i (by omega))
      unfold bldr at bf
      have bf1 := bf.alloc (.cells #[.int .i64 (-7)] 40)
      have st := set_kept bf1 hlen slot ws (fun _ => Or.inr hs)
      have ST : Hid _ := st
      clear st bf bf1
      go_wp2_with fail
      refine Calls.mono ST.out ?_
      clear ST HA HC hmk1 hmk2 hcs hk hlt
      rintro e w1 ⟨rfl, ha⟩
      have AR : Hid _ := args_row ha.below HR.out
      obtain ⟨hbl, c1, c2, c14, c15, c18, row, fr, fr2⟩ := ha
      have HB : Hid _ := hbl
      have RO : Hid _ := row
      clear hbl row fr fr2
      go_wp2
      go_loop [21, 22, 23, 118] (fun _ _ _ i => ∃ k : Nat, k ≤ len0 ∧ i = .int .i64 k) (fun _ _ _ i => len0 - (intOf i).toNat)
      case atStart => exact ⟨0, Nat.zero_le _, rfl⟩
      case round =>
        obtain ⟨m, hm, rfl⟩ := hrel
        by_cases hlt : m < len0
        · obtain ⟨b, off, rfl, hc⟩ := AR.out m hlt
          have hro := RO.out m hlt
          go_wp2
          go_round
          case rel => exact ⟨m + 1, by omega, by go_num⟩
          case measure => simp [intOf]; omega
        · have hta := assert27
          have heq := eql27
          go_wp2
          go_ret
          exact ⟨by simp, HB.out⟩

set_option maxRecDepth 100000 in
set_option maxHeartbeats 1000000 in
theorem any0 (a0 : Option Addr) (len0 cap0 : Nat) (zf : Nat → Int) (a1 a2 : Int) (slot : Int) (w : World)
    (hlen : len0 ≤ 1024) (b1 : 0 ≤ a1 ∧ a1 ≤ 65535) (b2 : 0 ≤ a2 ∧ a2 ≤ 65535) (ws : -9223372036854775808 ≤ slot ∧ slot ≤ 9223372036854775807)
    (hrow : ∀ k, k < len0 → ∃ b off, a0 = some ⟨b, off, none⟩ ∧ b < w.heap.size ∧ w.cell? ⟨b, off + k, none⟩ = some (.int .u32 (zf k))) :
    Calls Yba.prog 3 #[.slice a0 len0 cap0, .int .u16 a1, .int .u16 a2, .bool false, .bool false, .int .i64 slot] w fun e w' => e = .returned (.bool true) ∧ Below w.heap.size w w' := by
  obtain ⟨L, hL, hL'⟩ : ∃ L : Nat, L ≤ 1024 ∧ a1 % 1025 = (L : Int) := ⟨(a1 % 1025).toNat, by omega, by omega⟩
  obtain ⟨h, hh, hh'⟩ : ∃ h : Nat, h ≤ L ∧ a2 % ((L : Int) + 1) = (h : Int) := by
    have h1 : 0 ≤ a2 % ((L : Int) + 1) := Int.emod_nonneg _ (by omega)
    have h2 : a2 % ((L : Int) + 1) < (L : Int) + 1 := Int.emod_lt_of_pos _ (by omega)
    exact ⟨(a2 % ((L : Int) + 1)).toNat, by omega, by omega⟩
  have hmk1 : ∀ w : World, (Instr.makeSlice 24 (.int .i64 (len0 : Int)) (.int .i64 (len0 : Int))).run Yba.prog w = .ok (.slice (some ⟨w.heap.size, 0, none⟩) len0 len0) (w.alloc (.cells (madeCells #[.int .u32 0] len0) 26)) := fun w =>
    run_make_row' (P := Yba.prog) 24 26 (.int .u32 0) 4 Yba.underlying24 Yba.info26 rfl .i64 .i64 len0 (by omega) (by omega) w
  have hmk2 : ∀ w : World, (Instr.makeSlice 29 (.int .i64 (L : Int)) (.int .i64 (L : Int))).run Yba.prog w = .ok (.slice (some ⟨w.heap.size, 0, none⟩) L L) (w.alloc (.cells (madeCells #[.int .u8 0] L) 5)) := fun w =>
    run_make_row' (P := Yba.prog) 29 5 (.int .u8 0) 1 Yba.underlying29 Yba.info5 rfl .i64 .i64 L (by omega) (by omega) w
  have HL : Hid _ := hL'
  have HH : Hid _ := hh'
  have HR : Hid _ := hrow
  clear hrow hL' hh'
  go_enter Yba.func3, Yba.ntmps3
  go_wp2
  rw [HL.out, HH.out]
  go_loopw [16, 17, 44] (fun _ _ i wr => ∃ (k : Nat) (cur : Array Value), k ≤ len0 ∧ i = .int .i64 k ∧ wr = w.alloc (.cells cur 26) ∧ cur.size = len0 ∧ (∀ j, j < len0 → ∃ y, cur[j]? = some (.int .u32 y)) ∧ (∀ j, j < k → cur[j]? = some (.int .u32 (zf j)))) (fun _ _ i _ => len0 - (intOf i).toNat)
  case atStart => exact ⟨0, _, Nat.zero_le _, rfl, rfl, size_madeCells _ _, fun j hj => ⟨0, by simp [madeCells, hj, Nat.mod_one]⟩, fun j hj => absurd hj (by omega)⟩
  case round =>
    obtain ⟨k, cur, hk, rfl, rfl, hcs, hall, hcur⟩ := hrel
    have HA : Hid _ := hall
    have HC : Hid _ := hcur
    clear hall hcur
    by_cases hlt : k < len0
    · obtain ⟨b, off, rfl, hb, hc⟩ := HR.out k hlt
      obtain ⟨y, hy⟩ := HA.out k hlt
      go_wp2
      go_roundw
      case rel => exact ⟨k + 1, cur.setIfInBounds k (.int .u32 (zf k)), by omega, by go_num, rfl, by simp [hcs], row_set hcs hlt HA.out HC.out⟩
      case measure => simp [intOf]; omega
    · have bf := before0 w cur (madeCells #[.int .u8 0] L) L h len0 false .nilIface zf (fun i hi => HC.out i (by omega))
      unfold bldr at bf
      have st := set_bad bf hlen slot ws (fun e => by cases e)
      have ST : Hid _ := st
      clear st bf 
      go_wp2_with fail
      refine Calls.mono ST.out ?_
      clear ST HA HC hmk1 hmk2 hcs hk hlt
      rintro e w1 ⟨rfl, ha, hse⟩
      have AR : Hid _ := args_row ha.below HR.out
      obtain ⟨hbl, c1, c2, c14, c15, c18, row, fr, fr2⟩ := ha
      have HB : Hid _ := hbl
      have RO : Hid _ := row
      clear hbl row fr fr2
      have es : (((w.alloc (.cells cur 26)).alloc (.cells (madeCells #[.int .u8 0] L) 5)).alloc (bldr w.heap.size L h len0 false .nilIface)).heap.size = w.heap.size + 1 + 1 + 1 := by simp
      unfold bldr at es
      rw [es] at hse c18
      clear es
      go_wp2
      go_loop [21, 22, 23, 118] (fun _ _ _ i => ∃ k : Nat, k ≤ len0 ∧ i = .int .i64 k) (fun _ _ _ i => len0 - (intOf i).toNat)
      case atStart => exact ⟨0, Nat.zero_le _, rfl⟩
      case round =>
        obtain ⟨m, hm, rfl⟩ := hrel
        by_cases hlt : m < len0
        · obtain ⟨b, off, rfl, hc⟩ := AR.out m hlt
          have hro := RO.out m hlt
          go_wp2
          go_round
          case rel => exact ⟨m + 1, by omega, by go_num⟩
          case measure => simp [intOf]; omega
        · have hta := assert27
          have heq := eql27
          go_wp2
          go_ret
          exact ⟨by simp, HB.out⟩

set_option maxRecDepth 100000 in
set_option maxHeartbeats 1000000 in
theorem any1 (a0 : Option Addr) (len0 cap0 : Nat) (zf : Nat → Int) (a1 a2 : Int) (slot : Int) (w : World)
    (hlen : len0 ≤ 1024) (b1 : 0 ≤ a1 ∧ a1 ≤ 65535) (b2 : 0 ≤ a2 ∧ a2 ≤ 65535) (ws : -9223372036854775808 ≤ slot ∧ slot ≤ 9223372036854775807)
    (hrow : ∀ k, k < len0 → ∃ b off, a0 = some ⟨b, off, none⟩ ∧ b < w.heap.size ∧ w.cell? ⟨b, off + k, none⟩ = some (.int .u32 (zf k))) :
    Calls Yba.prog 3 #[.slice a0 len0 cap0, .int .u16 a1, .int .u16 a2, .bool false, .bool true, .int .i64 slot] w fun e w' => e = .returned (.bool true) ∧ Below w.heap.size w w' := by
  obtain ⟨L, hL, hL'⟩ : ∃ L : Nat, L ≤ 1024 ∧ a1 % 1025 = (L : Int) := ⟨(a1 % 1025).toNat, by omega, by omega⟩
  obtain ⟨h, hh, hh'⟩ : ∃ h : Nat, h ≤ L ∧ a2 % ((L : Int) + 1) = (h : Int) := by
    have h1 : 0 ≤ a2 % ((L : Int) + 1) := Int.emod_nonneg _ (by omega)
    have h2 : a2 % ((L : Int) + 1) < (L : Int) + 1 := Int.emod_lt_of_pos _ (by omega)
    exact ⟨(a2 % ((L : Int) + 1)).toNat, by omega, by omega⟩
  have hmk1 : ∀ w : World, (Instr.makeSlice 24 (.int .i64 (len0 : Int)) (.int .i64 (len0 : Int))).run Yba.prog w = .ok (.slice (some ⟨w.heap.size, 0, none⟩) len0 len0) (w.alloc (.cells (madeCells #[.int .u32 0] len0) 26)) := fun w =>
    run_make_row' (P := Yba.prog) 24 26 (.int .u32 0) 4 Yba.underlying24 Yba.info26 rfl .i64 .i64 len0 (by omega) (by omega) w
  have hmk2 : ∀ w : World, (Instr.makeSlice 29 (.int .i64 (L : Int)) (.int .i64 (L : Int))).run Yba.prog w = .ok (.slice (some ⟨w.heap.size, 0, none⟩) L L) (w.alloc (.cells (madeCells #[.int .u8 0] L) 5)) := fun w =>
    run_make_row' (P := Yba.prog) 29 5 (.int .u8 0) 1 Yba.underlying29 Yba.info5 rfl .i64 .i64 L (by omega) (by omega) w
  have HL : Hid _ := hL'
  have HH : Hid _ := hh'
  have HR : Hid _ := hrow
  clear hrow hL' hh'
  go_enter Yba.func3, Yba.ntmps3
  go_wp2
  rw [HL.out, HH.out]
  go_loopw [16, 17, 44] (fun _ _ i wr => ∃ (k : Nat) (cur : Array Value), k ≤ len0 ∧ i = .int .i64 k ∧ wr = w.alloc (.cells cur 26) ∧ cur.size = len0 ∧ (∀ j, j < len0 → ∃ y, cur[j]? = some (.int .u32 y)) ∧ (∀ j, j < k → cur[j]? = some (.int .u32 (zf j)))) (fun _ _ i _ => len0 - (intOf i).toNat)
  case atStart => exact ⟨0, _, Nat.zero_le _, rfl, rfl, size_madeCells _ _, fun j hj => ⟨0, by simp [madeCells, hj, Nat.mod_one]⟩, fun j hj => absurd hj (by omega)⟩
  case round =>
    obtain ⟨k, cur, hk, rfl, rfl, hcs, hall, hcur⟩ := hrel
    have HA : Hid _ := hall
    have HC : Hid _ := hcur
    clear hall hcur
    by_cases hlt : k < len0
    · obtain ⟨b, off, rfl, hb, hc⟩ := HR.out k hlt
      obtain ⟨y, hy⟩ := HA.out k hlt
      go_wp2
      go_roundw
      case rel => exact ⟨k + 1, cur.setIfInBounds k (.int .u32 (zf k)), by omega, by go_num, rfl, by simp [hcs], row_set hcs hlt HA.out HC.out⟩
      case measure => simp [intOf]; omega
    · have bf := before0 w cur (madeCells #[.int .u8 0] L) L h len0 false (.iface 27 (.pointer (some ⟨w.heap.size + 1 + 1 + 1, 0, none⟩))) zf (fun i hi => HC.out i (by omega))
      unfold bldr at bf
      have bf1 := bf.alloc (.cells #[.int .i64 (-7)] 40)
      have st := set_kept bf1 hlen slot ws (fun e => by cases e)
      have ST : Hid _ := st
      clear st bf bf1
      go_wp2_with fail
      refine Calls.mono ST.out ?_
      clear ST HA HC hmk1 hmk2 hcs hk hlt
      rintro e w1 ⟨rfl, ha⟩
      have AR : Hid _ := args_row ha.below HR.out
      obtain ⟨hbl, c1, c2, c14, c15, c18, row, fr, fr2⟩ := ha
      have HB : Hid _ := hbl
      have RO : Hid _ := row
      clear hbl row fr fr2
      go_wp2
      go_loop [21, 22, 23, 118] (fun _ _ _ i => ∃ k : Nat, k ≤ len0 ∧ i = .int .i64 k) (fun _ _ _ i => len0 - (intOf i).toNat)
      case atStart => exact ⟨0, Nat.zero_le _, rfl⟩
      case round =>
        obtain ⟨m, hm, rfl⟩ := hrel
        by_cases hlt : m < len0
        · obtain ⟨b, off, rfl, hc⟩ := AR.out m hlt
          have hro := RO.out m hlt
          go_wp2
          go_round
          case rel => exact ⟨m + 1, by omega, by go_num⟩
          case measure => simp [intOf]; omega
        · have hta := assert27
          have heq := eql27
          go_wp2
          go_ret
          exact ⟨by simp, HB.out⟩

/-- WHAT THE WALK IS TOLD OF A SLICE OF INTEGERS THAT CAME IN: it is nil; or it leads to a row of 'cap' cells, the numbers 'zs' (the first 'len' are its elements, the rest its spare room), each fitting its kind. -/
def IsRow (k : IntKind) (w : World) (a : Option Addr) (len cap : Nat) (zs : List Int) : Prop :=
  (a = none ∧ len = 0 ∧ cap = 0 ∧ zs = []) ∨
  ∃ x, a = some x ∧ len ≤ cap ∧ cap ≤ maxLen ∧ zs.length = cap ∧ (∀ i, i < zs.length → w.cell? (x.add i) = some (.int k (zs.getD i 0))) ∧ ∀ n ∈ zs, (Lit.int k n).wf = true

set_option maxRecDepth 100000 in
theorem long (a0 : Option Addr) (len0 cap0 : Nat) (a1 a2 : Int) (a3 a4 : Bool) (a5 : Int) (w : World) (h : 1024 < len0) (hm : len0 ≤ maxLen) :
    Calls Yba.prog 3 #[.slice a0 len0 cap0, .int .u16 a1, .int .u16 a2, .bool a3, .bool a4, .int .i64 a5] w fun e w' => e = .returned (.bool true) ∧ Below w.heap.size w w' := by
  unfold maxLen at hm
  go_enter Yba.func3, Yba.ntmps3
  go_wp2
  go_ret
  exact ⟨rfl, Below.refl _ _⟩

theorem view {k : IntKind} {w : World} {a : Option Addr} {len cap : Nat} {zs : List Int} (h : IsRow k w a len cap zs) :
    len ≤ maxLen ∧ ∀ i, i < len → ∃ b off, a = some ⟨b, off, none⟩ ∧ b < w.heap.size ∧ w.cell? ⟨b, off + i, none⟩ = some (.int k (zs.getD i 0)) := by
  rcases h with ⟨_, rfl, _, _⟩ | ⟨x, rfl, h1, h2, h3, h4, _⟩
  · exact ⟨Nat.zero_le _, fun i hi => absurd hi (Nat.not_lt_zero _)⟩
  · refine ⟨Nat.le_trans h1 h2, fun i hi => ?_⟩
    obtain ⟨b, off, rfl, hc⟩ := ints_at h4 (by omega)
    have hci := hc i (by omega)
    exact ⟨b, off, rfl, World.block_lt_of_cell? _ _ hci, hci⟩

theorem walk (a0 : Option Addr) (len0 cap0 : Nat) (z0 : List Int) (a1 : Int) (a2 : Int) (a3 : Bool) (a4 : Bool) (a5 : Int) (w : World) (w0 : IsRow .u32 w a0 len0 cap0 z0) (w1 : (Lit.int .u16 a1).wf = true) (w2 : (Lit.int .u16 a2).wf = true) (w5 : (Lit.int .i64 a5).wf = true) :
    Calls Yba.prog 3 #[.slice a0 len0 cap0, .int .u16 a1, .int .u16 a2, .bool a3, .bool a4, .int .i64 a5] w fun e w' => e = .returned (.bool true) ∧ Below w.heap.size w w' := by
  obtain ⟨hm, hrow⟩ := view w0
  by_cases hlen : len0 ≤ 1024
  · have b1 := bounds_u16 w1
    have b2 := bounds_u16 w2
    have b5 := bounds_i64 w5
    generalize hz : (fun i => z0.getD i 0) = zf
    have hrow' : ∀ k, k < len0 → ∃ b off, a0 = some ⟨b, off, none⟩ ∧ b < w.heap.size ∧ w.cell? ⟨b, off + k, none⟩ = some (.int .u32 (zf k)) := by
      subst hz; exact hrow
    cases a3
    · cases a4
      · exact any0 a0 len0 cap0 zf a1 a2 a5 w hlen b1 b2 b5 hrow'
      · exact any1 a0 len0 cap0 zf a1 a2 a5 w hlen b1 b2 b5 hrow'
    · by_cases hn : a5 < 0
      · cases a4
        · exact neg0 a0 len0 cap0 zf a1 a2 a5 w hlen b1 b2 b5 hn hrow'
        · exact neg1 a0 len0 cap0 zf a1 a2 a5 w hlen b1 b2 b5 hn hrow'
      · by_cases hb : (len0 : Int) ≤ a5
        · cases a4
          · exact big0 a0 len0 cap0 zf a1 a2 a5 w hlen b1 b2 b5 hb hrow'
          · exact big1 a0 len0 cap0 zf a1 a2 a5 w hlen b1 b2 b5 hb hrow'
        · obtain ⟨slot, rfl⟩ : ∃ s : Nat, a5 = s := ⟨a5.toNat, by omega⟩
          cases a4
          · exact ok0 a0 len0 cap0 zf a1 a2 slot w hlen b1 b2 (by omega) hrow'
          · exact ok1 a0 len0 cap0 zf a1 a2 slot w hlen b1 b2 (by omega) hrow'
  · exact long a0 len0 cap0 a1 a2 a3 a4 a5 w (by omega) hm

end Go.Proofs.Ybulkeoy.lawS0271ASetField
