import Derived.Test.YbulkeokWalks
import Derived.RegionTactic
import Derived.BigRegion
namespace Go.Proofs.Ybulkeok
open Go.RowKit

def sc (s : ByteArray) (off line ls : Int) (last : Value) (il ic : Int) : Obj :=
  .cells #[.string s, .int .i64 off, .int .i64 line, .int .i64 ls, last, .int .i64 il, .int .i64 ic] 30

set_option maxHeartbeats 400000 in
theorem indent_cached (s : ByteArray) (off line ls : Int) (last : Value) (il ic : Int) (h : il = line) (w : World) (m : Nat) :
    Calls Yba.prog 6 #[.pointer (some ⟨w.heap.size, 0, none⟩)] ((w.alloc (sc s off line ls last il ic)).drewN m) fun e w' => e = .returned (.int .i64 ic) ∧ ∃ n, w' = (w.alloc (sc s off line ls last il ic)).drewN n := by
  subst h
  unfold sc
  go_enter Yba.func6, Yba.ntmps6
  go_wp2
  go_quiet (fail)
  go_wp2
  go_ret
  exact ⟨rfl, _, rfl⟩

theorem sc_set (w : World) (s : ByteArray) (off line ls : Int) (last : Value) (il ic a b : Int) (n : Nat) :
    (((w.alloc (.cells #[.string s, .int .i64 off, .int .i64 line, .int .i64 ls, last, .int .i64 il, .int .i64 ic] 30)).drewN n).setCell ⟨w.heap.size, 5, none⟩ (.int .i64 a)).setCell ⟨w.heap.size, 6, none⟩ (.int .i64 b)
      = (w.alloc (.cells #[.string s, .int .i64 off, .int .i64 line, .int .i64 ls, last, .int .i64 a, .int .i64 b] 30)).drewN n := by
  show ((((w.alloc (.cells #[.string s, .int .i64 off, .int .i64 line, .int .i64 ls, last, .int .i64 il, .int .i64 ic] 30)).setCell ⟨w.heap.size, 5, none⟩ (.int .i64 a)).setCell ⟨w.heap.size, 6, none⟩ (.int .i64 b))).drewN n = _
  rw [World.setCell_alloc_at _ _ _ _ _ rfl, World.setCell_alloc_at _ _ _ _ _ rfl]
  rfl

set_option maxHeartbeats 400000 in
theorem indent_fresh (s : ByteArray) (off line : Int) (st : Nat) (hst : st ≤ s.size) (hs : s.size ≤ 1024) (last : Value) (il ic : Int) (h : ¬ il = line) (w : World) (m : Nat) :
    Calls Yba.prog 6 #[.pointer (some ⟨w.heap.size, 0, none⟩)] ((w.alloc (sc s off line st last il ic)).drewN m) fun e w' => e = .returned (.int .i64 ((blanks (s.data.toList.drop st) : Nat) + 1)) ∧ ∃ n, w' = (w.alloc (sc s off line st last line ((blanks (s.data.toList.drop st) : Nat) + 1))).drewN n := by
  have hne : (il != line) = true := by simp [h]
  clear h
  unfold sc
  go_enter Yba.func6, Yba.ntmps6
  go_wp2
  go_quiet (fail)
  go_wp2
  go_loop [3] (fun i => ∃ j : Nat, st ≤ j ∧ j ≤ s.size ∧ i = .int .i64 j ∧ Hid (st + blanks (s.data.toList.drop st) = j + blanks (s.data.toList.drop j))) (fun i => s.size - (intOf i).toNat)
  case atStart => exact ⟨st, by omega, by omega, rfl, by simp [Hid]⟩
  case round =>
    obtain ⟨j, hj, hj', rfl, hH⟩ := hrel
    by_cases hlt : j < s.size
    · by_cases h1 : (s[j].toNat : Int) = 32
      · have HG : Hid (blanks (s.data.toList.drop j) = blanks (s.data.toList.drop (j + 1)) + 1) := blanks_go s j hlt (Or.inl h1)
        have h1' : ((s[j].toNat : Int) == 32) = true := by simp [h1]
        clear h1
        go_wp2
        go_round
        case rel => exact ⟨j + 1, by omega, by omega, by go_num, by have := HG.out; have := hH.out; simp only [Hid]; omega⟩
        case measure => simp [intOf]; omega
      · have h1' : ((s[j].toNat : Int) == 32) = false := by simp [h1]
        by_cases h2 : (s[j].toNat : Int) = 9
        · have HG : Hid (blanks (s.data.toList.drop j) = blanks (s.data.toList.drop (j + 1)) + 1) := blanks_go s j hlt (Or.inr h2)
          have h2' : ((s[j].toNat : Int) == 9) = true := by simp [h2]
          clear h1 h2
          go_wp2
          go_round
          case rel => exact ⟨j + 1, by omega, by omega, by go_num, by have := HG.out; have := hH.out; simp only [Hid]; omega⟩
          case measure => simp [intOf]; omega
        · have h2' : ((s[j].toNat : Int) == 9) = false := by simp [h2]
          have HG : Hid (blanks (s.data.toList.drop j) = 0) := blanks_stop s j hlt h1 h2
          clear h1 h2
          go_wp2
          go_region
          go_wp2
          go_ret
          exact ⟨ret_int (by have := HG.out; have := hH.out; omega), _, by rw [show ((blanks (s.data.toList.drop st) : Nat) : Int) = (j : Int) - (st : Int) from by have := HG.out; have := hH.out; omega]; exact sc_set _ _ _ _ _ _ _ _ _ _ _⟩
    · have HG : Hid (blanks (s.data.toList.drop j) = 0) := blanks_end s j (by omega)
      go_wp2
      go_region
      go_wp2
      go_ret
      exact ⟨ret_int (by have := HG.out; have := hH.out; omega), _, by rw [show ((blanks (s.data.toList.drop st) : Nat) : Int) = (j : Int) - (st : Int) from by have := HG.out; have := hH.out; omega]; exact sc_set _ _ _ _ _ _ _ _ _ _ _⟩
end Go.Proofs.Ybulkeok
