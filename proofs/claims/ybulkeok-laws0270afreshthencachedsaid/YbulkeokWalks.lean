import Derived.Test.YbulkeokRows
import Derived.WalkKit
import Derived.WalkSpells
import Derived.WalkLawsBesides
import Derived.Deep.QuietTactic
import Derived.BigQuiet
import Derived.Outline
namespace Go.Proofs.Ybulkeok
open Go.RowKit

def blank (c : UInt8) : Bool := c == 32 || c == 9
def blanks (l : List UInt8) : Nat := (l.takeWhile blank).length

theorem blanks_le (l : List UInt8) : blanks l ≤ l.length := by
  unfold blanks; exact (List.takeWhile_prefix blank).length_le

theorem blanks_cons (l : List UInt8) (c : UInt8) : blanks (c :: l) = if blank c then blanks l + 1 else 0 := by
  unfold blanks
  by_cases h : blank c = true <;> simp [h]

theorem drop_cons (s : ByteArray) (k : Nat) (h : k < s.size) : s.data.toList.drop k = s[k] :: s.data.toList.drop (k + 1) := by
  rw [List.drop_eq_getElem_cons (by simpa using h)]; rfl


theorem blank_yes {c : UInt8} (h : (c.toNat : Int) = 32 ∨ (c.toNat : Int) = 9) : blank c = true := by
  unfold blank
  rcases h with h | h
  · have : c = 32 := UInt8.toNat_inj.1 (by show c.toNat = 32; omega)
    rw [this]; rfl
  · have : c = 9 := UInt8.toNat_inj.1 (by show c.toNat = 9; omega)
    rw [this]; rfl
theorem blank_no {c : UInt8} (h : ¬ (c.toNat : Int) = 32) (h' : ¬ (c.toNat : Int) = 9) : blank c = false := by
  unfold blank
  have a : ¬ c = 32 := fun e => h (by rw [e]; rfl)
  have b : ¬ c = 9 := fun e => h' (by rw [e]; rfl)
  simp [a, b]
theorem blanks_stop (s : ByteArray) (k : Nat) (h : k < s.size) (h1 : ¬ (s[k].toNat : Int) = 32) (h2 : ¬ (s[k].toNat : Int) = 9) : blanks (s.data.toList.drop k) = 0 := by
  rw [drop_cons s k h, blanks_cons, blank_no h1 h2]; rfl
theorem blanks_go (s : ByteArray) (k : Nat) (h : k < s.size) (hb : (s[k].toNat : Int) = 32 ∨ (s[k].toNat : Int) = 9) : blanks (s.data.toList.drop k) = blanks (s.data.toList.drop (k + 1)) + 1 := by
  rw [drop_cons s k h, blanks_cons, blank_yes hb]; rfl
theorem blanks_end (s : ByteArray) (k : Nat) (h : s.size ≤ k) : blanks (s.data.toList.drop k) = 0 := by
  rw [List.drop_of_length_le (by simpa using h)]; rfl
theorem blanks_ub (s : ByteArray) (k : Nat) (h : k ≤ s.size) : blanks (s.data.toList.drop k) + k ≤ s.size := by
  have := blanks_le (s.data.toList.drop k)
  simp at this; omega

theorem ret_int {k : IntKind} {a b : Int} (h : a = b) : Ending.returned (.int k a) = .returned (.int k b) := by rw [h]

set_option maxHeartbeats 400000 in
theorem blanks_calls (s : ByteArray) (st : Nat) (hst : st ≤ s.size) (hs : s.size ≤ 1024) (w : World) :
    Calls Yba.prog 5 #[.string s, .int .i64 st] w fun e w' => e = .returned (.int .i64 (blanks (s.data.toList.drop st) : Nat)) ∧ w' = w := by
  go_enter Yba.func5, Yba.ntmps5
  go_wp2
  go_loop [5, 6] (fun n i => ∃ k j : Nat, k ≤ 1024 ∧ j ≤ s.size ∧ i = .int .i64 j ∧ n = .int .i64 k ∧ Hid (blanks (s.data.toList.drop st) = k + blanks (s.data.toList.drop j)) ∧ Hid (k + st = j)) (fun _ i => s.size - (intOf i).toNat)
  case atStart => exact ⟨0, st, by omega, by omega, rfl, rfl, by simp [Hid], by simp [Hid]⟩
  case round =>
    obtain ⟨k, j, hk, hj, rfl, rfl, hH, HK⟩ := hrel
    by_cases hlt : j < s.size
    · by_cases h1 : (s[j].toNat : Int) = 32
      · have HG : Hid (blanks (s.data.toList.drop j) = blanks (s.data.toList.drop (j + 1)) + 1) := blanks_go s j hlt (Or.inl h1)
        have h1' : ((s[j].toNat : Int) != 32) = false := by simp [h1]
        clear h1
        go_wp2
        go_round
        case rel => exact ⟨k + 1, j + 1, by have := HK.out; omega, by omega, by go_num, by go_num, by have := HG.out; have := hH.out; simp only [Hid]; omega, by have := HK.out; simp only [Hid]; omega⟩
        case measure => simp [intOf]; omega
      · have h1' : ((s[j].toNat : Int) != 32) = true := by simp [h1]
        by_cases h2 : (s[j].toNat : Int) = 9
        · have HG : Hid (blanks (s.data.toList.drop j) = blanks (s.data.toList.drop (j + 1)) + 1) := blanks_go s j hlt (Or.inr h2)
          have h2' : ((s[j].toNat : Int) != 9) = false := by simp [h2]
          clear h1 h2
          go_wp2
          go_round
          case rel => exact ⟨k + 1, j + 1, by have := HK.out; omega, by omega, by go_num, by go_num, by have := HG.out; have := hH.out; simp only [Hid]; omega, by have := HK.out; simp only [Hid]; omega⟩
          case measure => simp [intOf]; omega
        · have h2' : ((s[j].toNat : Int) != 9) = true := by simp [h2]
          have HG : Hid (blanks (s.data.toList.drop j) = 0) := blanks_stop s j hlt h1 h2
          clear h1 h2
          go_wp2
          go_ret
          exact ⟨ret_int (by have := HG.out; have := hH.out; omega), rfl⟩
    · have HG : Hid (blanks (s.data.toList.drop j) = 0) := blanks_end s j (by omega)
      go_wp2
      go_ret
      exact ⟨ret_int (by have := HG.out; have := hH.out; omega), rfl⟩
end Go.Proofs.Ybulkeok
