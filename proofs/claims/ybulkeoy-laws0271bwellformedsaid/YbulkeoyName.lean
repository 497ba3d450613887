import Derived.Test.YbulkeoyRows
import Derived.WalkKit
import Derived.WalkSpells
import Derived.WalkLawsBesides
import Derived.Deep.QuietTactic
import Derived.BigQuiet
import Derived.Deep.RegionWith
import Derived.Laws.BytesArg
import Derived.Outline
namespace Go.Proofs.Ybulkeoy
open Go.RowKit

/-- A byte that may stand in a name. -/
def isPart (c : Int) : Bool := decide (c = 95) || decide (97 ≤ c ∧ c ≤ 122) || decide (65 ≤ c ∧ c ≤ 90) || decide (48 ≤ c ∧ c ≤ 57)
theorem isPart_yes {c : Int} (h : c = 95 ∨ (97 ≤ c ∧ c ≤ 122) ∨ (65 ≤ c ∧ c ≤ 90) ∨ (48 ≤ c ∧ c ≤ 57)) : isPart c = true := by
  unfold isPart; simp; omega
theorem isPart_no {c : Int} (h : ¬ (c = 95 ∨ (97 ≤ c ∧ c ≤ 122) ∨ (65 ≤ c ∧ c ≤ 90) ∨ (48 ≤ c ∧ c ≤ 57))) : isPart c = false := by
  unfold isPart; simp; omega

/-- The run of name bytes at the head. -/
def runOf (l : List Int) : Nat := (l.takeWhile isPart).length
theorem runOf_le (l : List Int) : runOf l ≤ l.length := by
  unfold runOf; exact (List.takeWhile_prefix isPart).length_le
theorem runOf_cons (l : List Int) (c : Int) : runOf (c :: l) = if isPart c then runOf l + 1 else 0 := by
  unfold runOf
  by_cases h : isPart c = true <;> simp [h]
theorem drop_cons (Z : List Int) (k : Nat) (h : k < Z.length) : Z.drop k = Z.getD k 0 :: Z.drop (k + 1) := by
  rw [List.drop_eq_getElem_cons h]; simp [h]
theorem run_stop (Z : List Int) (k : Nat) (h : k < Z.length) (hb : isPart (Z.getD k 0) = false) : runOf (Z.drop k) = 0 := by
  rw [drop_cons Z k h, runOf_cons, hb]; rfl
theorem run_go (Z : List Int) (k : Nat) (h : k < Z.length) (hb : isPart (Z.getD k 0) = true) : runOf (Z.drop k) = runOf (Z.drop (k + 1)) + 1 := by
  rw [drop_cons Z k h, runOf_cons, hb]; rfl
theorem run_end (Z : List Int) (k : Nat) (h : Z.length ≤ k) : runOf (Z.drop k) = 0 := by
  rw [List.drop_of_length_le h]; rfl
theorem run_ub (Z : List Int) (k : Nat) (h : k ≤ Z.length) : runOf (Z.drop k) + k ≤ Z.length := by
  have := runOf_le (Z.drop k)
  simp at this; omega

theorem ret_bool {a b : Bool} (h : (a = true) ↔ (b = true)) : Ending.returned (.bool a) = .returned (.bool b) := by rw [Bool.eq_iff_iff.2 h]
theorem ret_int {k : IntKind} {a b : Int} (h : a = b) : Ending.returned (.int k a) = .returned (.int k b) := by rw [h]

set_option maxHeartbeats 400000 in
theorem digit_calls (c : Int) (w : World) :
    Calls Yba.prog 17 #[.int .u8 c] w fun e w' => e = .returned (.bool (decide (48 ≤ c ∧ c ≤ 57))) ∧ w' = w := by
  by_cases h1 : 48 ≤ c
  all_goals
    go_enter Yba.func17, Yba.ntmps17
    go_wp2
    go_ret
    exact ⟨ret_bool (by simp; try omega), rfl⟩

def isStart (c : Int) : Bool := decide (c = 95) || decide (97 ≤ c ∧ c ≤ 122) || decide (65 ≤ c ∧ c ≤ 90)
set_option maxHeartbeats 400000 in
theorem start_calls (c : Int) (w : World) :
    Calls Yba.prog 16 #[.int .u8 c] w fun e w' => e = .returned (.bool (isStart c)) ∧ w' = w := by
  by_cases h0 : c = 95
  · subst h0
    go_enter Yba.func16, Yba.ntmps16
    go_wp2
    go_ret
    exact ⟨by simp [isStart], rfl⟩
  · have h0' : (c == 95) = false := by simp [h0]
    by_cases h1 : 97 ≤ c
    · by_cases h2 : c ≤ 122
      all_goals
        go_enter Yba.func16, Yba.ntmps16
        go_wp2
        go_ret
        exact ⟨ret_bool (by simp [isStart]; omega), rfl⟩
    · by_cases h2 : 65 ≤ c
      all_goals
        go_enter Yba.func16, Yba.ntmps16
        go_wp2
        go_ret
        exact ⟨ret_bool (by simp [isStart]; omega), rfl⟩

theorem isPart_of (c : Int) : isPart c = (isStart c || decide (48 ≤ c ∧ c ≤ 57)) := rfl

set_option maxHeartbeats 400000 in
theorem part_calls (c : Int) (w : World) :
    Calls Yba.prog 14 #[.int .u8 c] w fun e w' => e = .returned (.bool (isPart c)) ∧ w' = w := by
  have HP : Hid _ := isPart_of c
  cases hs : isStart c
  all_goals
    go_enter Yba.func14, Yba.ntmps14
    go_wp2_with fail
    refine (start_calls c _).mono ?_
    rintro e w' ⟨rfl, rfl⟩
  · go_wp2_with fail
    refine (digit_calls c _).mono ?_
    rintro e w' ⟨rfl, rfl⟩
    go_wp2
    go_ret
    exact ⟨by rw [HP.out, hs]; simp, rfl⟩
  · go_wp2
    go_ret
    exact ⟨by rw [HP.out, hs]; simp, rfl⟩

set_option maxHeartbeats 400000 in
theorem part2_calls (c : Int) (w : World) :
    Calls Yba.prog 8 #[.int .u8 c] w fun e w' => e = .returned (.bool (isPart c)) ∧ w' = w := by
  by_cases h0 : c = 95
  · subst h0
    go_enter Yba.func8, Yba.ntmps8
    go_wp2
    go_ret
    exact ⟨by simp [isPart], rfl⟩
  · have h0' : (c == 95) = false := by simp [h0]
    by_cases h1 : 97 ≤ c
    · by_cases h2 : c ≤ 122
      all_goals
        go_enter Yba.func8, Yba.ntmps8
        go_wp2
        all_goals
          go_ret
          exact ⟨ret_bool (by simp [isPart]; omega), rfl⟩
    · by_cases h2 : 65 ≤ c
      all_goals
        by_cases h3 : c ≤ 90
        all_goals
          by_cases h4 : 48 ≤ c
          all_goals
            go_enter Yba.func8, Yba.ntmps8
            go_wp2
            all_goals
              go_ret
              exact ⟨ret_bool (by simp [isPart]; omega), rfl⟩
end Go.Proofs.Ybulkeoy
