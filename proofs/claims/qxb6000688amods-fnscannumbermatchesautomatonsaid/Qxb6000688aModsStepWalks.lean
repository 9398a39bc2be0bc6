import Derived.Test.Qxb6000688aModsNum
import Derived.Test.Qxb6000688aModsCloneWalks
set_option linter.unusedVariables false
namespace Go.Proofs.Qxb6000688aMods
open Go.ChangeShapes Go.WideShapes Go.ChangeAt Go.RowKit

theorem byte_cases (c : Int) : c = 43 ∨ c = 45 ∨ c = 46 ∨ c = 48 ∨ c = 69 ∨ c = 101 ∨ (49 ≤ c ∧ c ≤ 57) ∨ (c < 48 ∧ c ≠ 43 ∧ c ≠ 45 ∧ c ≠ 46) ∨ (57 < c ∧ c ≠ 69 ∧ c ≠ 101) := by omega

theorem st_cases {s : Int} (h0 : 0 ≤ s) (h8 : s ≤ 8) : s = 0 ∨ s = 1 ∨ s = 2 ∨ s = 3 ∨ s = 4 ∨ s = 5 ∨ s = 6 ∨ s = 7 ∨ s = 8 := by omega

/-- numAccepting -/
theorem acc_any (s : Int) (w : World) (h0 : 0 ≤ s) (h8 : s ≤ 8) : Calls Trym.prog 23 #[.int .i64 s] w fun e w' => e = .returned (.bool (accI s)) ∧ w' = w := by
  have h := st_cases h0 h8
  clear h0 h8
  rcases h with rfl | rfl | rfl | rfl | rfl | rfl | rfl | rfl | rfl
  all_goals
    go_enter Trym.func23, Trym.ntmps23
    go_wp2
    go_ret
    exact ⟨rfl, rfl⟩

set_option maxHeartbeats 4000000 in
/-- numStep at a known byte. -/
theorem step_at (s c : Int) (w : World) (h0 : 0 ≤ s) (h8 : s ≤ 8) (hc : c = 43 ∨ c = 45 ∨ c = 46 ∨ c = 48 ∨ c = 69 ∨ c = 101) : Calls Trym.prog 22 #[.int .i64 s, .int .u8 c] w fun e w' => e = .returned (.int .i64 (stepI s c)) ∧ w' = w := by
  have h := st_cases h0 h8
  clear h0 h8
  rcases h with rfl | rfl | rfl | rfl | rfl | rfl | rfl | rfl | rfl
  all_goals
    rcases hc with rfl | rfl | rfl | rfl | rfl | rfl
    all_goals
      go_enter Trym.func22, Trym.ntmps22
      go_wp2
      go_ret
      exact ⟨rfl, rfl⟩

/-- Where a digit other than '0' leads. -/
def dT (s : Int) : Int := if s = 0 ∨ s = 1 ∨ s = 3 then 3 else if s = 2 then -1 else if s = 4 ∨ s = 5 then 5 else 8

theorem step_dT {s c : Int} (h0 : 0 ≤ s) (h8 : s ≤ 8) (h1 : 49 ≤ c) (h2 : c ≤ 57) : stepI s c = dT s := by
  have a1 : ¬ c = 45 := by omega
  have a2 : ¬ c = 48 := by omega
  have a3 : ¬ c = 46 := by omega
  have a4 : ¬ (c = 101 ∨ c = 69) := by omega
  have a5 : ¬ (c = 43 ∨ c = 45) := by omega
  have a6 : 49 ≤ c ∧ c ≤ 57 := ⟨h1, h2⟩
  have a7 : 48 ≤ c ∧ c ≤ 57 := ⟨by omega, h2⟩
  rcases st_cases h0 h8 with rfl | rfl | rfl | rfl | rfl | rfl | rfl | rfl | rfl <;> simp only [stepI, dT, if_neg a1, if_neg a2, if_neg a3, if_neg a4, if_neg a5, if_pos a6, if_pos a7] <;> rfl

theorem step_oth {s c : Int} (h1 : ¬ (48 ≤ c ∧ c ≤ 57)) (h2 : c ≠ 43) (h3 : c ≠ 45) (h4 : c ≠ 46) (h5 : c ≠ 69) (h6 : c ≠ 101) : stepI s c = -1 := by
  have a2 : ¬ c = 48 := by omega
  have a4 : ¬ (c = 101 ∨ c = 69) := by omega
  have a6 : ¬ (49 ≤ c ∧ c ≤ 57) := by omega
  simp [stepI, a2, a4, a6, h1, h2, h3, h4]

set_option maxHeartbeats 4000000 in
/-- numStep at a digit other than '0'. -/
theorem step_dig (s c : Int) (w : World) (h0 : 0 ≤ s) (h8 : s ≤ 8) (h1 : 49 ≤ c) (h2 : c ≤ 57) : Calls Trym.prog 22 #[.int .i64 s, .int .u8 c] w fun e w' => e = .returned (.int .i64 (stepI s c)) ∧ w' = w := by
  rw [step_dT h0 h8 h1 h2]
  have h := st_cases h0 h8
  clear h0 h8
  have t1 : decide (48 ≤ c) = true := by simp; omega
  have t2 : decide (49 ≤ c) = true := by simp; omega
  have t3 : decide (c ≤ 57) = true := by simp; omega
  have t4 : (c == 43) = false := by simp; omega
  have t5 : (c == 45) = false := by simp; omega
  have t6 : (c == 46) = false := by simp; omega
  have t7 : (c == 48) = false := by simp; omega
  have t8 : (c == 69) = false := by simp; omega
  have t9 : (c == 101) = false := by simp; omega
  rcases h with rfl | rfl | rfl | rfl | rfl | rfl | rfl | rfl | rfl
  all_goals
    go_enter Trym.func22, Trym.ntmps22
    go_wp2
    go_ret
    exact ⟨rfl, rfl⟩

set_option maxHeartbeats 4000000 in
/-- numStep at a byte below '0' that has no move. -/
theorem step_lo (s c : Int) (w : World) (h0 : 0 ≤ s) (h8 : s ≤ 8) (h1 : c < 48) (h2 : c ≠ 43) (h3 : c ≠ 45) (h4 : c ≠ 46) : Calls Trym.prog 22 #[.int .i64 s, .int .u8 c] w fun e w' => e = .returned (.int .i64 (stepI s c)) ∧ w' = w := by
  rw [step_oth (by omega) h2 h3 h4 (by omega) (by omega)]
  have h := st_cases h0 h8
  clear h0 h8
  have t1 : decide (48 ≤ c) = false := by simp; omega
  have t2 : decide (49 ≤ c) = false := by simp; omega
  have t4 : (c == 43) = false := by simp; omega
  have t5 : (c == 45) = false := by simp; omega
  have t6 : (c == 46) = false := by simp; omega
  have t7 : (c == 48) = false := by simp; omega
  have t8 : (c == 69) = false := by simp; omega
  have t9 : (c == 101) = false := by simp; omega
  clear h2 h3 h4
  rcases h with rfl | rfl | rfl | rfl | rfl | rfl | rfl | rfl | rfl
  all_goals
    go_enter Trym.func22, Trym.ntmps22
    go_wp2
    go_ret
    exact ⟨rfl, rfl⟩

set_option maxHeartbeats 4000000 in
/-- numStep at a byte above '9' that has no move. -/
theorem step_hi (s c : Int) (w : World) (h0 : 0 ≤ s) (h8 : s ≤ 8) (h1 : 57 < c) (h2 : c ≠ 69) (h3 : c ≠ 101) : Calls Trym.prog 22 #[.int .i64 s, .int .u8 c] w fun e w' => e = .returned (.int .i64 (stepI s c)) ∧ w' = w := by
  rw [step_oth (by omega) (by omega) (by omega) (by omega) h2 h3]
  have h := st_cases h0 h8
  clear h0 h8
  have t1 : decide (48 ≤ c) = true := by simp; omega
  have t2 : decide (49 ≤ c) = true := by simp; omega
  have t3 : decide (c ≤ 57) = false := by simp; omega
  have t4 : (c == 43) = false := by simp; omega
  have t5 : (c == 45) = false := by simp; omega
  have t6 : (c == 46) = false := by simp; omega
  have t7 : (c == 48) = false := by simp; omega
  have t8 : (c == 69) = false := by simp; omega
  have t9 : (c == 101) = false := by simp; omega
  clear h2 h3
  rcases h with rfl | rfl | rfl | rfl | rfl | rfl | rfl | rfl | rfl
  all_goals
    go_enter Trym.func22, Trym.ntmps22
    go_wp2
    go_ret
    exact ⟨rfl, rfl⟩

/-- numStep -/
theorem step_any (s c : Int) (w : World) (h0 : 0 ≤ s) (h8 : s ≤ 8) : Calls Trym.prog 22 #[.int .i64 s, .int .u8 c] w fun e w' => e = .returned (.int .i64 (stepI s c)) ∧ w' = w := by
  rcases byte_cases c with h | h | h | h | h | h | ⟨h1, h2⟩ | ⟨h1, h2, h3, h4⟩ | ⟨h1, h2, h3⟩
  · exact step_at s c w h0 h8 (by omega)
  · exact step_at s c w h0 h8 (by omega)
  · exact step_at s c w h0 h8 (by omega)
  · exact step_at s c w h0 h8 (by omega)
  · exact step_at s c w h0 h8 (by omega)
  · exact step_at s c w h0 h8 (by omega)
  · exact step_dig s c w h0 h8 h1 h2
  · exact step_lo s c w h0 h8 h1 h2 h3 h4
  · exact step_hi s c w h0 h8 h1 h2 h3

end Go.Proofs.Qxb6000688aMods
