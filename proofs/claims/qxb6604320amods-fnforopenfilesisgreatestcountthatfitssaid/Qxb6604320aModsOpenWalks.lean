import Derived.Test.Qxb6604320aModsRows
import Derived.WalkKit
import Derived.ProofKit
import Derived.WalkLawsBesides
import Derived.Outline
set_option linter.unusedVariables false
namespace Go.Proofs.Qxb6604320aMods
open Go.ChangeShapes Go.WideShapes Go.ChangeAt Go.RowKit

/-- The process's own share. -/
def resI (n : Int) : Int := if 32 < n / 16 then n / 16 else 32

theorem resI_bd (n : Int) : 32 ≤ resI n ∧ (resI n = 32 ∨ resI n = n / 16) := by unfold resI; split <;> omega

/-- Does it fit? -/
def roomB (n k q : Int) : Bool := decide (q + k + resI n ≤ n)

theorem reserve_any (n : Int) (w : World) (h0 : 0 ≤ n) (h1 : n ≤ 18446744073709551615) :
    Calls Trym.prog 6 #[.int .u64 n] w fun e w' => e = .returned (.int .u64 (resI n)) ∧ w' = w := by
  by_cases h : n / 16 < 32
  · have hr : resI n = 32 := by unfold resI; rw [if_neg (by omega)]
    rw [hr]
    clear hr
    go_enter Trym.func6, Trym.ntmps6
    go_wp2
    go_ret
    exact ⟨rfl, rfl⟩
  · have hr : resI n = n / 16 := by unfold resI; split <;> omega
    rw [hr]
    clear hr
    go_enter Trym.func6, Trym.ntmps6
    go_wp2
    go_ret
    exact ⟨rfl, rfl⟩

theorem room_any (n k q : Int) (w : World) (h0 : 0 ≤ n) (h1 : n ≤ 18446744073709551615) (k0 : 0 ≤ k) (k1 : k ≤ 9223372036854775807) (q0 : 0 ≤ q) (q1 : q ≤ 5000) :
    Calls Trym.prog 5 #[.int .u64 n, .int .i64 k, .int .u64 q] w fun e w' => e = .returned (.bool (roomB n k q)) ∧ w' = w := by
  have hb := resI_bd n
  have hr0 : 32 ≤ resI n := hb.1
  have hr1 : resI n ≤ 1152921504606846975 := by omega
  by_cases c1 : n < resI n
  · have hR : roomB n k q = false := by simp [roomB]; omega
    rw [hR]
    clear hb hR
    go_enter Trym.func5, Trym.ntmps5
    go_wp2_with (go_at_call 6; refine (reserve_any _ _ h0 h1).mono ?_; rintro e w' ⟨rfl, rfl⟩)
    go_ret
    exact ⟨rfl, rfl⟩
  · by_cases c2 : n - resI n < k
    · have hR : roomB n k q = false := by simp [roomB]; omega
      rw [hR]
      clear hb hR
      go_enter Trym.func5, Trym.ntmps5
      go_wp2_with (go_at_call 6; refine (reserve_any _ _ h0 h1).mono ?_; rintro e w' ⟨rfl, rfl⟩)
      go_ret
      exact ⟨rfl, rfl⟩
    · have hR : roomB n k q = decide (q ≤ n - resI n - k) := by unfold roomB; rw [decide_eq_decide]; omega
      rw [hR]
      clear hb hR
      go_enter Trym.func5, Trym.ntmps5
      go_wp2_with (go_at_call 6; refine (reserve_any _ _ h0 h1).mono ?_; rintro e w' ⟨rfl, rfl⟩)
      go_ret
      exact ⟨rfl, rfl⟩

theorem open_none (n k : Int) (w : World) (h0 : 0 ≤ n) (h1 : n ≤ 18446744073709551615) (k0 : 0 ≤ k) (k1 : k ≤ 9223372036854775807) (h : n ≤ resI n + k) :
    Calls Trym.prog 4 #[.int .u64 n, .int .i64 k] w fun e w' => e = .returned (.int .i64 0) ∧ w' = w := by
  unfold resI at h
  by_cases c : 32 < n / 16
  · rw [if_pos c] at h
    go_enter Trym.func4, Trym.ntmps4
    go_wp2
    go_ret
    exact ⟨rfl, rfl⟩
  · rw [if_neg c] at h
    go_enter Trym.func4, Trym.ntmps4
    go_wp2
    go_ret
    exact ⟨rfl, rfl⟩

theorem open_some (n k : Int) (w : World) (h0 : 0 ≤ n) (h1 : n ≤ 18446744073709551615) (k0 : 0 ≤ k) (k1 : k ≤ 9223372036854775807) (h : resI n + k < n) (h4 : n - (resI n + k) < 4000) :
    Calls Trym.prog 4 #[.int .u64 n, .int .i64 k] w fun e w' => e = .returned (.int .i64 (n - (resI n + k))) ∧ w' = w := by
  unfold resI at h h4 ⊢
  by_cases c : 32 < n / 16
  · rw [if_pos c] at h h4 ⊢
    go_enter Trym.func4, Trym.ntmps4
    go_wp2
    go_ret
    exact ⟨rfl, rfl⟩
  · rw [if_neg c] at h h4 ⊢
    go_enter Trym.func4, Trym.ntmps4
    go_wp2
    go_ret
    exact ⟨rfl, rfl⟩

theorem open_full (n k : Int) (w : World) (h0 : 0 ≤ n) (h1 : n ≤ 18446744073709551615) (k0 : 0 ≤ k) (k1 : k ≤ 9223372036854775807) (h : resI n + k < n) (h4 : 4000 ≤ n - (resI n + k)) :
    Calls Trym.prog 4 #[.int .u64 n, .int .i64 k] w fun e w' => e = .returned (.int .i64 4000) ∧ w' = w := by
  unfold resI at h h4
  by_cases c : 32 < n / 16
  · rw [if_pos c] at h h4
    go_enter Trym.func4, Trym.ntmps4
    go_wp2
    go_ret
    exact ⟨rfl, rfl⟩
  · rw [if_neg c] at h h4
    omega

theorem law_any (n k : Int) (w : World) (h0 : 0 ≤ n) (h1 : n ≤ 18446744073709551615) (k1 : k ≤ 9223372036854775807) :
    Calls Trym.prog 3 #[.int .u64 n, .int .i64 k] w fun e w' => e = .returned (.bool true) ∧ w' = w := by
  by_cases k0 : k < 0
  · go_enter Trym.func3, Trym.ntmps3
    go_wp2
    go_ret
    exact ⟨rfl, rfl⟩
  have k0' : 0 ≤ k := by omega
  clear k0
  have hr0 := (resI_bd n).1
  by_cases c1 : n ≤ resI n + k
  · have e1 : roomB n k 1 = false := by simp [roomB]; omega
    go_enter Trym.func3, Trym.ntmps3
    go_wp2_with fail
    refine (open_none n k _ h0 h1 k0' k1 c1).mono ?_
    rintro e w' ⟨rfl, rfl⟩
    go_wp2_with fail
    refine (room_any n k 1 _ h0 h1 k0' k1 (by omega) (by omega)).mono ?_
    rintro e w' ⟨rfl, rfl⟩
    go_wp2
    go_ret
    exact ⟨rfl, rfl⟩
  have c1' : resI n + k < n := by omega
  clear c1
  by_cases c2 : n - (resI n + k) < 4000
  · obtain ⟨q, hq⟩ : ∃ q, q = n - (resI n + k) := ⟨_, rfl⟩
    have e1 : roomB n k q = true := by simp [roomB]; omega
    have e2 : roomB n k (q + 1) = false := by simp [roomB]; omega
    have ho := open_some n k w h0 h1 k0' k1 c1' c2
    rw [← hq] at ho
    have q0 : 0 < q := by omega
    have q4 : q < 4000 := by omega
    clear hq c1' c2 hr0
    go_enter Trym.func3, Trym.ntmps3
    go_wp2_with fail
    refine ho.mono ?_
    rintro e w' ⟨rfl, rfl⟩
    clear ho
    go_wp2_with fail
    refine (room_any n k q _ h0 h1 k0' k1 (by omega) (by omega)).mono ?_
    rintro e w' ⟨rfl, rfl⟩
    go_wp2_with fail
    refine (room_any n k (q + 1) _ h0 h1 k0' k1 (by omega) (by omega)).mono ?_
    rintro e w' ⟨rfl, rfl⟩
    go_wp2
    go_ret
    exact ⟨rfl, rfl⟩
  · have e1 : roomB n k 4000 = true := by simp [roomB]; omega
    go_enter Trym.func3, Trym.ntmps3
    go_wp2_with fail
    refine (open_full n k _ h0 h1 k0' k1 c1' (by omega)).mono ?_
    rintro e w' ⟨rfl, rfl⟩
    go_wp2_with fail
    refine (room_any n k 4000 _ h0 h1 k0' k1 (by omega) (by omega)).mono ?_
    rintro e w' ⟨rfl, rfl⟩
    go_wp2
    go_ret
    exact ⟨rfl, rfl⟩

end Go.Proofs.Qxb6604320aMods
