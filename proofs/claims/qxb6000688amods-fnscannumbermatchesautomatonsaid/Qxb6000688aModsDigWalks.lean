import Derived.Test.Qxb6000688aModsNum
import Derived.Test.Qxb6000688aModsCloneWalks
set_option linter.unusedVariables false
namespace Go.Proofs.Qxb6000688aMods
open Go.ChangeShapes Go.WideShapes Go.ChangeAt Go.RowKit

theorem digI_lo {c : Int} (h : c < 48) : digI c = false := by simp [digI]; omega
theorem digI_hi {c : Int} (h : 57 < c) : digI c = false := by simp [digI]; omega
theorem digI_in {c : Int} (h1 : 48 ≤ c) (h2 : c ≤ 57) : digI c = true := by simp [digI]; omega

/-- isDigit -/
theorem digit_any (c : Int) (w : World) : Calls Trym.prog 25 #[.int .u8 c] w fun e w' => e = .returned (.bool (digI c)) ∧ w' = w := by
  by_cases h1 : c < 48
  · have t : decide (48 ≤ c) = false := by simp; omega
    rw [digI_lo h1]
    go_enter Trym.func25, Trym.ntmps25
    go_wp2
    go_ret
    exact ⟨rfl, rfl⟩
  · by_cases h2 : 57 < c
    · have t : decide (c ≤ 57) = false := by simp; omega
      have t' : decide (48 ≤ c) = true := by simp; omega
      rw [digI_hi h2]
      go_enter Trym.func25, Trym.ntmps25
      go_wp2
      go_ret
      exact ⟨rfl, rfl⟩
    · have t : decide (c ≤ 57) = true := by simp; omega
      have t' : decide (48 ≤ c) = true := by simp; omega
      rw [digI_in (by omega) (by omega)]
      go_enter Trym.func25, Trym.ntmps25
      go_wp2
      go_ret
      exact ⟨rfl, rfl⟩

/-- What skipDigits answers. -/
def Skip (D : Nat → Int) (n p q : Nat) : Prop := p ≤ q ∧ q ≤ n ∧ (∀ j, p ≤ j → j < q → digI (D j) = true) ∧ (q < n → digI (D q) = false)

/-- skipDigits -/
theorem skip_any (b n c p : Nat) (D : Nat → Int) (w : World) (hn : n ≤ 1048576) (hp : p ≤ n) (hz : ∀ k, k < n → w.cell? ⟨b, k, none⟩ = some (.int .u8 (D k))) :
    Calls Trym.prog 26 #[.slice (some ⟨b, 0, none⟩) n c, .int .i64 p] w fun e w' => ∃ q : Nat, e = .returned (.int .i64 q) ∧ Skip D n p q ∧ w' = w := by
  have HZ : Hid (∀ k, k < n → w.cell? ⟨b, k, none⟩ = some (.int .u8 (D k))) := hz
  clear hz
  go_enter Trym.func26, Trym.ntmps26
  go_wp2
  go_loop [1] (fun v => ∃ q : Nat, p ≤ q ∧ q ≤ n ∧ v = .int .i64 q ∧ (∀ j, p ≤ j → j < q → digI (D j) = true)) (fun v => n - (intOf v).toNat)
  case atStart => exact ⟨p, Nat.le_refl _, hp, rfl, by omega⟩
  case round =>
    obtain ⟨q, hq1, hq2, rfl, hall⟩ := hrel
    have HA : Hid (∀ j, p ≤ j → j < q → digI (D j) = true) := hall
    clear hall
    by_cases hlt : q < n
    · obtain ⟨d, hd⟩ : ∃ d, d = D q := ⟨_, rfl⟩
      have hc : w.cell? ⟨b, q, none⟩ = some (.int .u8 d) := by rw [hd]; exact HZ.out q hlt
      have HD : Hid (d = D q) := hd
      clear hd
      have hli : decide ((q : Int) < (n : Int)) = true := by simp; omega
      by_cases hdig : digI d = true
      · go_wp2_with (go_at_call 25; refine (digit_any d _).mono ?_; rintro e w' ⟨rfl, hw⟩; obtain rfl := hw.symm)
        go_round
        case rel =>
          refine ⟨q + 1, by omega, by omega, by go_num, ?_⟩
          intro j hj1 hj2
          by_cases e : j = q
          · rw [e, ← HD.out]; exact hdig
          · exact HA.out j hj1 (by omega)
        case measure => simp [intOf]; omega
      · have hdig' : digI d = false := by simpa using hdig
        clear hdig
        go_wp2_with (go_at_call 25; refine (digit_any d _).mono ?_; rintro e w' ⟨rfl, hw⟩; obtain rfl := hw.symm)
        go_ret
        exact ⟨q, rfl, ⟨hq1, hq2, HA.out, fun _ => by rw [← HD.out]; exact hdig'⟩, rfl⟩
    · have hli : decide ((q : Int) < (n : Int)) = false := by simp; omega
      go_wp2_with fail
      go_ret
      exact ⟨q, rfl, ⟨hq1, hq2, HA.out, fun h => absurd h hlt⟩, rfl⟩

/-- What someDigits answers. -/
def Some' (D : Nat → Int) (n p q : Nat) (r : Int) : Prop := (p = n ∧ q = p ∧ r = 1) ∨ (p < n ∧ digI (D p) = false ∧ q = p ∧ r = 2) ∨ (p < n ∧ p < q ∧ q ≤ n ∧ (∀ j, p ≤ j → j < q → digI (D j) = true) ∧ (q < n → digI (D q) = false) ∧ r = 0)

/-- someDigits -/
theorem some_any (b n c p : Nat) (D : Nat → Int) (w : World) (hn : n ≤ 1048576) (hp : p ≤ n) (hz : ∀ k, k < n → w.cell? ⟨b, k, none⟩ = some (.int .u8 (D k))) :
    Calls Trym.prog 27 #[.slice (some ⟨b, 0, none⟩) n c, .int .i64 p] w fun e w' => ∃ (q : Nat) (r : Int), e = .returned (.tuple #[.int .i64 q, .int .i64 r]) ∧ Some' D n p q r ∧ w' = w := by
  by_cases h : p < n
  · have hS := skip_any b n c p D w hn hp hz
    obtain ⟨d, hd⟩ : ∃ d, d = D p := ⟨_, rfl⟩
    have hc : w.cell? ⟨b, p, none⟩ = some (.int .u8 d) := by rw [hd]; exact hz p h
    have HD : Hid (d = D p) := hd
    clear hd hz
    have t : ((p : Int) == (n : Int)) = false := by simp; omega
    by_cases hdig : digI d = true
    · have HS : Hid (Calls Trym.prog 26 #[.slice (some ⟨b, 0, none⟩) n c, .int .i64 p] w fun e w' => ∃ q : Nat, e = .returned (.int .i64 q) ∧ Skip D n p q ∧ w' = w) := hS
      clear hS
      go_enter Trym.func27, Trym.ntmps27
      go_wp2_with (go_at_call 25; refine (digit_any d _).mono ?_; rintro e w' ⟨rfl, hw⟩; obtain rfl := hw.symm)
      refine HS.out.mono ?_
      rintro e w' ⟨q, rfl, ⟨s1, s2, s3, s4⟩, hw⟩
      obtain rfl := hw.symm
      have R : Some' D n p q 0 := by
        refine .inr (.inr ⟨h, ?_, s2, s3, s4, rfl⟩)
        apply Decidable.byContradiction
        intro hc'
        have e : q = p := by omega
        have := s4 (by omega)
        rw [e, ← HD.out, hdig] at this
        cases this
      clear s3 s4 HS
      go_wp2
      go_ret2
      exact ⟨q, 0, rfl, R, rfl⟩
    · have hdig' : digI d = false := by simpa using hdig
      clear hdig hS
      go_enter Trym.func27, Trym.ntmps27
      go_wp2_with (go_at_call 25; refine (digit_any d _).mono ?_; rintro e w' ⟨rfl, hw⟩; obtain rfl := hw.symm)
      go_ret2
      exact ⟨p, 2, rfl, .inr (.inl ⟨h, by rw [← HD.out]; exact hdig', rfl, rfl⟩), rfl⟩
  · have t : ((p : Int) == (n : Int)) = true := by simp; omega
    clear hz
    go_enter Trym.func27, Trym.ntmps27
    go_wp2
    go_ret2
    exact ⟨p, 1, rfl, .inl ⟨by omega, rfl, rfl⟩, rfl⟩

end Go.Proofs.Qxb6000688aMods
