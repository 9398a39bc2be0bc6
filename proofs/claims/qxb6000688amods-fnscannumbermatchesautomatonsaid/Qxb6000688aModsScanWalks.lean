import Derived.Test.Qxb6000688aModsDigWalks
import Derived.Deep.DeepCutAuto
import Derived.Deep.CutBlock
set_option linter.unusedVariables false
namespace Go.Proofs.Qxb6000688aMods
open Go.ChangeShapes Go.WideShapes Go.ChangeAt Go.RowKit

/-- What a test on the byte at q says. -/
def Tst (P : Int → Prop) (D : Nat → Int) (n q : Nat) (y : Bool) : Prop := (y = true → q < n ∧ P (D q)) ∧ (y = false → (q < n → ¬ P (D q)))

set_option maxHeartbeats 1000000 in
/-- scanNumber -/
theorem scan_any (b n c i : Nat) (D : Nat → Int) (w : World) (hn : n ≤ 1048576) (hi : i < n) (hz : ∀ k, k < n → w.cell? ⟨b, k, none⟩ = some (.int .u8 (D k))) :
    Calls Trym.prog 21 #[.slice (some ⟨b, 0, none⟩) n c, .int .i64 i] w fun e w' => ∃ (p : Nat) (r : Int), e = .returned (.tuple #[.int .i64 p, .int .i64 r]) ∧ Fin' D n i p r ∧ w' = w := by
  have HZ : Hid (∀ k, k < n → w.cell? ⟨b, k, none⟩ = some (.int .u8 (D k))) := hz
  clear hz
  obtain ⟨d0, hd0⟩ : ∃ d0, d0 = D i := ⟨_, rfl⟩
  have hc0 : w.cell? ⟨b, i, none⟩ = some (.int .u8 d0) := by rw [hd0]; exact HZ.out i hi
  have HD0 : Hid (d0 = D i) := hd0
  clear hd0
  go_enter Trym.func21, Trym.ntmps21
  go_upto_if 12 with (fail)
  go_cut [1] from 8 to 14 (fun v wc => ∃ p : Nat, v = .int .i64 p ∧ PA D n i p ∧ wc = w)
  case first =>
    by_cases h45 : d0 = 45
    · subst h45
      have R : PA D n i (i + 1) := PA.minus hi HD0.out.symm
      go_wp2
      go_meet
      case rel => exact ⟨i + 1, by go_num, R, rfl⟩
    · have R : PA D n i i := PA.plain hi (by rw [← HD0.out]; exact h45)
      have h45' : (d0 == 45) = false := by simpa using h45
      clear h45
      go_wp2
      go_meet
      case rel => exact ⟨i, rfl, R, rfl⟩
  case rest =>
    obtain ⟨p, rfl, hA, hw⟩ := hcut
    obtain rfl := hw.symm
    clear hc0 HD0 hw
    by_cases hpn : p = n
    · have t : ((p : Int) == (n : Int)) = true := by simp; omega
      have R : Fin' D n i p 1 := hA.end' hpn
      clear hpn
      go_wp2
      go_ret2
      exact ⟨p, 1, rfl, R, rfl⟩
    have hpn' : p < n := by have := hA.2.1; omega
    have t : ((p : Int) == (n : Int)) = false := by simp; omega
    clear hpn
    obtain ⟨d, hd⟩ : ∃ d, d = D p := ⟨_, rfl⟩
    have hc : w.cell? ⟨b, p, none⟩ = some (.int .u8 d) := by rw [hd]; exact HZ.out p hpn'
    have HD : Hid (d = D p) := hd
    clear hd
    go_upto_block 0 with (fail)
    go_cut [1] from 6 to 35 (fun v wc => ∃ q : Nat, v = .int .i64 q ∧ PC D n i q ∧ wc = w)
    case first =>
      by_cases h48 : d = 48
      · subst h48
        have R : PC D n i (p + 1) := hA.zero hpn' HD.out.symm
        go_wp2
        go_meet
        case rel => exact ⟨p + 1, by go_num, R, rfl⟩
      · have h48' : (d == 48) = false := by simpa using h48
        by_cases hdig : digI d = true
        · have hS := skip_any b n c p D w hn (by omega) HZ.out
          have HS : Hid (Calls Trym.prog 26 #[.slice (some ⟨b, 0, none⟩) n c, .int .i64 p] w fun e w' => ∃ q : Nat, e = .returned (.int .i64 q) ∧ Skip D n p q ∧ w' = w) := hS
          clear hS
          have H48 : Hid (¬ d = 48) := h48
          clear h48
          go_wp2_with (go_at_call 25; refine (digit_any d _).mono ?_; rintro e w' ⟨rfl, hw⟩; obtain rfl := hw.symm)
          refine HS.out.mono ?_
          rintro e w' ⟨q, rfl, ⟨s1, s2, s3, s4⟩, hw⟩
          obtain rfl := hw.symm
          have hd := HD.out
          have hpq : p < q := by
            apply Decidable.byContradiction
            intro hc'
            have e : q = p := by omega
            have := s4 (by omega)
            rw [e, ← hd, hdig] at this
            cases this
          have R : PC D n i q := hA.digits (by rw [← hd]; exact hdig) (by rw [← hd]; exact H48.out) hpq s2 s3 s4
          clear s3 s4 HS hd
          go_wp2
          go_meet
          case rel => exact ⟨q, rfl, R, rfl⟩
        · have hdig' : digI d = false := by simpa using hdig
          clear hdig h48
          have R : Fin' D n i p 2 := hA.refused hpn' (by rw [← HD.out]; exact hdig')
          go_wp2_with (go_at_call 25; refine (digit_any d _).mono ?_; rintro e w' ⟨rfl, hw⟩; obtain rfl := hw.symm)
          go_ret2
          exact ⟨p, 2, rfl, R, rfl⟩
    case rest =>
      obtain ⟨q, rfl, hC, hw⟩ := hcut
      obtain rfl := hw.symm
      clear hw hc HD hA hpn' t
      have hqn := hC.2.1
      go_upto_region 12 with (fail)
      go_cut [46] from 36 to 46 (fun v wc => ∃ y : Bool, v = .bool y ∧ Tst (fun x => x = 46) D n q y ∧ wc = w)
      case first =>
        by_cases hlt : q < n
        · obtain ⟨d, hd⟩ : ∃ d, d = D q := ⟨_, rfl⟩
          have hc : w.cell? ⟨b, q, none⟩ = some (.int .u8 d) := by rw [hd]; exact HZ.out q hlt
          have HD : Hid (d = D q) := hd
          clear hd
          have hli : decide ((q : Int) < (n : Int)) = true := by simp; omega
          go_wp2
          go_meet
          case rel => exact ⟨d == 46, rfl, ⟨fun h => ⟨hlt, by rw [← HD.out]; simpa using h⟩, fun h _ => by rw [← HD.out]; simpa using h⟩, rfl⟩
        · have hli : decide ((q : Int) < (n : Int)) = false := by simp; omega
          go_wp2
          go_meet
          case rel => exact ⟨false, rfl, ⟨fun h => (by cases h), fun _ h => absurd h hlt⟩, rfl⟩
      case rest =>
        obtain ⟨y, rfl, T, hw⟩ := hcut
        obtain rfl := hw.symm
        clear hw
        go_upto_if 46 with (fail)
        go_cut [1, 7] from 36 to 57 (fun v _ wc => ∃ q : Nat, v = .int .i64 q ∧ PD D n i q ∧ wc = w)
        case first =>
          cases y
          · have R : PD D n i q := hC.none (T.2 rfl)
            go_wp2
            go_meet
            case rel => exact ⟨q, rfl, R, rfl⟩
          · obtain ⟨hlt, h46⟩ := T.1 rfl
            have hS := some_any b n c (q + 1) D w hn (by omega) HZ.out
            have HS : Hid (Calls Trym.prog 27 #[.slice (some ⟨b, 0, none⟩) n c, .int .i64 ((q + 1 : Nat) : Int)] w fun e w' => ∃ (p : Nat) (r : Int), e = .returned (.tuple #[.int .i64 p, .int .i64 r]) ∧ Some' D n (q + 1) p r ∧ w' = w) := hS
            clear hS T
            have H46 : Hid (D q = 46) := h46
            clear h46
            go_wp2_with fail
            refine HS.out.mono ?_
            rintro e w' ⟨p, r, rfl, hs, hw⟩
            obtain rfl := hw.symm
            clear hw HS
            rcases hs with ⟨s1, s2, rfl⟩ | ⟨s1, s2, s3, rfl⟩ | ⟨s1, s2, s3, s4, s5, rfl⟩
            · have R : Fin' D n i p 1 := by rw [s2]; exact hC.dotEnd H46.out s1
              clear s1 s2
              go_wp2
              go_ret2
              exact ⟨p, 1, rfl, R, rfl⟩
            · have R : Fin' D n i p 2 := by rw [s3]; exact hC.dotRefused H46.out s1 s2
              clear s1 s2 s3
              go_wp2
              go_ret2
              exact ⟨p, 2, rfl, R, rfl⟩
            · have R : PD D n i p := hC.frac H46.out s2 s3 s4 s5
              clear s1 s2 s4 s5
              go_wp2
              go_meet
              case rel => exact ⟨p, rfl, R, rfl⟩
        case rest =>
          obtain ⟨x, rfl, hD, hw⟩ := hcut
          obtain rfl := hw.symm
          clear hw T hC hqn
          have hxn := hD.2.1
          go_upto_region 16 with (fail)
          go_cut [75] from 58 to 75 (fun v wc => ∃ y : Bool, v = .bool y ∧ Tst (fun d => d = 101 ∨ d = 69) D n x y ∧ wc = w)
          case first =>
            by_cases hlt : x < n
            · obtain ⟨d, hd⟩ : ∃ d, d = D x := ⟨_, rfl⟩
              have hc : w.cell? ⟨b, x, none⟩ = some (.int .u8 d) := by rw [hd]; exact HZ.out x hlt
              have HD : Hid (d = D x) := hd
              clear hd
              have hli : decide ((x : Int) < (n : Int)) = true := by simp; omega
              by_cases h101 : d = 101
              · subst h101
                go_wp2
                go_meet
                case rel => exact ⟨true, rfl, ⟨fun _ => ⟨hlt, .inl HD.out.symm⟩, fun h => (by cases h)⟩, rfl⟩
              · have h101' : (d == 101) = false := by simpa using h101
                have H101 : Hid (¬ d = 101) := h101
                clear h101
                go_wp2
                go_meet
                case rel => exact ⟨d == 69, rfl, ⟨fun h => ⟨hlt, by rw [← HD.out]; exact .inr (by simpa using h)⟩, fun h _ => by rw [← HD.out]; have := H101.out; simp at h; omega⟩, rfl⟩
            · have hli : decide ((x : Int) < (n : Int)) = false := by simp; omega
              go_wp2
              go_meet
              case rel => exact ⟨false, rfl, ⟨fun h => (by cases h), fun _ h => absurd h hlt⟩, rfl⟩
          case rest =>
            obtain ⟨y, rfl, T, hw⟩ := hcut
            obtain rfl := hw.symm
            clear hw
            go_upto_if 75 with (fail)
            go_cut [1, 7] from 58 to 107 (fun v _ wc => ∃ q : Nat, v = .int .i64 q ∧ PE D n i q ∧ wc = w)
            case first =>
              cases y
              · have R : PE D n i x := hD.none (T.2 rfl)
                go_wp2
                go_meet
                case rel => exact ⟨x, rfl, R, rfl⟩
              · obtain ⟨hlt, hexp⟩ := T.1 rfl
                have HX : Hid (D x = 101 ∨ D x = 69) := hexp
                clear hexp T
                go_upto_region 18 with (fail)
                go_cut [95] from 78 to 95 (fun v wc => ∃ y : Bool, v = .bool y ∧ Tst (fun d => d = 43 ∨ d = 45) D n (x + 1) y ∧ wc = w)
                case first =>
                  by_cases hl1 : x + 1 < n
                  · obtain ⟨d, hd⟩ : ∃ d, d = D (x + 1) := ⟨_, rfl⟩
                    have hc : w.cell? ⟨b, x + 1, none⟩ = some (.int .u8 d) := by rw [hd]; exact HZ.out (x + 1) hl1
                    have HD : Hid (d = D (x + 1)) := hd
                    clear hd
                    have hli : decide ((x : Int) + 1 < (n : Int)) = true := by simp; omega
                    by_cases h43 : d = 43
                    · subst h43
                      go_wp2
                      go_meet
                      case rel => exact ⟨true, rfl, ⟨fun _ => ⟨hl1, .inl HD.out.symm⟩, fun h => (by cases h)⟩, rfl⟩
                    · have h43' : (d == 43) = false := by simpa using h43
                      have H43 : Hid (¬ d = 43) := h43
                      clear h43
                      go_wp2
                      go_meet
                      case rel => exact ⟨d == 45, rfl, ⟨fun h => ⟨hl1, by rw [← HD.out]; exact .inr (by simpa using h)⟩, fun h _ => by rw [← HD.out]; have := H43.out; simp at h; omega⟩, rfl⟩
                  · have hli : decide ((x : Int) + 1 < (n : Int)) = false := by simp; omega
                    go_wp2
                    go_meet
                    case rel => exact ⟨false, rfl, ⟨fun h => (by cases h), fun _ h => absurd h hl1⟩, rfl⟩
                case rest =>
                  obtain ⟨y, rfl, T, hw⟩ := hcut
                  obtain rfl := hw.symm
                  clear hw
                  go_upto_if 95 with (fail)
                  go_cut [1] from 76 to 97 (fun v wc => ∃ q : Nat, v = .int .i64 q ∧ PX D n i q ∧ wc = w)
                  case first =>
                    cases y
                    · have R : PX D n i (x + 1) := hD.unsigned hlt HX.out (T.2 rfl)
                      go_wp2
                      go_meet
                      case rel => exact ⟨x + 1, by go_num, R, rfl⟩
                    · obtain ⟨hl1, hs⟩ := T.1 rfl
                      have R : PX D n i (x + 1 + 1) := hD.signed HX.out hl1 hs
                      clear hs T
                      go_wp2
                      go_meet
                      case rel => exact ⟨x + 1 + 1, by go_num, R, rfl⟩
                  case rest =>
                    obtain ⟨q, rfl, hX, hw⟩ := hcut
                    obtain rfl := hw.symm
                    clear hw T
                    have hqn := hX.2.1
                    have hS := some_any b n c q D w hn hqn HZ.out
                    have HS : Hid (Calls Trym.prog 27 #[.slice (some ⟨b, 0, none⟩) n c, .int .i64 (q : Int)] w fun e w' => ∃ (p : Nat) (r : Int), e = .returned (.tuple #[.int .i64 p, .int .i64 r]) ∧ Some' D n q p r ∧ w' = w) := hS
                    clear hS
                    go_wp2_with fail
                    refine HS.out.mono ?_
                    rintro e w' ⟨p, r, rfl, hs, hw⟩
                    obtain rfl := hw.symm
                    clear hw HS
                    rcases hs with ⟨s1, s2, rfl⟩ | ⟨s1, s2, s3, rfl⟩ | ⟨s1, s2, s3, s4, s5, rfl⟩
                    · have R : Fin' D n i p 1 := by rw [s2]; exact hX.end' s1
                      clear s1 s2
                      go_wp2
                      go_ret2
                      exact ⟨p, 1, rfl, R, rfl⟩
                    · have R : Fin' D n i p 2 := by rw [s3]; exact hX.refused s1 s2
                      clear s1 s2 s3
                      go_wp2
                      go_ret2
                      exact ⟨p, 2, rfl, R, rfl⟩
                    · have R : PE D n i p := hX.digits s2 s3 s4 s5
                      clear s1 s2 s4 s5
                      go_wp2
                      go_meet
                      case rel => exact ⟨p, rfl, R, rfl⟩
            case rest =>
              obtain ⟨z, rfl, hE, hw⟩ := hcut
              obtain rfl := hw.symm
              clear hw T hD hxn
              have hzn := hE.2.1
              by_cases he : z = n
              · have t : ((z : Int) == (n : Int)) = true := by simp; omega
                have R : Fin' D n i z 1 := hE.end' he
                clear he
                go_wp2
                go_ret2
                exact ⟨z, 1, rfl, R, rfl⟩
              · have t : ((z : Int) == (n : Int)) = false := by simp; omega
                have R : Fin' D n i z 0 := hE.fin (by omega)
                clear he
                go_wp2
                go_ret2
                exact ⟨z, 0, rfl, R, rfl⟩

end Go.Proofs.Qxb6000688aMods
