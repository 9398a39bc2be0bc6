import Derived.Test.Qxb6000688aModsStepWalks
import Derived.Test.Qxb6000688aModsScanWalks
set_option linter.unusedVariables false
namespace Go.Proofs.Qxb6000688aMods
open Go.ChangeShapes Go.WideShapes Go.ChangeAt Go.RowKit

set_option maxHeartbeats 400000 in
/-- numModel -/
theorem model_any (b n c i : Nat) (D : Nat → Int) (w : World) (hn : n ≤ 1048576) (hi : i < n) (hz : ∀ k, k < n → w.cell? ⟨b, k, none⟩ = some (.int .u8 (D k))) :
    Calls Trym.prog 17 #[.slice (some ⟨b, 0, none⟩) n c, .int .i64 i] w fun e w' => ∃ (p : Nat) (r : Int), e = .returned (.tuple #[.int .i64 p, .int .i64 r]) ∧ Fin' D n i p r ∧ w' = w := by
  have HZ : Hid (∀ k, k < n → w.cell? ⟨b, k, none⟩ = some (.int .u8 (D k))) := hz
  clear hz
  go_enter Trym.func17, Trym.ntmps17
  go_wp2
  go_loop [6, 7] (fun u v => ∃ (p : Nat) (s : Int), i ≤ p ∧ p ≤ n ∧ v = .int .i64 p ∧ u = .int .i64 s ∧ 0 ≤ s ∧ s ≤ 8 ∧ Hid (s = S D i p)) (fun _ v => n - (intOf v).toNat)
  case atStart => exact ⟨i, 0, Nat.le_refl _, by omega, rfl, rfl, by omega, by omega, (S_start D i).symm⟩
  case round =>
    obtain ⟨p, s, hp1, hp2, rfl, rfl, h0, h8, HS⟩ := hrel
    by_cases hlt : p < n
    · obtain ⟨d, hd⟩ : ∃ d, d = D p := ⟨_, rfl⟩
      have hc : w.cell? ⟨b, p, none⟩ = some (.int .u8 d) := by rw [hd]; exact HZ.out p hlt
      have hst := step_any s d w h0 h8
      have hnx : S D i (p + 1) = stepI s d := by rw [S_next D i p hp1 (by rw [← HS.out]; exact h0), ← HS.out, hd]
      have hbd := stepI_bd s d
      obtain ⟨m, hm⟩ : ∃ m, m = stepI s d := ⟨_, rfl⟩
      rw [← hm] at hst hnx hbd
      obtain ⟨hb1, hb2⟩ := hbd
      have HST : Hid (Calls Trym.prog 22 #[.int .i64 s, .int .u8 d] w fun e w' => e = .returned (.int .i64 m) ∧ w' = w) := hst
      have HN : Hid (S D i (p + 1) = m) := hnx
      clear hst hnx hm hd
      have t : ((p : Int) == (n : Int)) = false := by simp; omega
      by_cases hneg : m < 0
      · have A : Hid (Fin' D n i p (if accI s = true then 0 else 2)) := by
          have e := HS.out
          refine ⟨hp1, hp2, by rw [← e]; exact h0, fun _ => by rw [HN.out]; exact hneg, ?_⟩
          rw [resI, ← e, if_neg (show ¬ p = n by omega)]
        go_wp2_with (first | (go_at_call 22; refine HST.out.mono ?_; rintro e w' ⟨rfl, hw⟩; obtain rfl := hw.symm) | (go_at_call 23; refine (acc_any s _ h0 h8).mono ?_; rintro e w' ⟨rfl, hw⟩; obtain rfl := hw.symm))
        all_goals
          go_ret2
        · have ha : accI s = true := by assumption
          have R := A.out
          rw [if_pos ha] at R
          exact ⟨p, 0, rfl, R, rfl⟩
        · have ha : accI s = false := by assumption
          have R := A.out
          rw [if_neg (by rw [ha]; decide)] at R
          exact ⟨p, 2, rfl, R, rfl⟩
      · go_wp2_with (go_at_call 22; refine HST.out.mono ?_; rintro e w' ⟨rfl, hw⟩; obtain rfl := hw.symm)
        go_round
        case rel => exact ⟨p + 1, m, by omega, by omega, by go_num, rfl, by omega, hb2, HN.out.symm⟩
        case measure => simp [intOf]; omega
    · have t : ((p : Int) == (n : Int)) = true := by simp; omega
      have R : Fin' D n i p 1 := fin_end hp1 (by omega) (by rw [← HS.out]; exact h0)
      go_wp2
      go_ret2
      exact ⟨p, 1, rfl, R, rfl⟩

/-- ZZScanNumber -/
theorem zzscan_any (b n c i : Nat) (D : Nat → Int) (w : World) (hn : n ≤ 1048576) (hi : i < n) (hz : ∀ k, k < n → w.cell? ⟨b, k, none⟩ = some (.int .u8 (D k))) :
    Calls Trym.prog 16 #[.slice (some ⟨b, 0, none⟩) n c, .int .i64 i] w fun e w' => ∃ (p : Nat) (r : Int), e = .returned (.tuple #[.int .i64 p, .int .i64 r]) ∧ Fin' D n i p r ∧ w' = w := by
  have hE := scan_any b n c i D w hn hi hz
  clear hz
  go_enter Trym.func16, Trym.ntmps16
  go_wp2_with fail
  refine hE.mono ?_
  rintro e w' ⟨p, r, rfl, E, hw⟩
  obtain rfl := hw.symm
  clear hE
  go_wp2
  go_ret2
  exact ⟨p, r, rfl, E, rfl⟩

theorem num_big (ao : Option Addr) (n c : Nat) (p : Int) (w : World) (hn : n ≤ maxLen) (hb : 1048576 < n) :
    Calls Trym.prog 6 #[.slice ao n c, .int .i64 p] w fun e w' => e = .returned (.bool true) ∧ w' = w := by
  unfold maxLen at hn
  go_enter Trym.func6, Trym.ntmps6
  go_wp2
  go_ret
  exact ⟨rfl, rfl⟩

theorem num_neg (ao : Option Addr) (n c : Nat) (p : Int) (w : World) (hb : n ≤ 1048576) (hp : p < 0) :
    Calls Trym.prog 6 #[.slice ao n c, .int .i64 p] w fun e w' => e = .returned (.bool true) ∧ w' = w := by
  go_enter Trym.func6, Trym.ntmps6
  go_wp2
  go_ret
  exact ⟨rfl, rfl⟩

theorem num_out (ao : Option Addr) (n c p : Nat) (w : World) (hb : n ≤ 1048576) (hp : n ≤ p) :
    Calls Trym.prog 6 #[.slice ao n c, .int .i64 p] w fun e w' => e = .returned (.bool true) ∧ w' = w := by
  have t0 : decide ((p : Int) < 0) = false := by simp
  go_enter Trym.func6, Trym.ntmps6
  go_wp2
  go_ret
  exact ⟨rfl, rfl⟩

set_option maxHeartbeats 400000 in
theorem num_in (x : Addr) (n c i : Nat) (zs : List Int) (w : World) (hn : n ≤ 1048576) (hi : i < n) (hnz : n ≤ zs.length) (hx : ∀ k, k < zs.length → w.cell? (x.add k) = some (.int .u8 (zs.getD k 0))) :
    Calls Trym.prog 6 #[.slice (some x) n c, .int .i64 i] w fun e w' => e = .returned (.bool true) ∧ Below w.heap.size w w' := by
  have hC := clone_some x n c zs w hn hnz hx (by omega)
  clear hx
  have t0 : decide ((i : Int) < 0) = false := by simp
  go_enter Trym.func6, Trym.ntmps6
  go_wp2_with (go_at_call 15; go_in)
  refine hC.mono ?_
  rintro e w1 ⟨rfl, hc, hg, hB⟩
  clear hC
  have hE := zzscan_any w.heap.size n n i (fun k => zs.getD k 0) w1 hn hi hc
  have hM := model_any w.heap.size n n i (fun k => zs.getD k 0) w1 hn hi hc
  have HM : Hid (Calls Trym.prog 17 #[.slice (some ⟨w.heap.size, 0, none⟩) n n, .int .i64 (i : Int)] w1 fun e w' => ∃ (p : Nat) (r : Int), e = .returned (.tuple #[.int .i64 p, .int .i64 r]) ∧ Fin' (fun k => zs.getD k 0) n i p r ∧ w' = w1) := hM
  have HB : Hid (Below w.heap.size w w1) := hB
  clear hB hc hg hM
  go_wp2_with fail
  refine hE.mono ?_
  rintro e w2 ⟨p, r, rfl, E1, hw⟩
  obtain rfl := hw.symm
  clear hE hw
  go_wp2_with fail
  refine HM.out.mono ?_
  rintro e w2 ⟨q, s, rfl, E2, hw⟩
  obtain rfl := hw.symm
  clear HM hw
  obtain ⟨rfl, rfl⟩ := E1.one E2
  clear E1 E2
  go_wp2
  go_ret
  exact ⟨rfl, HB.out⟩

end Go.Proofs.Qxb6000688aMods
