import Derived.Test.Qxb6000688aModsCloneWalks
set_option linter.unusedVariables false
namespace Go.Proofs.Qxb6000688aMods
open Go.ChangeShapes Go.WideShapes Go.ChangeAt Go.RowKit

/-- Some bool is returned. -/
def RetB (e : Ending) : Prop := ∃ b : Bool, e = .returned (.bool b)

/-- isHex: some bool. -/
theorem hex_any (d : Int) (w : World) : Calls Trym.prog 24 #[.int .u8 d] w fun e w' => RetB e ∧ w' = w := by
  go_enter Trym.func24, Trym.ntmps24
  go_wp2
  all_goals
    go_ret
    exact ⟨⟨_, rfl⟩, rfl⟩

/-- What the law asks of an escape's scan. -/
def Esc (zs : List Int) (n i j r : Nat) : Prop :=
  i < j ∧ j ≤ n ∧ j ≤ i + 6 ∧ ((r = 0 ∧ i + 1 < n ∧ (zs.getD (i + 1) 0 = 117 → j = i + 6) ∧ (zs.getD (i + 1) 0 ≠ 117 → j = i + 2)) ∨ (r = 1 ∧ j = n) ∨ (r = 2 ∧ j < n))

theorem esc_cases (d : Int) : d = 117 ∨ (d = 34 ∨ d = 92 ∨ d = 47 ∨ d = 98 ∨ d = 102 ∨ d = 110 ∨ d = 114 ∨ d = 116) ∨
    ((d == 34) = false ∧ (d == 92) = false ∧ (d == 47) = false ∧ (d == 98) = false ∧ (d == 102) = false ∧ (d == 110) = false ∧ (d == 114) = false ∧ (d == 116) = false ∧ (d == 117) = false) := by
  by_cases h : d = 117
  · exact .inl h
  · by_cases h' : d = 34 ∨ d = 92 ∨ d = 47 ∨ d = 98 ∨ d = 102 ∨ d = 110 ∨ d = 114 ∨ d = 116
    · exact .inr (.inl h')
    · refine .inr (.inr ⟨?_, ?_, ?_, ?_, ?_, ?_, ?_, ?_, ?_⟩) <;> simp <;> omega

set_option maxHeartbeats 400000 in
/-- scanEscape -/
theorem esc_any (b n c i : Nat) (zs : List Int) (w : World) (hn : n ≤ 1048576) (hi : i < n) (hz : ∀ k, k < n → w.cell? ⟨b, k, none⟩ = some (.int .u8 (zs.getD k 0))) :
    Calls Trym.prog 20 #[.slice (some ⟨b, 0, none⟩) n c, .int .i64 i] w fun e w' => ∃ j r : Nat, e = .returned (.tuple #[.int .i64 j, .int .i64 r]) ∧ Esc zs n i j r ∧ w' = w := by
  have HZ : Hid (∀ k, k < n → w.cell? ⟨b, k, none⟩ = some (.int .u8 (zs.getD k 0))) := hz
  clear hz
  by_cases h1 : i + 1 = n
  · have t1 : ((i : Int) + 1 == (n : Int)) = true := by simp; omega
    have E : Esc zs n i (i + 1) 1 := ⟨by omega, by omega, by omega, .inr (.inl ⟨rfl, h1⟩)⟩
    clear h1
    go_enter Trym.func20, Trym.ntmps20
    go_wp2
    go_ret2
    exact ⟨i + 1, 1, rfl, E, rfl⟩
  · have h1' : i + 1 < n := by omega
    have t1 : ((i : Int) + 1 == (n : Int)) = false := by simp; omega
    clear h1
    obtain ⟨d, hd⟩ : ∃ d, d = zs.getD (i + 1) 0 := ⟨_, rfl⟩
    have hc : w.cell? ⟨b, i + 1, none⟩ = some (.int .u8 d) := by rw [hd]; exact HZ.out _ h1'
    have HD : Hid (d = zs.getD (i + 1) 0) := hd
    clear hd
    rcases esc_cases d with rfl | h | h
    · go_enter Trym.func20, Trym.ntmps20
      go_wp2
      go_loop [1, 30] (fun v t => ∃ m p : Nat, m ≤ 4 ∧ t = .int .i64 m ∧ v = .int .i64 p ∧ p ≤ i + 1 + m ∧ i + 1 + m ≤ p ∧ p < n) (fun _ t => 4 - (intOf t).toNat)
      case atStart => exact ⟨0, i + 1, by omega, rfl, rfl, by omega, by omega, h1'⟩
      case round =>
        obtain ⟨m, p, hm, rfl, rfl, hp1, hp2, hpn⟩ := hrel
        by_cases hm4 : m < 4
        · by_cases he : n ≤ p + 1
          · have E : Esc zs n i (p + 1) 1 := ⟨by omega, by omega, by omega, .inr (.inl ⟨rfl, by omega⟩)⟩
            go_wp2
            go_ret2
            exact ⟨p + 1, 1, rfl, E, rfl⟩
          · have he' : p + 1 < n := by omega
            clear he
            obtain ⟨d', hd'⟩ : ∃ d', d' = zs.getD (p + 1) 0 := ⟨_, rfl⟩
            have hc' : w.cell? ⟨b, p + 1, none⟩ = some (.int .u8 d') := by rw [hd']; exact HZ.out _ he'
            clear hd'
            have E : Esc zs n i (p + 1) 2 := ⟨by omega, by omega, by omega, .inr (.inr ⟨rfl, he'⟩)⟩
            go_wp2_with fail
            refine (hex_any d' _).mono ?_
            rintro e w' ⟨⟨q, rfl⟩, hw⟩
            obtain rfl := hw.symm
            cases q
            · go_wp2
              go_ret2
              exact ⟨p + 1, 2, rfl, E, rfl⟩
            · go_wp2
              go_round
              case rel => exact ⟨m + 1, p + 1, by omega, by go_num, by go_num, by omega, by omega, he'⟩
              case measure => simp [intOf]; omega
        · have E : Esc zs n i (p + 1) 0 := ⟨by omega, by omega, by omega, .inl ⟨rfl, h1', fun _ => by omega, fun h => absurd HD.out.symm h⟩⟩
          go_wp2
          go_ret2
          exact ⟨p + 1, 0, rfl, E, rfl⟩
    · have E : Esc zs n i (i + 2) 0 := ⟨by omega, by omega, by omega, .inl ⟨rfl, h1', by rw [← HD.out]; omega, fun _ => rfl⟩⟩
      rcases h with rfl | rfl | rfl | rfl | rfl | rfl | rfl | rfl
      all_goals
        go_enter Trym.func20, Trym.ntmps20
        go_wp2
        go_ret2
        exact ⟨i + 2, 0, rfl, E, rfl⟩
    · obtain ⟨p1, p2, p3, p4, p5, p6, p7, p8, p9⟩ := h
      have E : Esc zs n i (i + 1) 2 := ⟨by omega, by omega, by omega, .inr (.inr ⟨rfl, h1'⟩)⟩
      go_enter Trym.func20, Trym.ntmps20
      go_wp2
      go_ret2
      exact ⟨i + 1, 2, rfl, E, rfl⟩


/-- ZZScanEscape -/
theorem zzesc_any (b n c i : Nat) (zs : List Int) (w : World) (hn : n ≤ 1048576) (hi : i < n) (hz : ∀ k, k < n → w.cell? ⟨b, k, none⟩ = some (.int .u8 (zs.getD k 0))) :
    Calls Trym.prog 11 #[.slice (some ⟨b, 0, none⟩) n c, .int .i64 i] w fun e w' => ∃ j r : Nat, e = .returned (.tuple #[.int .i64 j, .int .i64 r]) ∧ Esc zs n i j r ∧ w' = w := by
  have hE := esc_any b n c i zs w hn hi hz
  clear hz
  go_enter Trym.func11, Trym.ntmps11
  go_wp2_with fail
  refine hE.mono ?_
  rintro e w' ⟨j, r, rfl, E, hw⟩
  obtain rfl := hw.symm
  clear hE
  go_wp2
  go_ret2
  exact ⟨j, r, rfl, E, rfl⟩

theorem bounds_big (ao : Option Addr) (n c : Nat) (p : Int) (w : World) (hn : n ≤ maxLen) (hb : 1048576 < n) :
    Calls Trym.prog 3 #[.slice ao n c, .int .i64 p] w fun e w' => e = .returned (.bool true) ∧ w' = w := by
  unfold maxLen at hn
  go_enter Trym.func3, Trym.ntmps3
  go_wp2
  go_ret
  exact ⟨rfl, rfl⟩

theorem bounds_neg (ao : Option Addr) (n c : Nat) (p : Int) (w : World) (hb : n ≤ 1048576) (hp : p < 0) :
    Calls Trym.prog 3 #[.slice ao n c, .int .i64 p] w fun e w' => e = .returned (.bool true) ∧ w' = w := by
  go_enter Trym.func3, Trym.ntmps3
  go_wp2
  go_ret
  exact ⟨rfl, rfl⟩

theorem bounds_out (ao : Option Addr) (n c p : Nat) (w : World) (hb : n ≤ 1048576) (hp : n ≤ p) :
    Calls Trym.prog 3 #[.slice ao n c, .int .i64 p] w fun e w' => e = .returned (.bool true) ∧ w' = w := by
  have t0 : decide ((p : Int) < 0) = false := by simp
  go_enter Trym.func3, Trym.ntmps3
  go_wp2
  go_ret
  exact ⟨rfl, rfl⟩

set_option maxHeartbeats 400000 in
theorem bounds_in (x : Addr) (n c i : Nat) (zs : List Int) (w : World) (hn : n ≤ 1048576) (hi : i < n) (hnz : n ≤ zs.length) (hx : ∀ k, k < zs.length → w.cell? (x.add k) = some (.int .u8 (zs.getD k 0))) :
    Calls Trym.prog 3 #[.slice (some x) n c, .int .i64 i] w fun e w' => e = .returned (.bool true) ∧ Below w.heap.size w w' := by
  have hC := clone_some x n c zs w hn hnz hx (by omega)
  clear hx
  have t0 : decide ((i : Int) < 0) = false := by simp
  go_enter Trym.func3, Trym.ntmps3
  go_wp2_with (go_at_call 9; go_in)
  refine hC.mono ?_
  rintro e w1 ⟨rfl, hc, hg, hB⟩
  clear hC
  have hE := zzesc_any w.heap.size n n i zs w1 hn hi hc
  have HB : Hid (Below w.heap.size w w1) := hB
  have HC : Hid (∀ k, k < n → w1.cell? ⟨w.heap.size, k, none⟩ = some (.int .u8 (zs.getD k 0))) := hc
  clear hB hc hg
  go_wp2_with fail
  refine hE.mono ?_
  rintro e w2 ⟨j, r, rfl, ⟨e1, e2, e3, e4⟩, hw⟩
  obtain rfl := hw.symm
  clear hE
  have t6 : decide ((j : Int) ≤ (i : Int) + 6) = true := by simp; omega
  rcases e4 with ⟨rfl, f1, f2, f3⟩ | ⟨rfl, f1⟩ | ⟨rfl, f1⟩
  · obtain ⟨d, hd⟩ : ∃ d, d = zs.getD (i + 1) 0 := ⟨_, rfl⟩
    have hcd : w1.cell? ⟨w.heap.size, i + 1, none⟩ = some (.int .u8 d) := by rw [hd]; exact HC.out _ f1
    rw [← hd] at f2 f3
    clear hd HC
    by_cases h : d = 117
    · have g1 : j ≤ i + 6 := by omega
      have g2 : i + 6 ≤ j := by have := f2 h; omega
      have g4 : ((j : Int) == (i : Int) + 6) = true := by simp; omega
      clear f2 f3
      subst h
      go_wp2
      go_ret
      exact ⟨rfl, HB.out⟩
    · have g1 : j ≤ i + 2 := by have := f3 h; omega
      have g2 : i + 2 ≤ j := by have := f3 h; omega
      have g3 : (d == 117) = false := by simpa using h
      have g4 : ((j : Int) == (i : Int) + 2) = true := by simp; omega
      clear f2 f3 h
      go_wp2
      go_ret
      exact ⟨rfl, HB.out⟩
  · obtain rfl := f1
    go_wp2
    go_ret
    exact ⟨rfl, HB.out⟩
  · go_wp2
    go_ret
    exact ⟨rfl, HB.out⟩

end Go.Proofs.Qxb6000688aMods
