import Derived.Test.Qxb6606431aModsRows
import Derived.WalkKit
import Derived.ProofKit
import Derived.WalkLawsBesides
import Derived.Below
import Derived.RegionTactic
import Derived.LoopTactic
import Derived.Outline
import Derived.Deep.QuietTactic
import Derived.BigQuiet
namespace Go.Proofs.Qxb6606431aMods
open Go.ChangeShapes Go.WideShapes Go.ChangeAt Go.RowKit

/-- JSON's white space. -/
def spB (c : Int) : Bool := decide (c = 32 ∨ c = 9 ∨ c = 10 ∨ c = 13)

theorem spB_cases (c : Int) : (c = 32 ∨ c = 9 ∨ c = 10 ∨ c = 13) ∨ ((c == 32) = false ∧ (c == 9) = false ∧ (c == 10) = false ∧ (c == 13) = false) := by
  by_cases h : c = 32 ∨ c = 9 ∨ c = 10 ∨ c = 13
  · exact .inl h
  · refine .inr ⟨?_, ?_, ?_, ?_⟩ <;> simp <;> omega

theorem spB_no {c : Int} (h : (c == 32) = false ∧ (c == 9) = false ∧ (c == 10) = false ∧ (c == 13) = false) : spB c = false := by
  obtain ⟨a, b, d, e⟩ := h
  simp at a b d e
  simp [spB]; omega

/-- b1IsJSONSpace -/
theorem space_any (c : Int) (w : World) :
    Calls Trym.prog 8 #[.int .u8 c] w fun e w' => e = .returned (.bool (spB c)) ∧ w' = w := by
  rcases spB_cases c with (rfl | rfl | rfl | rfl) | h
  · go_enter Trym.func8, Trym.ntmps8
    go_wp2
    go_ret
    exact ⟨rfl, rfl⟩
  · go_enter Trym.func8, Trym.ntmps8
    go_wp2
    go_ret
    exact ⟨rfl, rfl⟩
  · go_enter Trym.func8, Trym.ntmps8
    go_wp2
    go_ret
    exact ⟨rfl, rfl⟩
  · go_enter Trym.func8, Trym.ntmps8
    go_wp2
    go_ret
    exact ⟨rfl, rfl⟩
  · rw [spB_no h]
    obtain ⟨h1, h2, h3, h4⟩ := h
    go_enter Trym.func8, Trym.ntmps8
    go_wp2
    go_ret
    exact ⟨rfl, rfl⟩


/-- next, at the end of the bytes or beyond it. -/
theorem next_end (R : Nat) (ao : Option Addr) (n c p : Nat) (w : World) (hpn : n ≤ p)
    (hd : w.cell? ⟨R, 0, none⟩ = some (.slice ao n c)) (hq : w.cell? ⟨R, 1, none⟩ = some (.int .i64 p)) :
    Calls Trym.prog 13 #[.pointer (some ⟨R, 0, none⟩)] w fun e w' => e = .returned (.tuple #[.int .u8 0, .bool false]) ∧ ∃ m, w' = w.drewN m := by
  have hlt : decide ((p : Int) < (n : Int)) = false := by simp; omega
  go_enter Trym.func13, Trym.ntmps13
  go_wp2
  refine wp_loop_rounds 1 ?_
  rw [rounds_succ]
  go_wp2
  go_quiet (fail)
  go_wp2
  go_ret2
  exact ⟨rfl, _, rfl⟩

/-- next, inside the bytes. -/
theorem next_in (R b off n c p : Nat) (zs : List Int) (w : World) (hn : n ≤ maxLen) (hpn : p < n) (hbR : b < R)
    (hd : w.cell? ⟨R, 0, none⟩ = some (.slice (some ⟨b, off, none⟩) n c)) (hq : w.cell? ⟨R, 1, none⟩ = some (.int .i64 p)) (hf : w.frozen? ⟨R, 1, none⟩ = false)
    (hz : ∀ i, i < n → w.cell? ⟨b, off + i, none⟩ = some (.int .u8 (zs.getD i 0))) :
    Calls Trym.prog 13 #[.pointer (some ⟨R, 0, none⟩)] w fun e w' => ∃ (np : Nat) (d : Int) (ok : Bool), e = .returned (.tuple #[.int .u8 d, .bool ok]) ∧ w'.cell? ⟨R, 1, none⟩ = some (.int .i64 np) ∧ Below R w w' ∧
      p ≤ np ∧ np ≤ n ∧ (∀ j, p ≤ j → j < np → spB (zs.getD j 0) = true) ∧ ((ok = true ∧ np < n ∧ d = zs.getD np 0 ∧ spB d = false) ∨ (ok = false ∧ d = 0 ∧ np = n)) := by
  unfold maxLen at hn
  go_enter Trym.func13, Trym.ntmps13
  go_wp2
  go_loopw [2] (fun _ wr => ∃ k : Nat, p ≤ k ∧ k ≤ n ∧ wr.cell? ⟨R, 1, none⟩ = some (.int .i64 k) ∧ wr.cell? ⟨R, 0, none⟩ = some (.slice (some ⟨b, off, none⟩) n c) ∧ wr.frozen? ⟨R, 1, none⟩ = false ∧ Below R w wr ∧ (∀ j, p ≤ j → j < k → spB (zs.getD j 0) = true))
    (fun _ wr => n - (intOf ((wr.cell? ⟨R, 1, none⟩).getD (.int .i64 0))).toNat)
  case atStart => exact ⟨p, by omega, by omega, hq, hd, hf, Below.refl _ _, by omega⟩
  case round =>
    obtain ⟨k, hk1, hk2, hq', hd', hf', hb, hsp⟩ := hrel
    have HS : Hid (∀ j, p ≤ j → j < k → spB (zs.getD j 0) = true) := hsp
    clear hsp
    by_cases hlt : k < n
    · obtain ⟨d, he⟩ : ∃ d, d = zs.getD k 0 := ⟨_, rfl⟩
      have hc : wr.cell? ⟨b, off + k, none⟩ = some (.int .u8 d) := by rw [he]; exact (hb.cell (by exact hbR)).trans (hz k hlt)
      have HE : Hid (d = zs.getD k 0) := he
      clear he
      have hli : (k : Int) < (n : Int) := by omega
      rcases spB_cases d with h | h
      · have hs : spB d = true := by simp [spB]; omega
        have HS' : Hid (∀ j, p ≤ j → j < k + 1 → spB (zs.getD j 0) = true) := by
          intro j hj1 hj2
          by_cases hjk : j = k
          · rw [hjk, ← HE.out]; exact hs
          · exact HS.out j hj1 (by omega)
        clear hs HS HE
        rcases h with rfl | rfl | rfl | rfl
        all_goals
          go_wp2
          go_quiet (fail)
          go_wp2
          go_quiet (fail)
          go_wp2
        all_goals
          go_roundw
          case rel => exact ⟨k + 1, by omega, by omega, by simp [go_sem, hq'], by simp [go_sem, hd'], by simp [go_sem, hf'], (below_drewN hb _).setCell (Nat.le_refl _) _, HS'.out⟩
          case measure => simp [go_sem, hq', intOf]; omega
      · obtain ⟨h1, h2, h3, h4⟩ := h
        go_wp2
        go_quiet (fail)
        go_wp2
        go_quiet (fail)
        go_wp2
        go_ret2
        exact ⟨k, d, true, rfl, hq', below_drewN hb _, hk1, hk2, HS.out, .inl ⟨rfl, hlt, HE.out, spB_no ⟨h1, h2, h3, h4⟩⟩⟩
    · have hlf : decide ((k : Int) < (n : Int)) = false := by simp; omega
      go_wp2
      go_quiet (fail)
      go_wp2
      go_ret2
      exact ⟨k, 0, false, rfl, hq', below_drewN hb _, hk1, hk2, HS.out, .inr ⟨rfl, rfl, by omega⟩⟩


/-- ZZobjectReaderNext, at the end of the bytes or beyond it. -/
theorem zz_end (ao : Option Addr) (n c p : Nat) (w : World) (hpn : n ≤ p) :
    Calls Trym.prog 7 #[.slice ao n c, .int .i64 p] w fun e w' => e = .returned (.tuple #[.int .u8 0, .bool false, .int .i64 p]) ∧ Below w.heap.size w w' := by
  go_enter Trym.func7, Trym.ntmps7
  go_wp2_with (go_at_call 13; refine (next_end _ ao n c p _ hpn (by simp) (by simp)).mono ?_; rintro e w' ⟨rfl, m, rfl⟩)
  go_quiet (fail)
  go_wp2
  go_ret3
  exact ⟨rfl, below_drewN (below_drewN ((Below.refl _ _).alloc (Nat.le_refl _) _) _) _⟩

/-- ZZobjectReaderNext, inside the bytes. -/
theorem zz_in (b off n c p : Nat) (zs : List Int) (w : World) (hn : n ≤ maxLen) (hpn : p < n)
    (hz : ∀ i, i < n → w.cell? ⟨b, off + i, none⟩ = some (.int .u8 (zs.getD i 0))) :
    Calls Trym.prog 7 #[.slice (some ⟨b, off, none⟩) n c, .int .i64 p] w fun e w' => ∃ (np : Nat) (d : Int) (ok : Bool), e = .returned (.tuple #[.int .u8 d, .bool ok, .int .i64 np]) ∧ Below w.heap.size w w' ∧
      p ≤ np ∧ np ≤ n ∧ (∀ j, p ≤ j → j < np → spB (zs.getD j 0) = true) ∧ ((ok = true ∧ np < n ∧ d = zs.getD np 0 ∧ spB d = false) ∨ (ok = false ∧ d = 0 ∧ np = n)) := by
  have hbs : b < w.heap.size := World.block_lt_of_cell? w _ (hz p hpn)
  have HZ : Hid (∀ i, i < n → w.cell? ⟨b, off + i, none⟩ = some (.int .u8 (zs.getD i 0))) := hz
  clear hz
  go_enter Trym.func7, Trym.ntmps7
  go_wp2_with fail
  have hz' : ∀ i, i < n → (w.alloc (.cells #[.slice (some ⟨b, off, none⟩) n c, .int .i64 p] 35)).cell? ⟨b, off + i, none⟩ = some (.int .u8 (zs.getD i 0)) := by
    intro i hi
    rw [World.cell?_alloc_past _ _ _ (by exact hbs)]
    exact HZ.out i hi
  refine (next_in w.heap.size b off n c p zs _ hn hpn hbs (by simp) (by simp) (by simp) hz').mono ?_
  rintro e w' ⟨np, d, ok, rfl, hc, hb, r⟩
  have R : Hid (p ≤ np ∧ np ≤ n ∧ (∀ j, p ≤ j → j < np → spB (zs.getD j 0) = true) ∧ ((ok = true ∧ np < n ∧ d = zs.getD np 0 ∧ spB d = false) ∨ (ok = false ∧ d = 0 ∧ np = n))) := r
  clear r hz' HZ
  go_wp2
  go_quiet (fail)
  go_wp2
  go_ret3
  exact ⟨np, d, ok, rfl, below_drewN (((Below.refl _ _).alloc (Nat.le_refl _) _).trans hb) _, R.out⟩

end Go.Proofs.Qxb6606431aMods
