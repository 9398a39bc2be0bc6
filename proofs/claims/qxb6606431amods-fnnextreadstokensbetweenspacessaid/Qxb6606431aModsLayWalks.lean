import Derived.Test.Qxb6606431aModsToks
import Derived.WalkSpells
import Derived.OwnWalk
set_option linter.unusedVariables false
namespace Go.Proofs.Qxb6606431aMods
open Go.ChangeShapes Go.WideShapes Go.ChangeAt Go.RowKit

theorem linfo5 : (Trym.prog.info? 5).map (fun i => (i.zero, i.size, i.bytes)) = some (some (.int .u8 0), 1, 1) := by kernel_rfl
theorem linfo3 : (Trym.prog.info? 3).map (fun i => (i.zero, i.size, i.bytes)) = some (some (.int .i64 0), 1, 8) := by kernel_rfl

theorem grown_trans {a w w' : World} {row : Option Nat} (h : a.grownBy w row) (k : w.grownBy w' row) : a.grownBy w' row :=
  ⟨k.os.trans h.os, k.tape.trans h.tape, k.output.trans h.output, Nat.le_trans h.size k.size, fun i hi hne => (k.block i (Nat.lt_of_lt_of_le hi h.size) hne).trans (h.block i hi hne)⟩

/-- b1SpaceByte: whatever its argument, white space. -/
theorem spaceByte_any (k : Int) (w : World) :
    Calls Trym.prog 14 #[.int .u32 k] w fun e w' => ∃ s : Int, e = .returned (.int .u8 s) ∧ spB s = true ∧ w' = w := by
  go_enter Trym.func14, Trym.ntmps14
  go_wp2
  all_goals
    go_ret
    exact ⟨_, rfl, rfl, rfl⟩

/-- b1TokenByte -/
theorem tokenByte_any (t : Int) (w : World) :
    Calls Trym.prog 12 #[.int .u8 t] w fun e w' => e = .returned (.int .u8 (tokI t)) ∧ w' = w := by
  unfold tokI
  by_cases h : spB t = true
  · rw [if_pos h]
    go_enter Trym.func12, Trym.ntmps12
    go_wp2_with (go_at_call 8; refine (space_any _ _).mono ?_; rintro e w' ⟨rfl, rfl⟩)
    go_ret
    exact ⟨rfl, rfl⟩
  · rw [if_neg h]
    have h' : spB t = false := by simpa using h
    clear h
    go_enter Trym.func12, Trym.ntmps12
    go_wp2_with (go_at_call 8; refine (space_any _ _).mono ?_; rintro e w' ⟨rfl, rfl⟩)
    go_ret
    exact ⟨rfl, rfl⟩

set_option maxHeartbeats 400000 in
/-- b1AppendSpaces, where there is room. -/
theorem appendSpaces_any (B g k cap : Nat) (xs : List Value) (gv : Int) (w : World) (hg0 : 0 ≤ gv) (hcap : k + 7 ≤ cap) (hmax : cap ≤ 1000000)
    (hown : w.ownsRow B 5 1 (.slice (some ⟨g, 0, none⟩) k cap) k xs) :
    Calls Trym.prog 11 #[.slice (some ⟨g, 0, none⟩) k cap, .int .u32 gv] w fun e w' => ∃ ss : List Int, e = .returned (.slice (some ⟨g, 0, none⟩) (k + ss.length) cap) ∧ (∀ s ∈ ss, spB s = true) ∧ ss.length ≤ 7 ∧
      w'.ownsRow B 5 1 (.slice (some ⟨g, 0, none⟩) (k + ss.length) cap) (k + ss.length) (xs ++ ss.map (Value.int .u8)) ∧ w.grownBy w' (some g) := by
  obtain ⟨i0, hi, hz0, hz1, hz2⟩ := info_parts linfo5
  have hc1 : 0 ≤ gv % 8 := by omega
  have hc2 : gv % 8 < 8 := by omega
  go_enter Trym.func11, Trym.ntmps11
  go_wp2
  go_loopw [0, 6] (fun v m wr => ∃ ss : List Int, (ss.length : Int) ≤ gv % 8 ∧ (∀ s ∈ ss, spB s = true) ∧ m = .int .i64 ss.length ∧ v = .slice (some ⟨g, 0, none⟩) (k + ss.length) cap ∧
      wr.ownsRow B 5 1 (.slice (some ⟨g, 0, none⟩) (k + ss.length) cap) (k + ss.length) (xs ++ ss.map (Value.int .u8)) ∧ w.grownBy wr (some g)) (fun _ m _ => 8 - (intOf m).toNat)
  case atStart => exact ⟨[], by simpa using hc1, by simp, rfl, rfl, by simpa using hown, World.grownBy.refl _ _⟩
  case round =>
    obtain ⟨ss, hs1, hs2, rfl, rfl, hown', hgr⟩ := hrel
    by_cases hlt : (ss.length : Int) < gv % 8
    · have hb1 : k + ss.length + 1 ≤ cap := by omega
      go_wp2_with (first
        | (go_at_call 14; refine (spaceByte_any _ _).mono ?_; rintro e w' ⟨s, rfl, hss, rfl⟩; have HS : Hid (spB s = true) := hss; clear hss)
        | (at_builtin; refine wpList_append_fits _ rfl (.tmp 20) (.tmp 26) 22 rfl B 5 i0 1 Trym.underlying22 hi hz1 g (k + ss.length) cap (xs ++ ss.map (Value.int .u8)) rfl (hown'.alloc _) _ 1 1 [.int .u8 s] rfl rfl (cell_one_new _ _ _) (by simp [Value.oneCell']) hb1 ?_; intro w2 hown2 hgr2))
      have e1 : (ss ++ [s]).length = ss.length + 1 := by simp
      have R : w2.ownsRow B 5 1 (.slice (some ⟨g, 0, none⟩) (k + (ss ++ [s]).length) cap) (k + (ss ++ [s]).length) (xs ++ (ss ++ [s]).map (Value.int .u8)) := by
        rw [e1, List.map_append, ← List.append_assoc]
        exact hown2
      have G := grown_trans (grown_trans hgr (World.grownBy_alloc _ _ _)) hgr2
      have A : ∀ x ∈ ss ++ [s], spB x = true := by
        intro x hx
        rcases List.mem_append.1 hx with h | h
        · exact hs2 x h
        · rw [List.mem_singleton.1 h]; exact HS.out
      go_roundw
      case rel => exact ⟨ss ++ [s], by rw [e1]; omega, A, by rw [e1]; go_num, by rw [e1]; rfl, R, G⟩
      case measure => simp [intOf]; omega
    · go_wp2
      go_ret
      exact ⟨ss, rfl, hs2, by omega, hown', hgr⟩

end Go.Proofs.Qxb6606431aMods
