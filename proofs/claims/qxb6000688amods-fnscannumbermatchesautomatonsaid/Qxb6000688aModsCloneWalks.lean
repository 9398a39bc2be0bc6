import Derived.Test.Qxb6000688aModsRows
import Derived.WalkKit
import Derived.ProofKit
import Derived.WalkLawsBesides
import Derived.Below
import Derived.LoopTactic
import Derived.Outline
import Derived.WalkSpells
import Derived.OwnWalk
set_option linter.unusedVariables false
namespace Go.Proofs.Qxb6000688aMods
open Go.ChangeShapes Go.WideShapes Go.ChangeAt Go.RowKit

theorem info5 : (Trym.prog.info? 5).map (fun i => (i.zero, i.size, i.bytes)) = some (some (.int .u8 0), 1, 1) := by kernel_rfl

/-- What is known of the copy ahead of round k. -/
def Cl (n g : Nat) (zs : List Int) (w : World) (k : Nat) (wr : World) : Prop :=
  (∀ j, j < n → ∃ v, wr.cell? ⟨g, j, none⟩ = some v) ∧ (∀ j, j < n → wr.frozen? ⟨g, j, none⟩ = false) ∧ (∀ j, j < k → wr.cell? ⟨g, j, none⟩ = some (.int .u8 (zs.getD j 0))) ∧ g < wr.heap.size ∧ Below g w wr

theorem Cl.start {n : Nat} {zs : List Int} {w w1 : World} {xs : List Value} (h : w1.ownsRow w.heap.size 5 1 (.slice (some ⟨w.heap.size, 0, none⟩) n n) n xs) (hg : w.grownBy w1 none) : Cl n w.heap.size zs w 0 w1 := by
  have hlt := (h.lt _ rfl).2
  obtain ⟨h1, h2 | ⟨g', cap, cur, hv, hb, hh, hn, hm, hs, ht⟩⟩ := h
  · simp at h2
  · simp at hv
    obtain ⟨rfl, rfl⟩ := hv
    refine ⟨?_, ?_, by omega, hlt, (Below.refl _ _).grown hg (Nat.le_refl _) (by intro j hj; cases hj)⟩
    · intro j hj
      rw [cell_of_row w1 _ _ _ _ _ hh]
      exact ⟨_, Array.getElem?_eq_getElem (by omega)⟩
    · intro j hj
      simp [World.frozen?, hh]

theorem Cl.step {n g : Nat} {zs : List Int} {w wr : World} {k : Nat} (h : Cl n g zs w k wr) (hk : k < n) : Cl n g zs w (k + 1) (wr.setCell ⟨g, k, none⟩ (.int .u8 (zs.getD k 0))) := by
  obtain ⟨h1, h2, h3, h4, h5⟩ := h
  obtain ⟨v, hv⟩ := h1 k hk
  have hsame : (wr.setCell ⟨g, k, none⟩ (.int .u8 (zs.getD k 0))).cell? ⟨g, k, none⟩ = some (.int .u8 (zs.getD k 0)) := World.cell?_setCell_same _ _ _ hv
  have hoth : ∀ j, j ≠ k → (wr.setCell ⟨g, k, none⟩ (.int .u8 (zs.getD k 0))).cell? ⟨g, j, none⟩ = wr.cell? ⟨g, j, none⟩ := fun j hj => World.cell?_setCell_other (h := fun e => hj (by have := congrArg Addr.off e; simpa using this.symm)) ..
  refine ⟨?_, ?_, ?_, by simpa [World.setCell] using h4, h5.setCell (Nat.le_refl _) _⟩
  · intro j hj
    by_cases e : j = k
    · subst e; exact ⟨_, hsame⟩
    · rw [hoth j e]; exact h1 j hj
  · intro j hj
    simpa [go_sem] using h2 j hj
  · intro j hj
    by_cases e : j = k
    · subst e; exact hsame
    · rw [hoth j e]; exact h3 j (by omega)

set_option maxHeartbeats 400000 in
/-- cloneBytes, of a slice that is not nil. -/
theorem clone_some (x : Addr) (n c : Nat) (zs : List Int) (w : World) (hn : n ≤ 1048576) (hnz : n ≤ zs.length) (hx : ∀ i, i < zs.length → w.cell? (x.add i) = some (.int .u8 (zs.getD i 0))) (h0 : 0 < n) :
    Calls Trym.prog 10 #[.slice (some x) n c] w fun e w' => e = .returned (.slice (some ⟨w.heap.size, 0, none⟩) n n) ∧ (∀ i, i < n → w'.cell? ⟨w.heap.size, i, none⟩ = some (.int .u8 (zs.getD i 0))) ∧ w.heap.size < w'.heap.size ∧ Below w.heap.size w w' := by
  obtain ⟨b, off, spot⟩ := x
  have hspot : spot = none := by simpa [Addr.add] using World.cell?_spot (hx 0 (by omega))
  subst hspot
  have HX : Hid (∀ i, i < n → w.cell? ⟨b, off + i, none⟩ = some (.int .u8 (zs.getD i 0))) := by
    intro i hi
    have := hx i (by omega)
    rwa [add_plain] at this
  clear hx
  have hb : b < w.heap.size := World.block_lt_of_cell? w _ (HX.out 0 h0)
  have hne := fun (wx : World) => Lib.run_eql_slice_nil (P := Trym.prog) wx 22 5 (some ⟨b, off, none⟩) n c 0 0 Trym.underlying22
  obtain ⟨i0, hi, hz0, hz1, hz2⟩ := info_parts info5
  go_enter Trym.func10, Trym.ntmps10
  go_wp2_with (at_make; refine wpList_make_full _ rfl (.tmp 8) (.tmp 8) 22 rfl w.heap.size 5 i0 (.int .u8 0) 1 Trym.underlying22 hi hz0 hz1 _ _ _ _ n rfl rfl rfl rfl (by rw [hz2]; omega) (by unfold maxLen; omega) (Nat.le_refl _) ?_; intro w1 hown hgrow)
  have C0 : Cl n w.heap.size zs w 0 w1 := Cl.start hown hgrow
  clear hown hgrow hi hz0 hz1 hz2 hne
  go_loopw [4] (fun i wr => ∃ k : Nat, k ≤ n ∧ i = .int .i64 k ∧ Cl n w.heap.size zs w k wr) (fun i _ => n - (intOf i).toNat)
  case atStart => exact ⟨0, Nat.zero_le _, rfl, C0⟩
  case round =>
    obtain ⟨k, hk, rfl, C⟩ := hrel
    by_cases hlt : k < n
    · have hc := (C.2.2.2.2.cell (p := ⟨b, off + k, none⟩) hb).trans (HX.out k hlt)
      obtain ⟨v, hv⟩ := C.1 k hlt
      have hf := C.2.1 k hlt
      have R := C.step hlt
      obtain ⟨d, hd⟩ : ∃ d, d = zs.getD k 0 := ⟨_, rfl⟩
      rw [← hd] at hc R
      clear hd
      go_wp2
      go_roundw
      case rel => exact ⟨k + 1, by omega, by go_num, R⟩
      case measure => simp [intOf]; omega
    · obtain rfl : n = k := by omega
      go_wp2
      go_ret
      exact ⟨rfl, C.2.2.1, C.2.2.2.1, C.2.2.2.2⟩

end Go.Proofs.Qxb6000688aMods
