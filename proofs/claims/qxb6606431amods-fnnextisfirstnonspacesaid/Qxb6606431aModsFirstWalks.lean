import Derived.Test.Qxb6606431aModsNextWalks
import Derived.Laws.CopyOwn
import Derived.WalkSpells
import Derived.OwnWalk
set_option linter.unusedVariables false
namespace Go.Proofs.Qxb6606431aMods
open Go.ChangeShapes Go.WideShapes Go.ChangeAt Go.RowKit

theorem info5 : (Trym.prog.info? 5).map (fun i => (i.zero, i.size, i.bytes)) = some (some (.int .u8 0), 1, 1) := by kernel_rfl
theorem size5 : (Trym.prog.info? 5).map (·.size) = some 1 := by kernel_rfl

/-- What a row that was made holds, as one block. -/
theorem made_block {w : World} {base g n : Nat} {xs : List Value} (h : w.ownsRow base 5 1 (.slice (some ⟨g, 0, none⟩) n n) n xs) : ∃ cur : List Value, w.heap[g]? = some (.cells cur.toArray 5 (0, 0)) ∧ cur.length = n := by
  obtain ⟨h1, h2 | ⟨g', cap, cur, hv, hb, hh, hn, hm, hs, ht⟩⟩ := h
  · simp at h2
  · simp at hv
    obtain ⟨rfl, rfl⟩ := hv
    exact ⟨cur.toList, by simpa using hh, by simpa using hs⟩

theorem splice_all {L cs : List Value} (h : L.length = cs.length) : splice L 0 cs = cs := by
  simp [splice, ← h]

/-- The copied bytes, cell by cell. -/
theorem copied_cells {w : World} {g n : Nat} {cur : List Value} {zs : List Int} (hl : cur.length = n) (hz : n ≤ zs.length)
    (h : w.heap[g]? = some (.cells (splice cur 0 ((zs.take n).map (Value.int .u8))).toArray 5 (0, 0))) : ∀ i, i < n → w.cell? ⟨g, 0 + i, none⟩ = some (.int .u8 (zs.getD i 0)) := by
  intro i hi
  rw [splice_all (by simp; omega)] at h
  rw [cell_of_row w g _ _ _ _ h]
  simp [hi, List.getElem?_eq_getElem (show i < zs.length by omega)]

theorem first_big (ao : Option Addr) (n c : Nat) (p : Int) (w : World) (hn : n ≤ maxLen) (hb : 1048576 < n) :
    Calls Trym.prog 3 #[.slice ao n c, .int .i64 p] w fun e w' => e = .returned (.bool true) ∧ w' = w := by
  unfold maxLen at hn
  go_enter Trym.func3, Trym.ntmps3
  go_wp2
  go_ret
  exact ⟨rfl, rfl⟩

theorem first_neg (ao : Option Addr) (n c : Nat) (p : Int) (w : World) (hb : n ≤ 1048576) (hp : p < 0) :
    Calls Trym.prog 3 #[.slice ao n c, .int .i64 p] w fun e w' => e = .returned (.bool true) ∧ w' = w := by
  go_enter Trym.func3, Trym.ntmps3
  go_wp2
  go_ret
  exact ⟨rfl, rfl⟩

theorem first_nil (p : Nat) (w : World) :
    Calls Trym.prog 3 #[.slice none 0 0, .int .i64 p] w fun e w' => e = .returned (.bool true) ∧ Below w.heap.size w w' := by
  have hne := fun (wx : World) => run_neq_slice_nil_any (P := Trym.prog) wx 22 5 none 0 0 0 0 Trym.underlying22
  go_enter Trym.func3, Trym.ntmps3
  go_wp2_with (first | (go_at_call 7; refine (zz_end none 0 0 p _ (Nat.zero_le _)).mono ?_; rintro e w' ⟨rfl, hb⟩) | go_in)
  go_ret
  exact ⟨rfl, hb⟩

/-- Every fact that the copy asks, once the row is made. -/
theorem copy_facts {w w1 : World} {x : Addr} {n : Nat} {zs : List Int} {xs : List Value} (hnz : n ≤ zs.length)
    (hz : ∀ i, i < zs.length → w.cell? (x.add i) = some (.int .u8 (zs.getD i 0)))
    (hown : w1.ownsRow w.heap.size 5 1 (.slice (some ⟨w.heap.size, 0, none⟩) n n) n xs) (hgrow : w.grownBy w1 none) :
    ∃ cur : List Value, w1.heap[w.heap.size]? = some (.cells cur.toArray 5 (0, 0)) ∧ cur.length = n ∧ Below w.heap.size w w1 ∧ ((zs.take n).map (Value.int .u8)).length = Nat.min n n ∧
      (0 < ((zs.take n).map (Value.int .u8)).length → some (⟨w.heap.size, 0, none⟩ : Addr) = some ⟨w.heap.size, 0, none⟩ ∧ ∃ ad, some x = some ad ∧ ∀ j v, ((zs.take n).map (Value.int .u8))[j]? = some v → w1.cell? (ad.add j) = some v) ∧
      0 + ((zs.take n).map (Value.int .u8)).length ≤ cur.length ∧ ∀ v ∈ (zs.take n).map (Value.int .u8), v.oneCell' = true := by
  obtain ⟨cur, hcur, hcl⟩ := made_block hown
  have hB : Below w.heap.size w w1 := (Below.refl _ _).grown hgrow (Nat.le_refl _) (by intro k hk; cases hk)
  refine ⟨cur, hcur, hcl, hB, by simp; omega, fun _ => ⟨rfl, x, rfl, ?_⟩, by simp; omega, ?_⟩
  · intro j v hj
    by_cases hjn : j < n
    · simp [hjn, List.getElem?_eq_getElem (show j < zs.length by omega)] at hj
      subst hj
      have hc := hz j (by omega)
      have hlt := World.block_lt_of_cell? w _ hc
      rw [hB.cell hlt, hc]
      simp [List.getElem?_eq_getElem (show j < zs.length by omega)]
    · rw [List.getElem?_eq_none (by simp; omega)] at hj
      cases hj
  · intro v hv
    obtain ⟨a, _, rfl⟩ := List.mem_map.1 hv
    rfl

set_option maxHeartbeats 400000 in
theorem first_some (x : Addr) (n c p : Nat) (zs : List Int) (w : World) (hb : n ≤ 1048576) (hnz : n ≤ zs.length) (hp : (p : Int) ≤ 9223372036854775807)
    (hz : ∀ i, i < zs.length → w.cell? (x.add i) = some (.int .u8 (zs.getD i 0))) :
    Calls Trym.prog 3 #[.slice (some x) n c, .int .i64 p] w fun e w' => e = .returned (.bool true) ∧ Below w.heap.size w w' := by
  have hne := fun (wx : World) => run_neq_slice_nil_any (P := Trym.prog) wx 22 5 (some x) n c 0 0 Trym.underlying22
  obtain ⟨i0, hi, hz0, hz1, hz2⟩ := info_parts info5
  obtain ⟨cs, hcs⟩ : ∃ cs, cs = (zs.take n).map (Value.int .u8) := ⟨_, rfl⟩
  have CF : Hid (∀ (w1 : World) (xs : List Value), w1.ownsRow w.heap.size 5 1 (.slice (some ⟨w.heap.size, 0, none⟩) n n) n xs → w.grownBy w1 none → ∃ cur : List Value, w1.heap[w.heap.size]? = some (.cells cur.toArray 5 (0, 0)) ∧ cur.length = n ∧ Below w.heap.size w w1 ∧ cs.length = Nat.min n n ∧
      (0 < cs.length → some (⟨w.heap.size, 0, none⟩ : Addr) = some ⟨w.heap.size, 0, none⟩ ∧ ∃ ad, some x = some ad ∧ ∀ j v, cs[j]? = some v → w1.cell? (ad.add j) = some v) ∧ 0 + cs.length ≤ cur.length ∧ ∀ v ∈ cs, v.oneCell' = true) := by
    intro w1 xs h1 h2
    rw [hcs]
    exact copy_facts hnz hz h1 h2
  have HC : Hid (cs = (zs.take n).map (Value.int .u8)) := hcs
  clear hcs hz
  go_enter Trym.func3, Trym.ntmps3
  go_wp2_with (first
    | (at_make; refine wpList_make_full _ rfl (.tmp 22) (.tmp 22) 22 rfl w.heap.size 5 i0 (.int .u8 0) 1 Trym.underlying22 hi hz0 hz1 _ _ _ _ n rfl rfl rfl rfl (by rw [hz2]; omega) (by unfold maxLen; omega) (Nat.le_refl _) ?_; intro w1 hown hgrow; obtain ⟨cur, f1, f2, f3, f4, f5, f6, f7⟩ := CF.out w1 _ hown hgrow; have F : Hid (cur.length = n ∧ Below w.heap.size w w1 ∧ cs.length = Nat.min n n ∧ (0 < cs.length → some (⟨w.heap.size, 0, none⟩ : Addr) = some ⟨w.heap.size, 0, none⟩ ∧ ∃ ad, some x = some ad ∧ ∀ j v, cs[j]? = some v → w1.cell? (ad.add j) = some v) ∧ 0 + cs.length ≤ cur.length ∧ ∀ v ∈ cs, v.oneCell' = true) := ⟨f2, f3, f4, f5, f6, f7⟩; clear f2 f3 f4 f5 f6 f7 hown hgrow CF)
    | (refine wpList_copy_splice rfl (.tmp 24) (.tmp 25) 22 22 rfl 5 Trym.underlying22 size5 (some ⟨w.heap.size, 0, none⟩) (some x) n n n c rfl rfl w.heap.size 0 cur 5 f1 cs F.out.2.2.1 F.out.2.2.2.1 F.out.2.2.2.2.1 F.out.2.2.2.2.2 w.heap.size w F.out.2.1 (Nat.le_refl _) ?_; intro w2 HG2 hB2; clear f1)
    | (go_at_call 6; go_in))
  have hcz : ∀ i, i < n → w2.cell? ⟨w.heap.size, 0 + i, none⟩ = some (.int .u8 (zs.getD i 0)) := copied_cells F.out.1 hnz (HC.out ▸ HG2.out)
  have hgs : w.heap.size < w2.heap.size := lt_of_block HG2.out
  clear F HC HG2 hi hz0 hz1 hz2
  by_cases hpn : n ≤ p
  · clear hcz hgs
    refine (zz_end _ n n p _ hpn).mono ?_
    rintro e w3 ⟨rfl, hb3⟩
    go_wp2
    go_ret
    exact ⟨rfl, hB2.trans (hb3.mono hB2.size)⟩
  · have hpn' : p < n := by omega
    clear hpn
    refine (zz_in w.heap.size 0 n n p zs _ (by unfold maxLen; omega) hpn' hcz).mono ?_
    rintro e w3 ⟨np, d, ok, rfl, hb3, hr1, hr2, hr3, hr4⟩
    have HC3 : Hid (∀ i, i < n → w3.cell? ⟨w.heap.size, i, none⟩ = some (.int .u8 (zs.getD i 0))) := by
      intro i hi
      rw [hb3.cell hgs]
      simpa using hcz i hi
    have HR : Hid (∀ j, p ≤ j → j < np → spB (zs.getD j 0) = true) := hr3
    have HB : Hid (Below w.heap.size w w3) := hB2.trans (hb3.mono hB2.size)
    clear hr3 hcz hb3 hB2
    have t0 : decide (n ≤ p) = false := by simp; omega
    have t1 : decide (np < p) = false := by simp; omega
    have t2 : decide (n < np) = false := by simp; omega
    rcases hr4 with ⟨rfl, hnp, hd, hsd⟩ | ⟨rfl, rfl, rfl⟩
    · have hcd : w3.cell? ⟨w.heap.size, np, none⟩ = some (.int .u8 d) := by rw [hd]; exact HC3.out np hnp
      clear hd
      go_wp2
      go_loopw [9] (fun j wr => ∃ k : Nat, p ≤ k ∧ k ≤ np ∧ j = .int .i64 k ∧ wr = w3) (fun j _ => np - (intOf j).toNat)
      case atStart => exact ⟨p, Nat.le_refl _, hr1, rfl, rfl⟩
      case round =>
        obtain ⟨k, hk1, hk2, rfl, hw⟩ := hrel
        subst hw
        by_cases hlt : k < np
        · obtain ⟨d', hd'⟩ : ∃ d', d' = zs.getD k 0 := ⟨_, rfl⟩
          have hck : wr.cell? ⟨w.heap.size, k, none⟩ = some (.int .u8 d') := by rw [hd']; exact HC3.out k (by omega)
          have hsk : spB d' = true := by rw [hd']; exact HR.out k hk1 hlt
          clear hd'
          go_wp2_with (go_at_call 8; refine (space_any _ _).mono ?_; rintro e w' ⟨rfl, rfl⟩)
          go_roundw
          case rel => exact ⟨k + 1, by omega, by omega, by go_num, trivial⟩
          case measure => simp [intOf]; omega
        · go_wp2_with (go_at_call 8; refine (space_any _ _).mono ?_; rintro e w' ⟨rfl, rfl⟩)
          go_ret
          exact ⟨rfl, HB.out⟩
    · go_wp2
      go_loopw [9] (fun j wr => ∃ k : Nat, p ≤ k ∧ k ≤ np ∧ j = .int .i64 k ∧ wr = w3) (fun j _ => np - (intOf j).toNat)
      case atStart => exact ⟨p, Nat.le_refl _, hr1, rfl, rfl⟩
      case round =>
        obtain ⟨k, hk1, hk2, rfl, hw⟩ := hrel
        subst hw
        by_cases hlt : k < np
        · obtain ⟨d', hd'⟩ : ∃ d', d' = zs.getD k 0 := ⟨_, rfl⟩
          have hck : wr.cell? ⟨w.heap.size, k, none⟩ = some (.int .u8 d') := by rw [hd']; exact HC3.out k (by omega)
          have hsk : spB d' = true := by rw [hd']; exact HR.out k hk1 hlt
          clear hd'
          go_wp2_with (go_at_call 8; refine (space_any _ _).mono ?_; rintro e w' ⟨rfl, rfl⟩)
          go_roundw
          case rel => exact ⟨k + 1, by omega, by omega, by go_num, trivial⟩
          case measure => simp [intOf]; omega
        · go_wp2_with fail
          go_ret
          exact ⟨rfl, HB.out⟩

end Go.Proofs.Qxb6606431aMods
