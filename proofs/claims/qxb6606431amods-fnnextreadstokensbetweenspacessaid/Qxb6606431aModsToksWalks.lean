import Derived.Test.Qxb6606431aModsLayWalks
set_option linter.unusedVariables false
namespace Go.Proofs.Qxb6606431aMods
open Go.ChangeShapes Go.WideShapes Go.ChangeAt Go.RowKit

/-- zzBytes: some bool. -/
theorem zzb_any (a0 : Option Addr) (nt c0 : Nat) (a1 : Option Addr) (ng c1 : Nat) (w : World) (h0 : nt ≤ maxLen) (h1 : ng ≤ maxLen) :
    Calls Trym.prog 10 #[.slice a0 nt c0, .slice a1 ng c1] w fun e w' => (∃ b : Bool, e = .returned (.bool b)) ∧ w' = w := by
  unfold maxLen at h0 h1
  go_enter Trym.func10, Trym.ntmps10
  go_wp2
  all_goals
    go_ret
    exact ⟨⟨_, rfl⟩, rfl⟩

theorem zzb_true (a0 : Option Addr) (nt c0 : Nat) (a1 : Option Addr) (ng c1 : Nat) (w : World) (h0 : nt ≤ 65536) (h1 : ng ≤ 65536) :
    Calls Trym.prog 10 #[.slice a0 nt c0, .slice a1 ng c1] w fun e w' => e = .returned (.bool true) ∧ w' = w := by
  go_enter Trym.func10, Trym.ntmps10
  go_wp2
  go_ret
  exact ⟨rfl, rfl⟩

theorem toks_big (a0 : Option Addr) (nt c0 : Nat) (a1 : Option Addr) (ng c1 : Nat) (w : World) (h0 : nt ≤ maxLen) (h1 : ng ≤ maxLen) (hb : 65536 < nt ∨ 65536 < ng) :
    Calls Trym.prog 5 #[.slice a0 nt c0, .slice a1 ng c1] w fun e w' => e = .returned (.bool true) ∧ w' = w := by
  have hz := zzb_any a0 nt c0 a1 ng c1 w h0 h1
  unfold maxLen at h0 h1
  have hb' : 65536 < nt ∨ (nt ≤ 65536 ∧ 65536 < ng) := by omega
  clear hb
  rcases hb' with hb | ⟨hb1, hb2⟩
  · go_enter Trym.func5, Trym.ntmps5
    go_wp2_with fail
    refine hz.mono ?_
    rintro e w' ⟨⟨b, rfl⟩, rfl⟩
    clear hz
    cases b
    all_goals
      go_wp2
      go_ret
      exact ⟨rfl, rfl⟩
  · go_enter Trym.func5, Trym.ntmps5
    go_wp2_with fail
    refine hz.mono ?_
    rintro e w' ⟨⟨b, rfl⟩, rfl⟩
    clear hz
    cases b
    all_goals
      go_wp2
      go_ret
      exact ⟨rfl, rfl⟩

/-- A place of a token, as a cell. -/
def atV (a : Nat) : Value := .int .i64 (a : Int)

/-- What stands in memory ahead of round k of the first loop. -/
def St (tk : Nat → Int) (nt gd ga : Nat) (w : World) (k : Nat) (D : List Int) (A : List Nat) (wr : World) : Prop :=
  ((k ≤ nt ∧ Good tk k D A) ∨ (k = nt + 1 ∧ Done tk nt D A)) ∧ wr.ownsRow w.heap.size 5 1 (.slice (some ⟨gd, 0, none⟩) D.length (8 * nt + 8)) D.length (D.map (Value.int .u8)) ∧
    wr.ownsRow w.heap.size 3 1 (.slice (some ⟨ga, 0, none⟩) A.length nt) A.length (A.map atV) ∧ Below w.heap.size w wr

theorem kept_other {wr wg : World} {B : Nat} {e : TypeId} {ga gd n c : Nat} {xs : List Value} (h : wr.ownsRow B e 1 (.slice (some ⟨ga, 0, none⟩) n c) n xs) (hg : wr.grownBy wg (some gd)) (hne : ga ≠ gd) :
    wg.ownsRow B e 1 (.slice (some ⟨ga, 0, none⟩) n c) n xs := h.kept hg (.inr (by simp [Value.ownBlock]; exact hne))

theorem cell_grown_alloc {wg w3 : World} {o1 : Obj} {row : Option Nat} {b o : Nat} {v : Value} (h : wg.cell? ⟨b, o, none⟩ = some v) (hg : (wg.alloc o1).grownBy w3 row) (hne : some b ≠ row) : w3.cell? ⟨b, o, none⟩ = some v :=
  hg.cell (by rw [World.cell?_alloc_past _ _ _ (World.block_lt_of_cell? wg _ h)]; exact h) hne

/-- Round k lays a gap and a token. -/
theorem St.tok {tk : Nat → Int} {nt gd ga : Nat} {w wr wg w3 w4 : World} {k : Nat} {D : List Int} {A : List Nat} {ss : List Int} {o1 o2 : Obj} (h : St tk nt gd ga w k D A wr) (hk : k < nt) (hne : ga ≠ gd) (hB : w.heap.size ≤ gd) (hB2 : w.heap.size ≤ ga)
    (hs : ∀ s ∈ ss, spB s = true) (hl : ss.length ≤ 7) (hgr : wr.grownBy wg (some gd)) (hg3 : (wg.alloc o1).grownBy w3 (some ga))
    (hA3 : w3.ownsRow w.heap.size 3 1 (.slice (some ⟨ga, 0, none⟩) (A.length + 1) nt) (A.length + 1) (A.map atV ++ [atV (D.length + ss.length)])) (hg4 : (w3.alloc o2).grownBy w4 (some gd))
    (hD4 : w4.ownsRow w.heap.size 5 1 (.slice (some ⟨gd, 0, none⟩) (D.length + ss.length + 1) (8 * nt + 8)) (D.length + ss.length + 1) (D.map (Value.int .u8) ++ ss.map (Value.int .u8) ++ [.int .u8 (tk k)])) :
    St tk nt gd ga w (k + 1) (D ++ ss ++ [tk k]) (A ++ [D.length + ss.length]) w4 := by
  obtain ⟨hgood, hD, hA, hbel⟩ := h
  have hG : Good tk k D A := by
    rcases hgood with ⟨_, g⟩ | ⟨e, _⟩
    · exact g
    · omega
  have sz := hbel.size
  have b1 : Below w.heap.size w wg := hbel.grown hgr sz (by intro j hj; cases hj; exact hB)
  have s1 := b1.size
  have b2 : Below w.heap.size w w3 := (b1.alloc s1 o1).grown hg3 (by simp; omega) (by intro j hj; cases hj; exact hB2)
  have s2 := b2.size
  have b3 : Below w.heap.size w w4 := (b2.alloc s2 o2).grown hg4 (by simp; omega) (by intro j hj; cases hj; exact hB)
  refine ⟨.inl ⟨by omega, hG.step ss hs hl⟩, ?_, ?_, b3⟩
  · have e : (D ++ ss ++ [tk k]).length = D.length + ss.length + 1 := by simp; omega
    rw [e, List.map_append, List.map_append]
    exact hD4
  · have e : (A ++ [D.length + ss.length]).length = A.length + 1 := by simp
    rw [e, List.map_append]
    have r := kept_other (hA3.alloc o2) hg4 hne
    exact r

/-- The last round lays a gap alone. -/
theorem St.last {tk : Nat → Int} {nt gd ga : Nat} {w wr wg : World} {D : List Int} {A : List Nat} {ss : List Int} (h : St tk nt gd ga w nt D A wr) (hne : ga ≠ gd) (hB : w.heap.size ≤ gd)
    (hs : ∀ s ∈ ss, spB s = true) (hl : ss.length ≤ 7) (hgr : wr.grownBy wg (some gd))
    (hDg : wg.ownsRow w.heap.size 5 1 (.slice (some ⟨gd, 0, none⟩) (D.length + ss.length) (8 * nt + 8)) (D.length + ss.length) (D.map (Value.int .u8) ++ ss.map (Value.int .u8))) :
    St tk nt gd ga w (nt + 1) (D ++ ss) A wg := by
  obtain ⟨hgood, hD, hA, hbel⟩ := h
  have hG : Good tk nt D A := by
    rcases hgood with ⟨_, g⟩ | ⟨e, _⟩
    · exact g
    · omega
  refine ⟨.inr ⟨rfl, hG.done ss hs hl⟩, ?_, kept_other hA hgr hne, hbel.grown hgr hbel.size (by intro j hj; cases hj; exact hB)⟩
  rw [List.length_append, List.map_append]
  exact hDg

theorem St.tok0 {tk : Nat → Int} {nt gd ga : Nat} {w wr w3 w4 : World} {k : Nat} {D : List Int} {A : List Nat} {o1 o2 : Obj} (h : St tk nt gd ga w k D A wr) (hk : k < nt) (hne : ga ≠ gd) (hB : w.heap.size ≤ gd) (hB2 : w.heap.size ≤ ga)
    (hg3 : (wr.alloc o1).grownBy w3 (some ga)) (hA3 : w3.ownsRow w.heap.size 3 1 (.slice (some ⟨ga, 0, none⟩) (A.length + 1) nt) (A.length + 1) (A.map atV ++ [atV D.length])) (hg4 : (w3.alloc o2).grownBy w4 (some gd))
    (hD4 : w4.ownsRow w.heap.size 5 1 (.slice (some ⟨gd, 0, none⟩) (D.length + 1) (8 * nt + 8)) (D.length + 1) (D.map (Value.int .u8) ++ [.int .u8 (tk k)])) :
    St tk nt gd ga w (k + 1) (D ++ [tk k]) (A ++ [D.length]) w4 := by
  have r := h.tok (ss := []) hk hne hB hB2 (by simp) (by simp) (World.grownBy.refl _ _) hg3 (by simpa using hA3) hg4 (by simpa using hD4)
  simpa using r

theorem St.last0 {tk : Nat → Int} {nt gd ga : Nat} {w wr : World} {D : List Int} {A : List Nat} (h : St tk nt gd ga w nt D A wr) (hne : ga ≠ gd) (hB : w.heap.size ≤ gd) : St tk nt gd ga w (nt + 1) D A wr := by
  have r := h.last (ss := []) hne hB (by simp) (by simp) (World.grownBy.refl _ _) (by simpa using h.2.1)
  simpa using r

theorem St.start {tk : Nat → Int} {nt : Nat} {w w1 w2 : World} (h1 : w1.ownsRow w.heap.size 5 1 (.slice (some ⟨w.heap.size, 0, none⟩) 0 (8 * nt + 8)) 0 []) (g1 : w.grownBy w1 none)
    (h2 : w2.ownsRow w.heap.size 3 1 (.slice (some ⟨w1.heap.size, 0, none⟩) 0 nt) 0 []) (g2 : w1.grownBy w2 none) : St tk nt w.heap.size w1.heap.size w 0 [] [] w2 :=
  ⟨.inl ⟨Nat.zero_le _, Good.zero tk⟩, h1.kept g2 (.inr (by simp [Value.ownBlock])), h2,
    ((Below.refl _ _).grown g1 (Nat.le_refl _) (by intro j hj; cases hj)).grown g2 g1.size (by intro j hj; cases hj)⟩

theorem St.cells {tk : Nat → Int} {nt gd ga : Nat} {w wr : World} {k : Nat} {D : List Int} {A : List Nat} (h : St tk nt gd ga w k D A wr) :
    (∀ i, i < D.length → wr.cell? ⟨gd, 0 + i, none⟩ = some (.int .u8 (D.getD i 0))) ∧ (∀ i, i < A.length → wr.cell? ⟨ga, i, none⟩ = some (atV (A.getD i 0))) ∧ gd < wr.heap.size ∧ ga < wr.heap.size := by
  obtain ⟨_, hD, hA, _⟩ := h
  refine ⟨?_, ?_, (hD.lt _ rfl).2, (hA.lt _ rfl).2⟩
  · intro i hi
    rw [Nat.zero_add, hD.cellAt i (by omega)]
    simp [List.getElem?_eq_getElem hi]
  · intro i hi
    rw [hA.cellAt i (by omega)]
    simp [List.getElem?_eq_getElem hi]

theorem St.done {tk : Nat → Int} {nt gd ga : Nat} {w wr : World} {D : List Int} {A : List Nat} (h : St tk nt gd ga w (nt + 1) D A wr) : Done tk nt D A := by
  rcases h.1 with ⟨e, _⟩ | ⟨_, d⟩
  · omega
  · exact d

theorem St.len {tk : Nat → Int} {nt gd ga : Nat} {w wr : World} {k : Nat} {D : List Int} {A : List Nat} (h : St tk nt gd ga w k D A wr) (hk : k ≤ nt) : A.length = k ∧ D.length ≤ 8 * k := by
  rcases h.1 with ⟨_, g⟩ | ⟨e, _⟩
  · exact ⟨g.len, g.le⟩
  · omega

set_option maxHeartbeats 1000000 in
theorem toks_small (a0 : Option Addr) (nt c0 : Nat) (z0 : List Int) (a1 : Option Addr) (ng c1 : Nat) (z1 : List Int) (w : World) (hnt : nt ≤ 65536) (hng : ng ≤ 65536)
    (h0 : ∀ i, i < nt → ∃ b off, a0 = some ⟨b, off, none⟩ ∧ w.cell? ⟨b, off + i, none⟩ = some (.int .u8 (z0.getD i 0)))
    (h1 : ∀ i, i < ng → ∃ b off, a1 = some ⟨b, off, none⟩ ∧ w.cell? ⟨b, off + i, none⟩ = some (.int .u32 (z1.getD i 0)) ∧ 0 ≤ z1.getD i 0) :
    Calls Trym.prog 5 #[.slice a0 nt c0, .slice a1 ng c1] w fun e w' => e = .returned (.bool true) ∧ Below w.heap.size w w' := by
  obtain ⟨i5, hi5, hz50, hz51, hz52⟩ := info_parts linfo5
  obtain ⟨i3, hi3, hz30, hz31, hz32⟩ := info_parts linfo3
  obtain ⟨tk, htk⟩ : ∃ tk : Nat → Int, tk = fun j => tokI (z0.getD j 0) := ⟨_, rfl⟩
  have HT : Hid (∀ j, tk j = tokI (z0.getD j 0)) := by intro j; rw [htk]
  clear htk
  have H0 : Hid (∀ i, i < nt → ∃ b off, a0 = some ⟨b, off, none⟩ ∧ w.cell? ⟨b, off + i, none⟩ = some (.int .u8 (z0.getD i 0))) := h0
  have H1 : Hid (∀ i, i < ng → ∃ b off, a1 = some ⟨b, off, none⟩ ∧ w.cell? ⟨b, off + i, none⟩ = some (.int .u32 (z1.getD i 0)) ∧ 0 ≤ z1.getD i 0) := h1
  clear h0 h1
  have q1 : decide (65536 < (nt : Int)) = false := by simp; omega
  have q2 : decide (65536 < (ng : Int)) = false := by simp; omega
  go_enter Trym.func5, Trym.ntmps5
  go_wp2_with (first
    | (go_at_call 10; refine (zzb_true a0 nt c0 a1 ng c1 _ hnt hng).mono ?_; rintro e w' ⟨rfl, hw⟩; obtain rfl := hw.symm)
    | (at_make; refine wpList_make_own _ rfl _ (.tmp 31) 22 rfl w.heap.size 5 i5 (.int .u8 0) 1 Trym.underlying22 hi5 hz50 hz51 _ _ _ (8 * nt + 8) rfl rfl (by omega) (by rw [hz52]; omega) (by unfold maxLen; omega) (Nat.le_refl _) ?_; intro w1 hown1 hgrow1)
    | (at_make; refine wpList_make_own _ rfl _ (.tmp 34) 29 rfl w.heap.size 3 i3 (.int .i64 0) 1 Trym.underlying29 hi3 hz30 hz31 _ _ _ nt rfl rfl rfl (by rw [hz32]; omega) (by unfold maxLen; omega) hgrow1.size ?_; intro w2 hown2 hgrow2))
  have hga : w.heap.size < w1.heap.size := (hown1.lt _ rfl).2
  have S0 : St tk nt w.heap.size w1.heap.size w 0 [] [] w2 := St.start hown1 hgrow1 hown2 hgrow2
  obtain ⟨ga, hgae⟩ : ∃ ga, ga = w1.heap.size := ⟨_, rfl⟩
  rw [← hgae] at hga S0 ⊢
  clear hown1 hgrow1 hown2 hgrow2 hgae
  go_loopw [5, 6, 7] (fun v u i wr => ∃ (k : Nat) (D : List Int) (A : List Nat), k ≤ nt + 1 ∧ i = .int .i64 k ∧ v = .slice (some ⟨w.heap.size, 0, none⟩) D.length (8 * nt + 8) ∧ u = .slice (some ⟨ga, 0, none⟩) A.length nt ∧ St tk nt w.heap.size ga w k D A wr)
    (fun _ _ i _ => nt + 2 - (intOf i).toNat)
  case atStart => exact ⟨0, [], [], Nat.zero_le _, rfl, rfl, rfl, S0⟩
  case round =>
    obtain ⟨k, D, A, hk, rfl, rfl, rfl, S⟩ := hrel
    by_cases hkt : k < nt
    · obtain ⟨b0, off0, ha0, hc0⟩ := H0.out k hkt
      subst ha0
      have hc0' : wr.cell? ⟨b0, off0 + k, none⟩ = some (.int .u8 (z0.getD k 0)) := (S.2.2.2.cell (World.block_lt_of_cell? w _ hc0)).trans hc0
      obtain ⟨t, ht⟩ : ∃ t, t = z0.getD k 0 := ⟨_, rfl⟩
      rw [← ht] at hc0'
      have HTK : Hid (tokI t = tk k) := by show tokI t = tk k; rw [HT.out k, ht]
      clear ht
      obtain ⟨hAl, hDl⟩ := S.len (by omega)
      have hal : A.length + 1 ≤ nt := by omega
      clear hAl
      have hb0 : b0 < w.heap.size := World.block_lt_of_cell? w _ hc0
      clear hc0 H0
      have n1 : ga ≠ w.heap.size := by omega
      have n2 : w.heap.size ≠ ga := by omega
      have n3 : some b0 ≠ some w.heap.size := by simp; omega
      have n4 : some b0 ≠ some ga := by simp; omega
      have N : Hid (ga ≠ w.heap.size ∧ w.heap.size ≠ ga ∧ some b0 ≠ some w.heap.size ∧ some b0 ≠ some ga) := ⟨n1, n2, n3, n4⟩
      clear n1 n2 n3 n4
      by_cases hkg : k < ng
      · obtain ⟨b1, off1, ha1, hc1, hg0⟩ := H1.out k hkg
        subst ha1
        have hc1' : wr.cell? ⟨b1, off1 + k, none⟩ = some (.int .u32 (z1.getD k 0)) := (S.2.2.2.cell (World.block_lt_of_cell? w _ hc1)).trans hc1
        obtain ⟨gv, hgv⟩ : ∃ gv, gv = z1.getD k 0 := ⟨_, rfl⟩
        rw [← hgv] at hc1' hg0
        clear hgv hc1 H1
        go_wp2_with fail
        refine (appendSpaces_any w.heap.size w.heap.size D.length (8 * nt + 8) (D.map (Value.int .u8)) gv _ hg0 (by omega) (by omega) S.2.1).mono ?_
        rintro e wg ⟨ss, rfl, hss, hsl, hDg, hgr⟩
        have HSS : Hid (∀ s ∈ ss, spB s = true) := hss
        have hAg := kept_other S.2.2.1 hgr N.out.1
        have hc0g := hgr.cell hc0' N.out.2.2.1
        have hfit : D.length + ss.length + 1 ≤ 8 * nt + 8 := by omega
        clear hss hc1' hc0'
        go_wp2_with (first
          | (at_builtin; refine wpList_append_fits _ rfl (.tmp 56) (.tmp 59) 29 rfl w.heap.size 3 i3 1 Trym.underlying29 hi3 hz31 ga A.length nt (A.map atV) rfl (hAg.alloc _) _ 1 1 [_] rfl rfl (cell_one_new _ _ _) (by simp [Value.oneCell']) hal ?_; intro w3 hA3 hg3; have hc03 := cell_grown_alloc hc0g hg3 N.out.2.2.2; have hD3 := kept_other (hDg.alloc _) hg3 N.out.2.1)
          | (go_at_call 12; refine (tokenByte_any t _).mono ?_; rintro e w' ⟨rfl, hw⟩; obtain rfl := hw.symm)
          | (at_builtin; refine wpList_append_fits _ rfl (.tmp 61) (.tmp 67) 22 rfl w.heap.size 5 i5 1 Trym.underlying22 hi5 hz51 w.heap.size (D.length + ss.length) (8 * nt + 8) (D.map (Value.int .u8) ++ ss.map (Value.int .u8)) rfl (hD3.alloc _) _ 1 1 [.int .u8 (tokI t)] rfl rfl (cell_one_new _ _ _) (by simp [Value.oneCell']) hfit ?_; intro w4 hD4 hg4))
        have R := S.tok hkt N.out.1 (Nat.le_refl _) (by omega) HSS.out hsl hgr hg3 hA3 hg4 (HTK.out ▸ hD4)
        clear hA3 hg3 hD4 hg4 hD3 hc03 hc0g hAg hgr hDg HSS
        go_roundw
        case rel => exact ⟨k + 1, _, _, by omega, by go_num, by rw [List.length_append, List.length_append]; rfl, by rw [List.length_append]; rfl, R⟩
        case measure => simp [intOf]; omega
      · have hfit : D.length + 1 ≤ 8 * nt + 8 := by omega
        have hA := S.2.2.1
        have hD := S.2.1
        go_wp2_with (first
          | (at_builtin; refine wpList_append_fits _ rfl (.tmp 56) (.tmp 59) 29 rfl w.heap.size 3 i3 1 Trym.underlying29 hi3 hz31 ga A.length nt (A.map atV) rfl (hA.alloc _) _ 1 1 [_] rfl rfl (cell_one_new _ _ _) (by simp [Value.oneCell']) hal ?_; intro w3 hA3 hg3; have hc03 := cell_grown_alloc hc0' hg3 N.out.2.2.2; have hD3 := kept_other (hD.alloc _) hg3 N.out.2.1)
          | (go_at_call 12; refine (tokenByte_any t _).mono ?_; rintro e w' ⟨rfl, hw⟩; obtain rfl := hw.symm)
          | (at_builtin; refine wpList_append_fits _ rfl (.tmp 61) (.tmp 67) 22 rfl w.heap.size 5 i5 1 Trym.underlying22 hi5 hz51 w.heap.size D.length (8 * nt + 8) (D.map (Value.int .u8)) rfl (hD3.alloc _) _ 1 1 [.int .u8 (tokI t)] rfl rfl (cell_one_new _ _ _) (by simp [Value.oneCell']) hfit ?_; intro w4 hD4 hg4))
        have R := S.tok0 hkt N.out.1 (Nat.le_refl _) (by omega) hg3 hA3 hg4 (HTK.out ▸ hD4)
        clear hA3 hg3 hD4 hg4 hD3 hc03 hA hD
        go_roundw
        case rel => exact ⟨k + 1, _, _, by omega, by go_num, by rw [List.length_append]; rfl, by rw [List.length_append]; rfl, R⟩
        case measure => simp [intOf]; omega
    · by_cases hk2 : k = nt
      · obtain rfl : nt = k := hk2.symm
        obtain ⟨hAl, hDl⟩ := S.len (Nat.le_refl _)
        clear hAl
        by_cases hkg : nt < ng
        · obtain ⟨b1, off1, ha1, hc1, hg0⟩ := H1.out nt hkg
          subst ha1
          have hc1' : wr.cell? ⟨b1, off1 + nt, none⟩ = some (.int .u32 (z1.getD nt 0)) := (S.2.2.2.cell (World.block_lt_of_cell? w _ hc1)).trans hc1
          obtain ⟨gv, hgv⟩ : ∃ gv, gv = z1.getD nt 0 := ⟨_, rfl⟩
          rw [← hgv] at hc1' hg0
          clear hgv hc1 H1
          go_wp2_with fail
          refine (appendSpaces_any w.heap.size w.heap.size D.length (8 * nt + 8) (D.map (Value.int .u8)) gv _ hg0 (by omega) (by omega) S.2.1).mono ?_
          rintro e wg ⟨ss, rfl, hss, hsl, hDg, hgr⟩
          have R := S.last (by omega) (Nat.le_refl _) hss hsl hgr hDg
          clear hss hc1' hDg hgr
          go_wp2
          go_roundw
          case rel => exact ⟨nt + 1, _, _, by omega, by go_num, by rw [List.length_append], rfl, R⟩
          case measure => simp [intOf]
        · have R := S.last0 (by omega) (Nat.le_refl _)
          go_wp2
          go_roundw
          case rel => exact ⟨nt + 1, _, _, by omega, by go_num, rfl, rfl, R⟩
          case measure => simp [intOf]
      · have ek : k = nt + 1 := by omega
        have dn := (ek ▸ S : St tk nt w.heap.size ga w (nt + 1) D A wr).done
        obtain ⟨cD, cA, lD, lA⟩ := S.cells
        have hB : Below w.heap.size w wr := S.2.2.2
        have hDle := dn.le
        have hAl := dn.len
        have CD : Hid (∀ i, i < D.length → wr.cell? ⟨w.heap.size, 0 + i, none⟩ = some (.int .u8 (D.getD i 0))) := cD
        have CA : Hid (∀ i, i < nt → wr.cell? ⟨ga, i, none⟩ = some (atV (A.getD i 0))) := by intro i hi; exact cA i (by omega)
        have NS : Hid (∀ j, spB (tk j) = false) := by intro j; rw [HT.out j]; exact tokI_ns _
        have hAge : nt ≤ A.length := by omega
        have q3 : decide (k ≤ nt) = false := by simp; omega
        have hk3 : nt < k := by omega
        clear S cD cA hAl H1 ek hk hk2 hkt
        obtain ⟨wq, hwq⟩ : ∃ wq, wq = wr := ⟨_, rfl⟩
        subst hwq
        go_wp2
        go_loopw [8, 9] (fun v i w5 => ∃ j : Nat, j ≤ nt ∧ i = .int .i64 j ∧ v = .int .i64 (posA A j : Int) ∧ Below wq.heap.size wq w5) (fun _ i _ => nt - (intOf i).toNat)
        case atStart => exact ⟨0, Nat.zero_le _, rfl, rfl, Below.refl _ _⟩
        case round =>
          obtain ⟨j, hj, rfl, rfl, hb5⟩ := hrel
          have CD5 : ∀ i, i < D.length → wr.cell? ⟨w.heap.size, 0 + i, none⟩ = some (.int .u8 (D.getD i 0)) := fun i hi => (hb5.cell lD).trans (CD.out i hi)
          have HD5 : Hid (∀ i, i < D.length → wr.cell? ⟨w.heap.size, 0 + i, none⟩ = some (.int .u8 (D.getD i 0))) := CD5
          clear CD5
          by_cases hjt : j < nt
          · obtain ⟨t1, t2, t3, t4⟩ := dn.tok j hjt
            clear t3 t4
            obtain ⟨b0, off0, ha0, hc0⟩ := H0.out j hjt
            subst ha0
            have hcq := (hB.cell (World.block_lt_of_cell? w _ hc0)).trans hc0
            have hc5 := (hb5.cell (World.block_lt_of_cell? wq _ hcq)).trans hcq
            have hlt0 := World.block_lt_of_cell? wr _ hc5
            have hca := (hb5.cell (p := ⟨ga, j, none⟩) lA).trans (CA.out j hjt)
            clear hc0 hcq H0
            go_wp2_with fail
            refine (zz_in w.heap.size 0 D.length (8 * nt + 8) (posA A j) D _ (by unfold maxLen; omega) (by omega) HD5.out).mono ?_
            rintro e w6 ⟨np, d, ok, rfl, hb6, r1, r2, r3, r4⟩
            obtain ⟨rfl, hnp, hd⟩ := dn.read NS.out hjt r1 r3 r4
            rw [HT.out j] at hd
            rw [← hnp] at hca t2
            obtain ⟨t, ht⟩ : ∃ t, t = z0.getD j 0 := ⟨_, rfl⟩
            rw [← ht] at hd hc5
            subst hd
            have hc6 := (hb6.cell hlt0).trans hc5
            have hca6 : w6.cell? ⟨ga, j, none⟩ = some (.int .i64 (np : Int)) := (hb6.cell (p := ⟨ga, j, none⟩) (World.block_lt_of_cell? wr _ hca)).trans hca
            have HB6 : Hid (Below wq.heap.size wq w6) := hb5.trans (hb6.mono hb5.size)
            have HNP : Hid (np = A.getD j 0) := hnp
            have hjA : j < A.length := by omega
            clear hnp ht r1 r2 r3 r4 hc5 hca hb5 hb6 t1
            go_wp2_with (go_at_call 12; refine (tokenByte_any t _).mono ?_; rintro e w' ⟨rfl, hw⟩; obtain rfl := hw.symm)
            go_roundw
            case rel => exact ⟨j + 1, by omega, by go_num, by rw [posA, ← HNP.out]; go_num, HB6.out⟩
            case measure => simp [intOf]; omega
          · obtain rfl : nt = j := by omega
            have lw := dn.low
            by_cases hpe : D.length ≤ posA A nt
            · go_wp2_with fail
              refine (zz_end _ D.length (8 * nt + 8) (posA A nt) _ hpe).mono ?_
              rintro e w6 ⟨rfl, hb6⟩
              have e6 : posA A nt = D.length := by omega
              have HB6 : Hid (Below w.heap.size w w6) := hB.trans ((hb5.trans (hb6.mono hb5.size)).mono (by omega))
              clear hb5 hb6
              go_wp2
              go_ret
              exact ⟨rfl, HB6.out⟩
            · go_wp2_with fail
              refine (zz_in w.heap.size 0 D.length (8 * nt + 8) (posA A nt) D _ (by unfold maxLen; omega) (by omega) HD5.out).mono ?_
              rintro e w6 ⟨np, d, ok, rfl, hb6, r1, r2, r3, r4⟩
              obtain ⟨rfl, rfl, rfl⟩ := dn.last r1 r4
              have HB6 : Hid (Below w.heap.size w w6) := hB.trans ((hb5.trans (hb6.mono hb5.size)).mono (by omega))
              clear hb5 hb6 r3 r4
              go_wp2
              go_ret
              exact ⟨rfl, HB6.out⟩

end Go.Proofs.Qxb6606431aMods
