import Derived.Test.Qxb6606431aModsNextWalks
set_option linter.unusedVariables false
namespace Go.Proofs.Qxb6606431aMods
open Go.ChangeShapes Go.WideShapes Go.ChangeAt Go.RowKit

/-- A token's byte: white space is turned to 'x'. -/
def tokI (t : Int) : Int := if spB t = true then 120 else t

theorem tokI_ns (t : Int) : spB (tokI t) = false := by
  unfold tokI
  split
  · rfl
  · rename_i h
    simpa using h

/-- Where the reader stands ahead of token k. -/
def posA (A : List Nat) (k : Nat) : Nat := match k with | 0 => 0 | j + 1 => A.getD j 0 + 1

theorem posA_app (A : List Nat) (x k : Nat) (h : k ≤ A.length) : posA (A ++ [x]) k = posA A k := by
  unfold posA
  cases k with
  | zero => rfl
  | succ j => simp only [List.getD_eq_getElem?_getD]; rw [List.getElem?_append_left (by omega)]

theorem posA_new (A : List Nat) (x : Nat) : posA (A ++ [x]) (A.length + 1) = x + 1 := by
  simp [posA]

theorem getD_left {α : Type} (L M : List α) (i : Nat) (d : α) (h : i < L.length) : (L ++ M).getD i d = L.getD i d := by
  simp only [List.getD_eq_getElem?_getD]; rw [List.getElem?_append_left h]

theorem getD_right {α : Type} (L M : List α) (i : Nat) (d : α) (h : L.length ≤ i) : (L ++ M).getD i d = M.getD (i - L.length) d := by
  simp only [List.getD_eq_getElem?_getD]; rw [List.getElem?_append_right h]

theorem getD_mem {ss : List Int} {P : Int → Prop} (h : ∀ s ∈ ss, P s) (i : Nat) (hi : i < ss.length) : P (ss.getD i 0) := by
  rw [List.getD_eq_getElem?_getD, List.getElem?_eq_getElem hi]
  exact h _ (List.getElem_mem hi)

/-- The first k tokens lie in D, at A, white space between. -/
structure Good (tk : Nat → Int) (k : Nat) (D : List Int) (A : List Nat) : Prop where
  len : A.length = k
  size : D.length = posA A k
  le : D.length ≤ 8 * k
  tok : ∀ j, j < k → posA A j ≤ A.getD j 0 ∧ A.getD j 0 < D.length ∧ D.getD (A.getD j 0) 0 = tk j ∧ ∀ i, posA A j ≤ i → i < A.getD j 0 → spB (D.getD i 0) = true

theorem Good.zero (tk : Nat → Int) : Good tk 0 [] [] := ⟨rfl, rfl, by simp, by omega⟩

theorem Good.step {tk : Nat → Int} {k : Nat} {D : List Int} {A : List Nat} (h : Good tk k D A) (ss : List Int) (hs : ∀ s ∈ ss, spB s = true) (hl : ss.length ≤ 7) :
    Good tk (k + 1) (D ++ ss ++ [tk k]) (A ++ [D.length + ss.length]) := by
  have h1 := h.len
  have h2 := h.size
  have h3 := h.le
  refine ⟨by simp [h1], ?_, by simp; omega, ?_⟩
  · rw [← h1, posA_new]; simp; omega
  · intro j hj
    by_cases hjk : j < k
    · obtain ⟨t1, t2, t3, t4⟩ := h.tok j hjk
      rw [posA_app _ _ _ (by omega), getD_left A _ j 0 (by omega)]
      refine ⟨t1, by simp only [List.length_append]; omega, ?_, ?_⟩
      · rw [List.append_assoc, getD_left _ _ _ _ t2]; exact t3
      · intro i hi1 hi2
        rw [List.append_assoc, getD_left _ _ _ _ (by omega)]; exact t4 i hi1 hi2
    · have hjk' : j = k := by omega
      subst hjk'
      rw [posA_app _ _ _ (by omega), getD_right A _ j 0 (by omega)]
      have e0 : j - A.length = 0 := by omega
      rw [e0]
      show posA A j ≤ D.length + ss.length ∧ D.length + ss.length < _ ∧ (D ++ ss ++ [tk j]).getD (D.length + ss.length) 0 = tk j ∧ ∀ i, posA A j ≤ i → i < D.length + ss.length → _
      refine ⟨by omega, by simp, ?_, ?_⟩
      · rw [getD_right _ _ _ _ (by simp)]; simp
      · intro i hi1 hi2
        rw [getD_left _ _ _ _ (by simpa using hi2), getD_right _ _ _ _ (by omega)]
        exact getD_mem hs _ (by omega)

/-- All is laid. -/
structure Done (tk : Nat → Int) (nt : Nat) (D : List Int) (A : List Nat) : Prop where
  len : A.length = nt
  tok : ∀ j, j < nt → posA A j ≤ A.getD j 0 ∧ A.getD j 0 < D.length ∧ D.getD (A.getD j 0) 0 = tk j ∧ ∀ i, posA A j ≤ i → i < A.getD j 0 → spB (D.getD i 0) = true
  le : D.length ≤ 8 * nt + 8
  low : posA A nt ≤ D.length
  tail : ∀ i, posA A nt ≤ i → i < D.length → spB (D.getD i 0) = true

theorem Good.done {tk : Nat → Int} {k : Nat} {D : List Int} {A : List Nat} (h : Good tk k D A) (ss : List Int) (hs : ∀ s ∈ ss, spB s = true) (hl : ss.length ≤ 7) :
    Done tk k (D ++ ss) A := by
  have h1 := h.len
  have h2 := h.size
  have h3 := h.le
  refine ⟨h1, ?_, by simp; omega, by simp; omega, ?_⟩
  · intro j hj
    obtain ⟨t1, t2, t3, t4⟩ := h.tok j hj
    refine ⟨t1, by simp only [List.length_append]; omega, ?_, ?_⟩
    · rw [getD_left _ _ _ _ t2]; exact t3
    · intro i hi1 hi2
      rw [getD_left _ _ _ _ (by omega)]; exact t4 i hi1 hi2
  · intro i hi1 hi2
    simp at hi2
    rw [getD_right _ _ _ _ (by omega)]
    exact getD_mem hs _ (by omega)

/-- What the reader answers at token k. -/
theorem Done.read {tk : Nat → Int} {nt : Nat} {D : List Int} {A : List Nat} (h : Done tk nt D A) (htk : ∀ j, spB (tk j) = false) {k : Nat} (hk : k < nt) {np : Nat} {d : Int} {ok : Bool}
    (h1 : posA A k ≤ np) (h3 : ∀ j, posA A k ≤ j → j < np → spB (D.getD j 0) = true) (h4 : (ok = true ∧ np < D.length ∧ d = D.getD np 0 ∧ spB d = false) ∨ (ok = false ∧ d = 0 ∧ np = D.length)) :
    ok = true ∧ np = A.getD k 0 ∧ d = tk k := by
  obtain ⟨t1, t2, t3, t4⟩ := h.tok k hk
  have hns := htk k
  rw [← t3] at hns
  have hle : np ≤ A.getD k 0 := by
    apply Decidable.byContradiction
    intro hc
    have := h3 _ t1 (by omega)
    rw [this] at hns
    cases hns
  rcases h4 with ⟨rfl, h5, h6, h7⟩ | ⟨rfl, h5, h6⟩
  · have hge : np = A.getD k 0 := by
      apply Decidable.byContradiction
      intro hc
      have := t4 np h1 (by omega)
      rw [h6, this] at h7
      cases h7
    exact ⟨rfl, hge, by rw [h6, hge, t3]⟩
  · omega

/-- What the reader answers behind the last token. -/
theorem Done.last {tk : Nat → Int} {nt : Nat} {D : List Int} {A : List Nat} (h : Done tk nt D A) {np : Nat} {d : Int} {ok : Bool}
    (h1 : posA A nt ≤ np) (h4 : (ok = true ∧ np < D.length ∧ d = D.getD np 0 ∧ spB d = false) ∨ (ok = false ∧ d = 0 ∧ np = D.length)) :
    ok = false ∧ np = D.length ∧ d = 0 := by
  rcases h4 with ⟨rfl, h5, h6, h7⟩ | ⟨rfl, h5, h6⟩
  · rw [h6, h.tail np h1 h5] at h7
    cases h7
  · exact ⟨rfl, h6, h5⟩

end Go.Proofs.Qxb6606431aMods
