import Derived.Test.Qxb6000688aModsRows
set_option linter.unusedVariables false
namespace Go.Proofs.Qxb6000688aMods

/-- A digit. -/
def digI (c : Int) : Bool := decide (48 ≤ c ∧ c ≤ 57)

theorem digI_yes {c : Int} : digI c = true ↔ 48 ≤ c ∧ c ≤ 57 := by simp [digI]
theorem digI_no {c : Int} : digI c = false ↔ ¬ (48 ≤ c ∧ c ≤ 57) := by simp [digI]

/-- The automaton's table. -/
def stepI (st c : Int) : Int :=
  if st = 0 then (if c = 45 then 1 else if c = 48 then 2 else if 49 ≤ c ∧ c ≤ 57 then 3 else -1)
  else if st = 1 then (if c = 48 then 2 else if 49 ≤ c ∧ c ≤ 57 then 3 else -1)
  else if st = 2 then (if c = 46 then 4 else if c = 101 ∨ c = 69 then 6 else -1)
  else if st = 3 then (if 48 ≤ c ∧ c ≤ 57 then 3 else if c = 46 then 4 else if c = 101 ∨ c = 69 then 6 else -1)
  else if st = 4 then (if 48 ≤ c ∧ c ≤ 57 then 5 else -1)
  else if st = 5 then (if 48 ≤ c ∧ c ≤ 57 then 5 else if c = 101 ∨ c = 69 then 6 else -1)
  else if st = 6 then (if c = 43 ∨ c = 45 then 7 else if 48 ≤ c ∧ c ≤ 57 then 8 else -1)
  else if st = 7 then (if 48 ≤ c ∧ c ≤ 57 then 8 else -1)
  else if st = 8 then (if 48 ≤ c ∧ c ≤ 57 then 8 else -1)
  else -1

theorem stepI_bd (st c : Int) : -1 ≤ stepI st c ∧ stepI st c ≤ 8 := by
  unfold stepI
  repeat' split
  all_goals omega

/-- The accepting states. -/
def accI (st : Int) : Bool := decide (st = 2 ∨ st = 3 ∨ st = 5 ∨ st = 8)

/-- The state behind k bytes from i on; below 0: no move. -/
def sA (D : Nat → Int) (i : Nat) : Nat → Int
  | 0 => 0
  | k + 1 => if sA D i k < 0 then -1 else stepI (sA D i k) (D (i + k))

/-- The state ahead of byte p. -/
def S (D : Nat → Int) (i p : Nat) : Int := sA D i (p - i)

theorem S_start (D : Nat → Int) (i : Nat) : S D i i = 0 := by simp [S, sA]

theorem S_next (D : Nat → Int) (i p : Nat) (h : i ≤ p) (h0 : 0 ≤ S D i p) : S D i (p + 1) = stepI (S D i p) (D p) := by
  unfold S at *
  have e : p + 1 - i = (p - i) + 1 := by omega
  rw [e, sA, if_neg (by omega)]
  have e2 : i + (p - i) = p := by omega
  rw [e2]

theorem S_dead (D : Nat → Int) (i p : Nat) (h : i ≤ p) (h0 : S D i p < 0) : S D i (p + 1) < 0 := by
  unfold S at *
  have e : p + 1 - i = (p - i) + 1 := by omega
  rw [e, sA, if_pos h0]
  decide

theorem S_dead_on (D : Nat → Int) (i p : Nat) (h : i ≤ p) (h0 : S D i p < 0) (k : Nat) : S D i (p + k) < 0 := by
  induction k with
  | zero => exact h0
  | succ k ih => exact S_dead D i (p + k) (by omega) ih

theorem S_bd (D : Nat → Int) (i p : Nat) : S D i p ≤ 8 := by
  unfold S
  cases p - i with
  | zero => simp [sA]
  | succ k =>
    rw [sA]
    split
    · omega
    · exact (stepI_bd _ _).2

/-- The verdict: 1 truncated, 0 scanned, 2 refused. -/
def resI (n p : Nat) (s : Int) : Int := if p = n then 1 else if accI s = true then 0 else 2

/-- The automaton stops at p with verdict r. -/
def Fin' (D : Nat → Int) (n i p : Nat) (r : Int) : Prop :=
  i ≤ p ∧ p ≤ n ∧ 0 ≤ S D i p ∧ (p < n → S D i (p + 1) < 0) ∧ r = resI n p (S D i p)

theorem Fin'.one {D : Nat → Int} {n i p q : Nat} {r t : Int} (h : Fin' D n i p r) (g : Fin' D n i q t) : p = q ∧ r = t := by
  obtain ⟨h1, h2, h3, h4, h5⟩ := h
  obtain ⟨g1, g2, g3, g4, g5⟩ := g
  have e : p = q := by
    rcases Nat.lt_trichotomy p q with hlt | he | hgt
    · have d := S_dead_on D i (p + 1) (by omega) (h4 (by omega)) (q - (p + 1))
      rw [show p + 1 + (q - (p + 1)) = q by omega] at d
      omega
    · exact he
    · have d := S_dead_on D i (q + 1) (by omega) (g4 (by omega)) (p - (q + 1))
      rw [show q + 1 + (p - (q + 1)) = p by omega] at d
      omega
  subst e
  exact ⟨rfl, by rw [h5, g5]⟩

/-- Digits run on in a state that keeps them. -/
theorem S_digits {D : Nat → Int} {i p : Nat} {s t : Int} (hi : i ≤ p) (hs : S D i p = s) (h0 : 0 ≤ s) (ht : 0 ≤ t) (h1 : ∀ c, digI c = true → stepI s c = t) (h2 : ∀ c, digI c = true → stepI t c = t)
    (k : Nat) (hd : ∀ j, p ≤ j → j < p + (k + 1) → digI (D j) = true) : S D i (p + (k + 1)) = t := by
  induction k with
  | zero =>
    rw [S_next D i p hi (by omega), hs]
    exact h1 _ (hd p (Nat.le_refl _) (by omega))
  | succ k ih =>
    have e := ih (fun j hj1 hj2 => hd j hj1 (by omega))
    rw [show p + (k + 1 + 1) = (p + (k + 1)) + 1 by omega, S_next D i _ (by omega) (by omega), e]
    exact h2 _ (hd _ (by omega) (by omega))

theorem S_run {D : Nat → Int} {i p q : Nat} {s t : Int} (hi : i ≤ p) (hs : S D i p = s) (h0 : 0 ≤ s) (ht : 0 ≤ t) (h1 : ∀ c, digI c = true → stepI s c = t) (h2 : ∀ c, digI c = true → stepI t c = t)
    (hpq : p < q) (hd : ∀ j, p ≤ j → j < q → digI (D j) = true) : S D i q = t := by
  have := S_digits hi hs h0 ht h1 h2 (q - p - 1) (fun j hj1 hj2 => hd j hj1 (by omega))
  rw [show p + (q - p - 1 + 1) = q by omega] at this
  exact this

theorem step33 : ∀ c, digI c = true → stepI 3 c = 3 := by intro c h; rw [digI_yes] at h; simp [stepI, h]
theorem step45 : ∀ c, digI c = true → stepI 4 c = 5 := by intro c h; rw [digI_yes] at h; simp [stepI, h]
theorem step55 : ∀ c, digI c = true → stepI 5 c = 5 := by intro c h; rw [digI_yes] at h; simp [stepI, h]
theorem step68 : ∀ c, digI c = true → stepI 6 c = 8 := by
  intro c h
  rw [digI_yes] at h
  have e : ¬ (c = 43 ∨ c = 45) := by omega
  simp [stepI, h, e]
theorem step78 : ∀ c, digI c = true → stepI 7 c = 8 := by intro c h; rw [digI_yes] at h; simp [stepI, h]
theorem step88 : ∀ c, digI c = true → stepI 8 c = 8 := by intro c h; rw [digI_yes] at h; simp [stepI, h]

/-- Behind the sign. -/
def PA (D : Nat → Int) (n i p : Nat) : Prop := i ≤ p ∧ p ≤ n ∧ ((S D i p = 0 ∧ D p ≠ 45 ∧ p < n) ∨ S D i p = 1)
/-- Behind the whole part. -/
def PC (D : Nat → Int) (n i p : Nat) : Prop := i ≤ p ∧ p ≤ n ∧ (S D i p = 2 ∨ (S D i p = 3 ∧ (p < n → digI (D p) = false)))
/-- Behind the fraction. -/
def PD (D : Nat → Int) (n i p : Nat) : Prop := i ≤ p ∧ p ≤ n ∧ ((S D i p = 2 ∧ (p < n → D p ≠ 46)) ∨ (S D i p = 3 ∧ (p < n → D p ≠ 46 ∧ digI (D p) = false)) ∨ (S D i p = 5 ∧ (p < n → digI (D p) = false)))
/-- Behind the exponent. -/
def PE (D : Nat → Int) (n i p : Nat) : Prop := i ≤ p ∧ p ≤ n ∧ 0 ≤ S D i p ∧ accI (S D i p) = true ∧ (p < n → S D i (p + 1) < 0)

theorem fin_end {D : Nat → Int} {n i p : Nat} (hi : i ≤ p) (hp : p = n) (h0 : 0 ≤ S D i p) : Fin' D n i p 1 :=
  ⟨hi, by omega, h0, by omega, by simp [resI, hp]⟩

theorem fin_no {D : Nat → Int} {n i p : Nat} (hi : i ≤ p) (hp : p < n) (h0 : 0 ≤ S D i p) (ha : accI (S D i p) = false) (hs : stepI (S D i p) (D p) < 0) : Fin' D n i p 2 :=
  ⟨hi, by omega, h0, fun _ => by rw [S_next D i p hi h0]; exact hs, by rw [resI, if_neg (by omega), if_neg (by rw [ha]; decide)]⟩

theorem PE.fin {D : Nat → Int} {n i p : Nat} (h : PE D n i p) (hp : p < n) : Fin' D n i p 0 := by
  obtain ⟨h1, h2, h3, h4, h5⟩ := h
  exact ⟨h1, h2, h3, h5, by rw [resI, if_neg (by omega), if_pos h4]⟩

theorem PE.end' {D : Nat → Int} {n i p : Nat} (h : PE D n i p) (hp : p = n) : Fin' D n i p 1 := fin_end h.1 hp h.2.2.1

/-- The sign. -/
theorem PA.minus {D : Nat → Int} {n i : Nat} (hi : i < n) (h : D i = 45) : PA D n i (i + 1) := by
  refine ⟨by omega, by omega, .inr ?_⟩
  rw [S_next D i i (Nat.le_refl _) (by rw [S_start]; omega), S_start, h]
  rfl
theorem PA.plain {D : Nat → Int} {n i : Nat} (hi : i < n) (h : D i ≠ 45) : PA D n i i := ⟨by omega, by omega, .inl ⟨S_start D i, h, hi⟩⟩
theorem PA.nonneg {D : Nat → Int} {n i p : Nat} (h : PA D n i p) : 0 ≤ S D i p := by rcases h.2.2 with ⟨e, _, _⟩ | e <;> omega
theorem PA.end' {D : Nat → Int} {n i p : Nat} (h : PA D n i p) (hp : p = n) : Fin' D n i p 1 := fin_end h.1 hp h.nonneg

/-- The whole part. -/
theorem PA.zero {D : Nat → Int} {n i p : Nat} (h : PA D n i p) (hp : p < n) (hd : D p = 48) : PC D n i (p + 1) := by
  refine ⟨by have := h.1; omega, by omega, .inl ?_⟩
  rw [S_next D i p h.1 h.nonneg, hd]
  rcases h.2.2 with ⟨e, _, _⟩ | e <;> (rw [e]; rfl)
theorem PA.three {D : Nat → Int} {n i p : Nat} (h : PA D n i p) (hd : digI (D p) = true) (h48 : D p ≠ 48) : S D i (p + 1) = 3 := by
  rw [S_next D i p h.1 h.nonneg]
  rw [digI_yes] at hd
  have a : 49 ≤ D p := by omega
  have b : D p ≠ 45 := by omega
  rcases h.2.2 with ⟨e, _, _⟩ | e <;> (rw [e]; simp [stepI, h48, a, b, hd])
theorem PA.digits {D : Nat → Int} {n i p q : Nat} (h : PA D n i p) (hd : digI (D p) = true) (h48 : D p ≠ 48) (hpq : p < q) (hqn : q ≤ n) (hall : ∀ j, p ≤ j → j < q → digI (D j) = true) (hend : q < n → digI (D q) = false) : PC D n i q := by
  have h3 := h.three hd h48
  have hi := h.1
  refine ⟨by omega, hqn, .inr ⟨?_, hend⟩⟩
  by_cases e : q = p + 1
  · rw [e]; exact h3
  · exact S_run (by omega) h3 (by omega) (by omega) step33 step33 (show p + 1 < q by omega) (fun j hj1 hj2 => hall j (by omega) hj2)
theorem PA.refused {D : Nat → Int} {n i p : Nat} (h : PA D n i p) (hp : p < n) (hd : digI (D p) = false) : Fin' D n i p 2 := by
  rw [digI_no] at hd
  rcases h.2.2 with ⟨e, h45, _⟩ | e
  · refine fin_no h.1 hp h.nonneg (by rw [e]; rfl) ?_
    have a : ¬ D p = 48 := by omega
    have b : ¬ (49 ≤ D p ∧ D p ≤ 57) := by omega
    rw [e]
    simp only [stepI, if_true, if_neg h45, if_neg a, if_neg b]
    decide
  · refine fin_no h.1 hp h.nonneg (by rw [e]; rfl) ?_
    have a : ¬ D p = 48 := by omega
    have b : ¬ (49 ≤ D p ∧ D p ≤ 57) := by omega
    rw [e]
    simp [stepI, a, b]

/-- The fraction. -/
theorem PC.dot {D : Nat → Int} {n i p : Nat} (h : PC D n i p) (hd : D p = 46) : S D i (p + 1) = 4 := by
  rw [S_next D i p h.1 (by rcases h.2.2 with e | ⟨e, _⟩ <;> omega), hd]
  rcases h.2.2 with e | ⟨e, _⟩ <;> (rw [e]; rfl)
theorem PC.none {D : Nat → Int} {n i p : Nat} (h : PC D n i p) (hd : p < n → D p ≠ 46) : PD D n i p := by
  refine ⟨h.1, h.2.1, ?_⟩
  rcases h.2.2 with e | ⟨e, f⟩
  · exact .inl ⟨e, hd⟩
  · exact .inr (.inl ⟨e, fun hp => ⟨hd hp, f hp⟩⟩)
theorem PC.dotEnd {D : Nat → Int} {n i p : Nat} (h : PC D n i p) (hd : D p = 46) (hp : p + 1 = n) : Fin' D n i (p + 1) 1 := fin_end (by have := h.1; omega) hp (by rw [h.dot hd]; omega)
theorem PC.dotRefused {D : Nat → Int} {n i p : Nat} (h : PC D n i p) (hd : D p = 46) (hp : p + 1 < n) (hn : digI (D (p + 1)) = false) : Fin' D n i (p + 1) 2 := by
  have e := h.dot hd
  rw [digI_no] at hn
  refine fin_no (by have := h.1; omega) hp (by omega) (by rw [e]; rfl) ?_
  rw [e]
  simp [stepI, hn]
theorem PC.frac {D : Nat → Int} {n i p q : Nat} (h : PC D n i p) (hd : D p = 46) (hpq : p + 1 < q) (hqn : q ≤ n) (hall : ∀ j, p + 1 ≤ j → j < q → digI (D j) = true) (hend : q < n → digI (D q) = false) : PD D n i q :=
  ⟨by have := h.1; omega, hqn, .inr (.inr ⟨S_run (by have := h.1; omega) (h.dot hd) (by omega) (by omega) step45 step55 hpq hall, hend⟩)⟩

/-- The exponent. -/
theorem PD.nonneg {D : Nat → Int} {n i p : Nat} (h : PD D n i p) : 0 ≤ S D i p := by rcases h.2.2 with ⟨e, _⟩ | ⟨e, _⟩ | ⟨e, _⟩ <;> omega
theorem PD.exp {D : Nat → Int} {n i p : Nat} (h : PD D n i p) (hd : D p = 101 ∨ D p = 69) : S D i (p + 1) = 6 := by
  rw [S_next D i p h.1 h.nonneg]
  rcases hd with hd | hd <;> (rw [hd]; rcases h.2.2 with ⟨e, _⟩ | ⟨e, _⟩ | ⟨e, _⟩ <;> (rw [e]; rfl))
theorem PD.none {D : Nat → Int} {n i p : Nat} (h : PD D n i p) (hd : p < n → ¬ (D p = 101 ∨ D p = 69)) : PE D n i p := by
  refine ⟨h.1, h.2.1, h.nonneg, ?_, ?_⟩
  · rcases h.2.2 with ⟨e, _⟩ | ⟨e, _⟩ | ⟨e, _⟩ <;> (rw [e]; rfl)
  · intro hp
    have hd' := hd hp
    rw [S_next D i p h.1 h.nonneg]
    rcases h.2.2 with ⟨e, f⟩ | ⟨e, f⟩ | ⟨e, f⟩
    · have f' := f hp
      rw [e]
      simp [stepI, f', hd']
    · obtain ⟨f1, f2⟩ := f hp
      rw [digI_no] at f2
      rw [e]
      simp [stepI, f1, f2, hd']
    · have f2 := f hp
      rw [digI_no] at f2
      rw [e]
      simp [stepI, f2, hd']
/-- Behind 'e' and perhaps its sign. -/
def PX (D : Nat → Int) (n i p : Nat) : Prop := i ≤ p ∧ p ≤ n ∧ ((S D i p = 6 ∧ (p < n → ¬ (D p = 43 ∨ D p = 45))) ∨ S D i p = 7)
theorem PD.signed {D : Nat → Int} {n i p : Nat} (h : PD D n i p) (hd : D p = 101 ∨ D p = 69) (hp : p + 1 < n) (hs : D (p + 1) = 43 ∨ D (p + 1) = 45) : PX D n i (p + 1 + 1) := by
  have e := h.exp hd
  have hi := h.1
  refine ⟨by omega, by omega, .inr ?_⟩
  rw [S_next D i (p + 1) (by omega) (by omega), e]
  rcases hs with hs | hs <;> (rw [hs]; rfl)
theorem PD.unsigned {D : Nat → Int} {n i p : Nat} (h : PD D n i p) (hpn : p < n) (hd : D p = 101 ∨ D p = 69) (hs : p + 1 < n → ¬ (D (p + 1) = 43 ∨ D (p + 1) = 45)) : PX D n i (p + 1) := by
  have hi := h.1
  exact ⟨by omega, by omega, .inl ⟨h.exp hd, hs⟩⟩
theorem PX.nonneg {D : Nat → Int} {n i p : Nat} (h : PX D n i p) : 0 ≤ S D i p := by rcases h.2.2 with ⟨e, _⟩ | e <;> omega
theorem PX.end' {D : Nat → Int} {n i p : Nat} (h : PX D n i p) (hp : p = n) : Fin' D n i p 1 := fin_end h.1 hp h.nonneg
theorem PX.refused {D : Nat → Int} {n i p : Nat} (h : PX D n i p) (hp : p < n) (hn : digI (D p) = false) : Fin' D n i p 2 := by
  rw [digI_no] at hn
  rcases h.2.2 with ⟨e, f⟩ | e
  · have f' := f hp
    refine fin_no h.1 hp h.nonneg (by rw [e]; rfl) ?_
    rw [e]
    simp [stepI, hn, f']
  · refine fin_no h.1 hp h.nonneg (by rw [e]; rfl) ?_
    rw [e]
    simp [stepI, hn]
theorem PX.digits {D : Nat → Int} {n i p q : Nat} (h : PX D n i p) (hpq : p < q) (hqn : q ≤ n) (hall : ∀ j, p ≤ j → j < q → digI (D j) = true) (hend : q < n → digI (D q) = false) : PE D n i q := by
  have e8 : S D i q = 8 := by
    rcases h.2.2 with ⟨e, _⟩ | e
    · exact S_run h.1 e (by omega) (by omega) step68 step88 hpq hall
    · exact S_run h.1 e (by omega) (by omega) step78 step88 hpq hall
  have hi := h.1
  refine ⟨by omega, hqn, by omega, by rw [e8]; rfl, ?_⟩
  intro hq
  have f := hend hq
  rw [digI_no] at f
  rw [S_next D i q (by omega) (by omega), e8]
  simp [stepI, f]

end Go.Proofs.Qxb6000688aMods
