/- Plain: the order on positions, no Go in sight. -/
namespace Go.Proofs.Qxb6616641a.PlainPos

/-- What cmp.Compare answers on integers. -/
def cmpI (a b : Int) : Int := if a < b then -1 else if b < a then 1 else 0

/-- What cmp.Or answers on three numbers. -/
def or3 (x y z : Int) : Int := if x = 0 then (if y = 0 then z else y) else x

/-- What position.compare answers. -/
def cmpP (s k t s' k' t' : Int) : Int := or3 (cmpI s s') (cmpI k k') (cmpI t t')

theorem cmpI_lt {a b : Int} (h : a < b) : cmpI a b = -1 := by unfold cmpI; rw [if_pos h]
theorem cmpI_gt {a b : Int} (h : b < a) : cmpI a b = 1 := by unfold cmpI; rw [if_neg (by omega), if_pos h]
theorem cmpI_eq {a b : Int} (h : a = b) : cmpI a b = 0 := by unfold cmpI; rw [if_neg (by omega), if_neg (by omega)]

/-- The three outcomes of cmpI, each with what it says. -/
theorem cmpI_cases (a b : Int) : (a < b ∧ cmpI a b = -1) ∨ (a = b ∧ cmpI a b = 0) ∨ (b < a ∧ cmpI a b = 1) := by
  rcases Int.lt_trichotomy a b with h | h | h
  · exact Or.inl ⟨h, cmpI_lt h⟩
  · exact Or.inr (Or.inl ⟨h, cmpI_eq h⟩)
  · exact Or.inr (Or.inr ⟨h, cmpI_gt h⟩)

/-- Lexicographic 'before'. -/
def Lt (s k t s' k' t' : Int) : Prop := s < s' ∨ (s = s' ∧ (k < k' ∨ (k = k' ∧ t < t')))

theorem cmpP_cases (s k t s' k' t' : Int) :
    (Lt s k t s' k' t' ∧ cmpP s k t s' k' t' = -1) ∨ ((s = s' ∧ k = k' ∧ t = t') ∧ cmpP s k t s' k' t' = 0) ∨ (Lt s' k' t' s k t ∧ cmpP s k t s' k' t' = 1) := by
  unfold cmpP or3 Lt
  rcases cmpI_cases s s' with ⟨h1, e1⟩ | ⟨h1, e1⟩ | ⟨h1, e1⟩ <;> rcases cmpI_cases k k' with ⟨h2, e2⟩ | ⟨h2, e2⟩ | ⟨h2, e2⟩ <;>
    rcases cmpI_cases t t' with ⟨h3, e3⟩ | ⟨h3, e3⟩ | ⟨h3, e3⟩ <;> simp [e1, e2, e3] <;> omega

theorem cmpP_self (s k t : Int) : cmpP s k t s k t = 0 := by
  rcases cmpP_cases s k t s k t with ⟨h, _⟩ | ⟨_, h⟩ | ⟨h, _⟩
  · unfold Lt at h; omega
  · exact h
  · unfold Lt at h; omega

theorem cmpP_le {s k t s' k' t' : Int} (h : cmpP s k t s' k' t' ≤ 0) : Lt s k t s' k' t' ∨ (s = s' ∧ k = k' ∧ t = t') := by
  rcases cmpP_cases s k t s' k' t' with ⟨h1, _⟩ | ⟨h1, _⟩ | ⟨_, e⟩
  · exact Or.inl h1
  · exact Or.inr h1
  · omega
theorem cmpP_lt {s k t s' k' t' : Int} (h : Lt s k t s' k' t') : cmpP s k t s' k' t' < 0 := by
  rcases cmpP_cases s k t s' k' t' with ⟨_, e⟩ | ⟨h1, _⟩ | ⟨h1, _⟩
  · omega
  · unfold Lt at h; omega
  · unfold Lt at h h1; omega

/-- The law's own tests, parted as the walk wants them. -/
theorem strict (a0 a1 a2 a3 a4 a5 a6 a7 a8 : Int) :
    (cmpP a0 a1 a2 a3 a4 a5 = -1 ∧ cmpP a3 a4 a5 a0 a1 a2 = 1 ∧ (cmpP a3 a4 a5 a6 a7 a8 ≤ 0 → cmpP a0 a1 a2 a6 a7 a8 < 0) ∧ (a0 ≠ a3 ∨ (a0 = a3 ∧ a1 ≠ a4) ∨ (a0 = a3 ∧ a1 = a4 ∧ a2 ≠ a5))) ∨
    (cmpP a0 a1 a2 a3 a4 a5 = 1 ∧ cmpP a3 a4 a5 a0 a1 a2 = -1 ∧ (a0 ≠ a3 ∨ (a0 = a3 ∧ a1 ≠ a4) ∨ (a0 = a3 ∧ a1 = a4 ∧ a2 ≠ a5))) ∨
    (a0 = a3 ∧ a1 = a4 ∧ a2 = a5) := by
  rcases cmpP_cases a0 a1 a2 a3 a4 a5 with ⟨h, e⟩ | ⟨h, e⟩ | ⟨h, e⟩
  · refine Or.inl ⟨e, ?_, fun hq => ?_, ?_⟩
    · rcases cmpP_cases a3 a4 a5 a0 a1 a2 with ⟨h', e'⟩ | ⟨h', e'⟩ | ⟨h', e'⟩
      · unfold Lt at h h'; omega
      · unfold Lt at h; omega
      · exact e'
    · refine cmpP_lt ?_
      rcases cmpP_le hq with h' | h'
      · unfold Lt at h h' ⊢; omega
      · unfold Lt at h ⊢; omega
    · unfold Lt at h; omega
  · exact Or.inr (Or.inr h)
  · refine Or.inr (Or.inl ⟨e, ?_, ?_⟩)
    · rcases cmpP_cases a3 a4 a5 a0 a1 a2 with ⟨h', e'⟩ | ⟨h', e'⟩ | ⟨h', e'⟩
      · exact e'
      · unfold Lt at h; omega
      · unfold Lt at h h'; omega
    · unfold Lt at h; omega

end Go.Proofs.Qxb6616641a.PlainPos
