/- The order of a stable sort, with no Go in sight. -/
import Derived.Test.Qxb6615139aSwr
namespace Go.Proofs.Qxb6615139a

structure Swo (lt : Nat → Nat → Bool) : Prop where
  asym : ∀ a b, lt a b = true → lt b a = false
  ntr : ∀ a b c, lt a b = false → lt b c = false → lt a c = false
/-- Before, in a stable sort. -/
def SLT (lt : Nat → Nat → Bool) (x y : Nat) : Prop := lt x y = true ∨ (lt y x = false ∧ x < y)
theorem Swo.trans {lt : Nat → Nat → Bool} (h : Swo lt) {x y z : Nat} (h1 : SLT lt x y) (h2 : SLT lt y z) : SLT lt x z := by
  rcases h1 with h1 | ⟨h1, l1⟩
  · refine Or.inl ?_
    cases c : lt x z
    · have : lt z y = false := by
        rcases h2 with h2 | ⟨h2, _⟩
        · exact h.asym _ _ h2
        · exact h2
      rw [h.ntr _ _ _ c this] at h1; cases h1
    · rfl
  · rcases h2 with h2 | ⟨h2, l2⟩
    · refine Or.inl ?_
      cases c : lt x z
      · rw [h.ntr _ _ _ h1 c] at h2; cases h2
      · rfl
    · exact Or.inr ⟨h.ntr _ _ _ h2 h1, by omega⟩
def Srtd (lt : Nat → Nat → Bool) (s : Nat → Nat) (a b : Nat) : Prop := ∀ p q, a ≤ p → p < q → q < b → SLT lt (s p) (s q)
theorem Srtd.ext {lt : Nat → Nat → Bool} {s t : Nat → Nat} {a b : Nat} (h : Srtd lt s a b) (e : ∀ p, a ≤ p → p < b → s p = t p) : Srtd lt t a b := fun p q h1 h2 h3 => by
  rw [← e p h1 (by omega), ← e q (by omega) h3]; exact h p q h1 h2 h3
theorem Srtd.sub {lt : Nat → Nat → Bool} {s : Nat → Nat} {a b a' b' : Nat} (h : Srtd lt s a b) (h1 : a ≤ a') (h2 : b' ≤ b) : Srtd lt s a' b' := fun p q k1 k2 k3 => h p q (by omega) k2 (by omega)

/-- t is s, rearranged within [a, b). -/
def Prm (a b : Nat) (s t : Nat → Nat) : Prop :=
  ∃ τ : Nat → Nat, (∀ p, a ≤ p → p < b → a ≤ τ p ∧ τ p < b) ∧ (∀ p, ¬ (a ≤ p ∧ p < b) → τ p = p) ∧ (∀ p q, τ p = τ q → p = q) ∧ ∀ p, t p = s (τ p)
theorem Prm.refl (a b : Nat) (s : Nat → Nat) : Prm a b s s := ⟨id, fun _ h1 h2 => ⟨h1, h2⟩, fun _ _ => rfl, fun _ _ h => h, fun _ => rfl⟩
theorem Prm.trans {a b : Nat} {s t u : Nat → Nat} (h : Prm a b s t) (k : Prm a b t u) : Prm a b s u := by
  obtain ⟨τ, h1, h2, h3, h4⟩ := h
  obtain ⟨ρ, k1, k2, k3, k4⟩ := k
  refine ⟨fun p => τ (ρ p), fun p hp hq => h1 _ (k1 p hp hq).1 (k1 p hp hq).2, fun p hp => ?_, fun p q e => k3 _ _ (h3 _ _ e), fun p => by rw [k4, h4]⟩
  show τ (ρ p) = p
  rw [k2 p hp, h2 p hp]
theorem Prm.mono {a b a' b' : Nat} {s t : Nat → Nat} (h : Prm a b s t) (ha : a' ≤ a) (hb : b ≤ b') : Prm a' b' s t := by
  obtain ⟨τ, h1, h2, h3, h4⟩ := h
  refine ⟨τ, fun p hp hq => ?_, fun p hp => h2 p (by omega), h3, h4⟩
  by_cases c : a ≤ p ∧ p < b
  · have := h1 p c.1 c.2; omega
  · rw [h2 p c]; omega
theorem Prm.out {a b : Nat} {s t : Nat → Nat} (h : Prm a b s t) {p : Nat} (hp : ¬ (a ≤ p ∧ p < b)) : t p = s p := by
  obtain ⟨τ, _, h2, _, h4⟩ := h
  rw [h4, h2 p hp]
theorem Prm.in_ {a b : Nat} {s t : Nat → Nat} (h : Prm a b s t) {p : Nat} (h1 : a ≤ p) (h2 : p < b) : ∃ q, a ≤ q ∧ q < b ∧ t p = s q := by
  obtain ⟨τ, k1, _, _, k4⟩ := h
  exact ⟨τ p, (k1 p h1 h2).1, (k1 p h1 h2).2, k4 p⟩
theorem Prm.inj {a b : Nat} {s t : Nat → Nat} (h : Prm a b s t) (hs : ∀ p q, s p = s q → p = q) : ∀ p q, t p = t q → p = q := by
  obtain ⟨τ, _, _, h3, h4⟩ := h
  intro p q e
  rw [h4, h4] at e
  exact h3 _ _ (hs _ _ e)
theorem Prm.of_eq {a b : Nat} {s t : Nat → Nat} (h : ∀ p, s p = t p) : Prm a b s t := ⟨id, fun _ h1 h2 => ⟨h1, h2⟩, fun _ _ => rfl, fun _ _ h => h, fun p => (h p).symm⟩

/-- Element i put in at place j ≤ i. -/
def ins (t : Nat → Nat) (i j : Nat) : Nat → Nat := fun p => if p = j then t i else if j < p ∧ p ≤ i then t (p - 1) else t p
theorem ins_self (t : Nat → Nat) (i : Nat) : ins t i i = t := by
  funext p
  simp only [ins]
  repeat' split
  all_goals first | rfl | omega | (congr 1; omega)
theorem ins_step (t : Nat → Nat) {i j : Nat} (hj : 0 < j) (hi : j ≤ i) : swp (ins t i j) j (j - 1) = ins t i (j - 1) := by
  funext p
  simp only [swp, ins]
  by_cases c1 : p = j
  · rw [if_pos c1, if_neg (by omega), if_neg (by omega), if_neg (by omega), if_pos (by omega), c1]
  · rw [if_neg c1]
    by_cases c2 : p = j - 1
    · rw [if_pos c2, if_pos c2, if_pos trivial]
    · rw [if_neg c2, if_neg c2, if_neg c1]
      by_cases c3 : j < p ∧ p ≤ i
      · rw [if_pos c3, if_pos (by omega)]
      · rw [if_neg c3, if_neg (by omega)]
theorem ins_prm (t : Nat → Nat) {a b i j : Nat} (ha : a ≤ j) (hj : j ≤ i) (hb : i < b) : Prm a b t (ins t i j) := by
  refine ⟨fun p => if p = j then i else if j < p ∧ p ≤ i then p - 1 else p, fun p h1 h2 => ?_, fun p hp => ?_, fun p q e => ?_, fun p => ?_⟩
  · simp only; repeat' split
    all_goals omega
  · simp only; repeat' split
    all_goals omega
  · simp only at e
    revert e
    repeat' split
    all_goals omega
  · simp only [ins]
    repeat' split
    all_goals rfl
theorem ins_srtd {lt : Nat → Nat → Bool} (hS : Swo lt) {t : Nat → Nat} {a i j : Nat} (ha : a ≤ j) (hj : j ≤ i) (hs : Srtd lt t a i) (h1 : ∀ p, j < p → p ≤ i → lt (t i) (t (p - 1)) = true)
    (h2 : j = a ∨ SLT lt (t (j - 1)) (t i)) : Srtd lt (ins t i j) a (i + 1) := by
  intro p q hp hpq hq
  have low : ∀ p, a ≤ p → p < j → SLT lt (t p) (t i) := fun p h3 h4 => by
    rcases h2 with h2 | h2
    · omega
    · by_cases c : p = j - 1
      · rw [c]; exact h2
      · exact hS.trans (hs p (j - 1) h3 (by omega) (by omega)) h2
  simp only [ins]
  by_cases c1 : p = j
  · rw [if_pos c1, if_neg (by omega), if_pos (by omega)]
    exact Or.inl (h1 q (by omega) (by omega))
  · rw [if_neg c1]
    by_cases c2 : j < p ∧ p ≤ i
    · rw [if_pos c2, if_neg (by omega), if_pos (by omega)]
      exact hs (p - 1) (q - 1) (by omega) (by omega) (by omega)
    · rw [if_neg c2]
      by_cases c3 : q = j
      · rw [if_pos c3]; exact low p hp (by omega)
      · rw [if_neg c3]
        by_cases c4 : j < q ∧ q ≤ i
        · rw [if_pos c4]
          by_cases c5 : p = q - 1
          · omega
          · exact hs p (q - 1) hp (by omega) (by omega)
        · rw [if_neg c4]
          exact hs p q hp hpq (by omega)
end Go.Proofs.Qxb6615139a
