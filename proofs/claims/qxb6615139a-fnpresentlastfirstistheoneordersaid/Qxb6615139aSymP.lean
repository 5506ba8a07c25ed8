/- symMerge, with no Go in sight. -/
import Derived.Test.Qxb6615139aSymA
namespace Go.Proofs.Qxb6615139a

theorem rot_none {s : Nat → Nat} {a m b : Nat} (h : a = m ∨ m = b) (hmb : m ≤ b) : rot s a m b = s := by
  funext p
  simp only [rot]
  rcases h with h | h
  · by_cases c : a ≤ p ∧ p < a + (b - m)
    · rw [if_pos c]; congr 1; omega
    · rw [if_neg c, if_neg (by omega)]
  · rw [if_neg (by omega)]
    by_cases c : a + (b - m) ≤ p ∧ p < b
    · rw [if_pos c]; congr 1; omega
    · rw [if_neg c]

structure Parted (lt : Nat → Nat → Bool) (s : Nat → Nat) (a mid b start en : Nat) : Prop where
  r1 : Srtd lt s a start
  r2 : Srtd lt s start mid
  r3 : Srtd lt s mid en
  r4 : Srtd lt s en b
  l1 : ∀ p q, a ≤ p → p < start → start ≤ q → q < mid → s p < s q
  l2 : ∀ p q, mid ≤ p → p < en → en ≤ q → q < b → s p < s q
  x : ∀ p q, a ≤ p → p < mid → mid ≤ q → q < b → SLT lt (s p) (s q)

theorem parted {lt : Nat → Nat → Bool} (hS : Swo lt) {s : Nat → Nat} {a m b mid start en : Nat} (hse : start + en = mid + m) (h1 : a ≤ start) (h2 : start ≤ m) (h3 : m ≤ en) (h4 : en ≤ b)
    (hl : Srtd lt s a m) (hr : Srtd lt s m b) (hlr : ∀ p q, a ≤ p → p < m → m ≤ q → q < b → s p < s q)
    (f1 : (start = a ∨ en = b) ∨ lt (s en) (s (start - 1)) = false) (f2 : (start = m ∨ en = m) ∨ lt (s (en - 1)) (s start) = true) : Parted lt (rot s start m en) a mid b start en := by
  have v1 : ∀ p, p < start → rot s start m en p = s p := fun p h => by simp only [rot]; rw [if_neg (by omega), if_neg (by omega)]
  have v2 : ∀ p, start ≤ p → p < mid → rot s start m en p = s (p - start + m) := fun p h h' => by simp only [rot]; rw [if_pos (by omega)]
  have v3 : ∀ p, mid ≤ p → p < en → rot s start m en p = s (p - (en - m)) := fun p h h' => by simp only [rot]; rw [if_neg (by omega), if_pos (by omega)]
  have v4 : ∀ p, en ≤ p → mid ≤ p → rot s start m en p = s p := fun p h h' => by simp only [rot]; rw [if_neg (by omega), if_neg (by omega)]
  refine ⟨fun p q p1 pq q1 => ?_, fun p q p1 pq q1 => ?_, fun p q p1 pq q1 => ?_, fun p q p1 pq q1 => ?_, fun p q p1 p2 q1 q2 => ?_, fun p q p1 p2 q1 q2 => ?_, fun p q p1 p2 q1 q2 => ?_⟩
  · rw [v1 p (by omega), v1 q q1]; exact hl p q p1 pq (by omega)
  · rw [v2 p p1 (by omega), v2 q (by omega) q1]; exact hr _ _ (by omega) (by omega) (by omega)
  · rw [v3 p p1 (by omega), v3 q (by omega) q1]; exact hl _ _ (by omega) (by omega) (by omega)
  · rw [v4 p (by omega) (by omega), v4 q (by omega) (by omega)]; exact hr p q (by omega) pq q1
  · rw [v1 p p2, v2 q q1 q2]; exact hlr _ _ p1 (by omega) (by omega) (by omega)
  · rw [v3 p p1 p2, v4 q q1 (by omega)]; exact hlr _ _ (by omega) (by omega) (by omega) q2
  · by_cases c : p < start
    · rw [v1 p c]
      by_cases d : q < en
      · rw [v3 q q1 d]; exact hl _ _ p1 (by omega) (by omega)
      · rw [v4 q (by omega) q1]
        rcases f1 with f1 | f1
        · omega
        · have e1 : SLT lt (s (start - 1)) (s en) := Or.inr ⟨f1, hlr _ _ (by omega) (by omega) h3 (by omega)⟩
          have e2 : SLT lt (s p) (s en) := by
            by_cases k : p = start - 1
            · rw [k]; exact e1
            · exact hS.trans (hl p (start - 1) p1 (by omega) (by omega)) e1
          by_cases k : q = en
          · rw [k]; exact e2
          · exact hS.trans e2 (hr en q h3 (by omega) q2)
    · rw [v2 p (by omega) p2]
      by_cases d : q < en
      · rw [v3 q q1 d]
        rcases f2 with f2 | f2
        · omega
        · have e1 : SLT lt (s (en - 1)) (s start) := Or.inl f2
          have e2 : SLT lt (s (p - start + m)) (s start) := by
            by_cases k : p - start + m = en - 1
            · rw [k]; exact e1
            · exact hS.trans (hr _ _ (by omega) (by omega) (by omega)) e1
          by_cases k : q - (en - m) = start
          · rw [k]; exact e2
          · exact hS.trans e2 (hl _ _ h1 (by omega) (by omega))
      · rw [v4 q (by omega) q1]; exact hr _ _ (by omega) (by omega) q2

/-- Two sorted sides, all of the one before all of the other. -/
theorem joined {lt : Nat → Nat → Bool} {s t u : Nat → Nat} {a mid b : Nat} (ham : a ≤ mid) (hmb : mid ≤ b) (hx : ∀ p q, a ≤ p → p < mid → mid ≤ q → q < b → SLT lt (s p) (s q))
    (h1 : Prm a mid s t) (r1 : Srtd lt t a mid) (h2 : Prm mid b t u) (r2 : Srtd lt u mid b) : Prm a b s u ∧ Srtd lt u a b := by
  refine ⟨(h1.mono (Nat.le_refl _) hmb).trans (h2.mono ham (Nat.le_refl _)), fun p q p1 pq q1 => ?_⟩
  by_cases c : mid ≤ p
  · exact r2 p q c pq q1
  · rw [h2.out (p := p) (by omega)]
    by_cases d : q < mid
    · rw [h2.out (p := q) (by omega)]; exact r1 p q p1 pq d
    · obtain ⟨p', k1, k2, k3⟩ := h1.in_ p1 (by omega)
      obtain ⟨q', k4, k5, k6⟩ := h2.in_ (p := q) (by omega) q1
      rw [k3, k6, h1.out (p := q') (by omega)]
      exact hx p' q' k1 k2 k4 k5
/-- A range of which one part is empty is sorted where the other is. -/
theorem one_side {lt : Nat → Nat → Bool} {s : Nat → Nat} {a m b : Nat} (h1 : Srtd lt s a m) (h2 : Srtd lt s m b) (h : ¬ (a < m ∧ m < b)) (ha : a ≤ m) (hb : m ≤ b) : Srtd lt s a b := fun p q p1 pq q1 => by
  by_cases c : a < m
  · have : m = b := by omega
    exact h1 p q p1 pq (by omega)
  · exact h2 p q (by omega) pq q1
end Go.Proofs.Qxb6615139a
