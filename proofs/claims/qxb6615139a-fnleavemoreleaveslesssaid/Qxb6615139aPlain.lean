/- The plain law: what leaves and what stays, with no Go in sight. -/
import Derived.Test.Qxb6615139aGone
namespace Go.Proofs.Qxb6615139a

/-- One more place leaves. -/
theorem kept_less {s s' : Nat → Bool} {x : Nat} (hx : s x = false) (h : ∀ i, s' i = if i = x then true else s i) : ∀ n, (kept s' n).length + (if x < n then 1 else 0) = (kept s n).length
  | 0 => by simp [kept]
  | n + 1 => by
    have ih := kept_less hx h n
    by_cases e : n = x
    · subst e
      have h1 : s' n = true := by rw [h, if_pos rfl]
      rw [kept_in h1, kept_out hx, List.length_append]
      simp at ih ⊢
      omega
    · have h1 : s' n = s n := by rw [h, if_neg e]
      cases hs : s n
      · rw [kept_out (h1.trans hs), kept_out hs, List.length_append, List.length_append]
        by_cases c : x < n
        · rw [if_pos c] at ih; rw [if_pos (by omega)]; simp; omega
        · rw [if_neg c] at ih; rw [if_neg (by omega)]; simp; omega
      · rw [kept_in (h1.trans hs), kept_in hs]
        by_cases c : x < n
        · rw [if_pos c] at ih; rw [if_pos (by omega)]; omega
        · rw [if_neg c] at ih; rw [if_neg (by omega)]; omega
theorem kept_mono {s s' : Nat → Bool} (h : ∀ i, s i = true → s' i = true) (n : Nat) : (kept s' n).Sublist (kept s n) := by
  have : kept s' n = (kept s n).filter (fun i => !s' i) := by
    rw [kept, kept, List.filter_filter]
    refine List.filter_congr (fun i _ => ?_)
    cases e : s i
    · simp
    · simp [h i e]
  rw [this]
  exact List.filter_sublist

theorem inPre_mono {fo : Nat → Int} {F F' : Nat} (h : F ≤ F') : ∀ i, inPre fo F i = true → inPre fo F' i = true := fun i hi => by
  obtain ⟨p, hp, e⟩ := (inPre_iff fo F i).1 hi
  exact (inPre_iff fo F' i).2 ⟨p, by omega, e⟩
theorem in2_mono {of ix : Nat → Int} {Q Q' : Nat} (h : Q ≤ Q') (m : Nat) : ∀ i, in2 of ix Q m i = true → in2 of ix Q' m i = true := fun i hi => by
  obtain ⟨p, hp, e⟩ := (in2_iff of ix Q m i).1 hi
  exact (in2_iff of ix Q' m i).2 ⟨p, by omega, e⟩

/-- F of the facts leave. -/
theorem kept_pre {fo : Nat → Int} {nf : Nat} (hin : ∀ p < nf, 0 ≤ fo p ∧ fo p < nf) (hone : ∀ p < nf, ∀ q < p, fo q ≠ fo p) : ∀ F ≤ nf, (kept (inPre fo F) nf).length + F = nf
  | 0, _ => by
    have : kept (inPre fo 0) nf = List.range nf := by rw [kept, List.filter_eq_self]; intro i _; rfl
    rw [this]; simp
  | F + 1, h => by
    have ih := kept_pre hin hone F (by omega)
    obtain ⟨f0, f1⟩ := hin F (by omega)
    obtain ⟨x, hx⟩ := Int.eq_ofNat_of_zero_le f0
    have hno : inPre fo F x = false := by
      cases hh : inPre fo F x
      · rfl
      · obtain ⟨p, hp, e⟩ := (inPre_iff fo F x).1 hh
        exact absurd (e.trans hx.symm) (hone F (by omega) p hp)
    have := kept_less (s' := inPre fo (F + 1)) hno (fun i => by
      simp only [inPre, hx]
      by_cases c : i = x
      · subst c; simp
      · rw [if_neg (by omega), if_neg c]) nf
    rw [if_pos (by omega)] at this
    omega

/-- Sums. -/
def sumN (f : Nat → Nat) : Nat → Nat
  | 0 => 0
  | k + 1 => sumN f k + f k
theorem sumN_congr {f g : Nat → Nat} : ∀ n, (∀ j < n, f j = g j) → sumN f n = sumN g n
  | 0, _ => rfl
  | n + 1, h => by simp only [sumN]; rw [sumN_congr n (fun j hj => h j (by omega)), h n (by omega)]
theorem sumN_less {f g : Nat → Nat} {x : Nat} (hx : f x + 1 = g x) (h : ∀ j, j ≠ x → f j = g j) : ∀ n, x < n → sumN f n + 1 = sumN g n
  | n + 1, hn => by
    simp only [sumN]
    by_cases e : x = n
    · subst e
      have := sumN_congr x (fun j hj => h j (by omega))
      omega
    · have := sumN_less hx h n (by omega)
      have := h n (by omega)
      omega

/-- Q of those present leave. -/
theorem kept_present {of ix : Nat → Int} {pl : Nat → Nat} {ns np : Nat} (hin : ∀ p < np, 0 ≤ of p ∧ of p < ns ∧ 0 ≤ ix p ∧ ix p < pl (of p).toNat) (hone : ∀ p < np, ∀ q < p, ¬ (of q = of p ∧ ix q = ix p)) :
    ∀ Q ≤ np, sumN (fun j => (kept (in2 of ix Q j) (pl j)).length) ns + Q = sumN pl ns
  | 0, _ => by
    have : ∀ j, kept (in2 of ix 0 j) (pl j) = List.range (pl j) := fun j => by rw [kept, List.filter_eq_self]; intro i _; rfl
    simp only [this, List.length_range]; simp
  | Q + 1, h => by
    have ih := kept_present hin hone Q (by omega)
    obtain ⟨f0, f1, f2, f3⟩ := hin Q (by omega)
    obtain ⟨x, hx⟩ := Int.eq_ofNat_of_zero_le f0
    obtain ⟨y, hy⟩ := Int.eq_ofNat_of_zero_le f2
    rw [hx, hy, Int.toNat_natCast] at f3
    rw [hx] at f1
    have hno : in2 of ix Q x y = false := by
      cases hh : in2 of ix Q x y
      · rfl
      · obtain ⟨p, hp, e1, e2⟩ := (in2_iff of ix Q x y).1 hh
        exact absurd ⟨e1.trans hx.symm, e2.trans hy.symm⟩ (hone Q (by omega) p hp)
    have h1 := kept_less (s' := in2 of ix (Q + 1) x) hno (fun i => by
      simp only [in2, hx, hy, true_and]
      by_cases c : i = y
      · subst c; simp
      · rw [if_neg (by omega), if_neg c]) (pl x)
    rw [if_pos (by omega)] at h1
    have h2 : ∀ j, j ≠ x → (kept (in2 of ix (Q + 1) j) (pl j)).length = (kept (in2 of ix Q j) (pl j)).length := fun j hj => by
      have : in2 of ix (Q + 1) j = in2 of ix Q j := by
        funext i
        simp only [in2, hx]
        rw [if_neg (by omega)]
      rw [this]
    have := sumN_less (f := fun j => (kept (in2 of ix (Q + 1) j) (pl j)).length) (g := fun j => (kept (in2 of ix Q j) (pl j)).length) h1 h2 ns (by omega)
    omega

/-- The count of a scene's leaving is at most what is there. -/
theorem cnt2_kept {of ix : Nat → Int} {pl : Nat → Nat} {ns np : Nat} (hin : ∀ p < np, 0 ≤ of p ∧ of p < ns ∧ 0 ≤ ix p ∧ ix p < pl (of p).toNat) (hone : ∀ p < np, ∀ q < p, ¬ (of q = of p ∧ ix q = ix p)) (m : Nat) :
    ∀ Q ≤ np, (kept (in2 of ix Q m) (pl m)).length + cnt2 of Q m = pl m
  | 0, _ => by
    have : kept (in2 of ix 0 m) (pl m) = List.range (pl m) := by rw [kept, List.filter_eq_self]; intro i _; rfl
    rw [this]; simp [cnt2]
  | Q + 1, h => by
    have ih := cnt2_kept hin hone m Q (by omega)
    obtain ⟨f0, f1, f2, f3⟩ := hin Q (by omega)
    obtain ⟨x, hx⟩ := Int.eq_ofNat_of_zero_le f0
    obtain ⟨y, hy⟩ := Int.eq_ofNat_of_zero_le f2
    rw [hx, hy, Int.toNat_natCast] at f3
    by_cases e : m = x
    · subst e
      have hno : in2 of ix Q m y = false := by
        cases hh : in2 of ix Q m y
        · rfl
        · obtain ⟨p, hp, e1, e2⟩ := (in2_iff of ix Q m y).1 hh
          exact absurd ⟨e1.trans hx.symm, e2.trans hy.symm⟩ (hone Q (by omega) p hp)
      have h1 := kept_less (s' := in2 of ix (Q + 1) m) hno (fun i => by
        simp only [in2, hx, hy, true_and]
        by_cases c : i = y
        · subst c; simp
        · rw [if_neg (by omega), if_neg c]) (pl m)
      rw [if_pos (by omega)] at h1
      simp only [cnt2, hx, if_true]
      omega
    · have e' : ¬ ((x : Int) = (m : Int)) := by omega
      have h1 : in2 of ix (Q + 1) m = in2 of ix Q m := by
        funext i
        simp only [in2, hx, e', false_and, if_false]
      rw [h1]
      simp only [cnt2, hx, e', if_false]
      exact ih

/-! ### The greedy match -/
theorem drop_hit {α : Type} {A B : List α} {j p : Nat} (h : (B.drop p).Sublist (A.drop j)) (hj : j < A.length) (hp : p < B.length) (e : A[j] = B[p]) : (B.drop (p + 1)).Sublist (A.drop (j + 1)) := by
  rw [List.drop_eq_getElem_cons hj, List.drop_eq_getElem_cons hp, e] at h
  exact List.cons_sublist_cons.1 h
theorem sub_miss {α : Type} {a b : α} {l l' : List α} (h : (b :: l').Sublist (a :: l)) (e : a ≠ b) : (b :: l').Sublist l := by
  cases h with
  | cons _ h => exact h
  | cons_cons _ h => exact absurd rfl e
theorem drop_miss {α : Type} {A B : List α} {j p : Nat} (h : (B.drop p).Sublist (A.drop j)) (hj : j < A.length) (hp : p < B.length) (e : A[j] ≠ B[p]) : (B.drop p).Sublist (A.drop (j + 1)) := by
  rw [List.drop_eq_getElem_cons hj] at h
  rw [List.drop_eq_getElem_cons hp] at h ⊢
  exact sub_miss h e
theorem drop_end {α : Type} {A B : List α} {j p : Nat} (h : (B.drop p).Sublist (A.drop j)) (hp : p ≤ B.length) (e : A.length ≤ j ∨ B.length ≤ p) : p = B.length := by
  rcases e with e | e
  · rw [List.drop_eq_nil_of_le e] at h
    have := List.length_eq_zero_iff.2 (List.sublist_nil.1 h)
    rw [List.length_drop] at this
    omega
  · omega

/-- How many of each leave. -/
def amE (nr n : Nat) : Nat := min n nr
def amF (nr nf n : Nat) : Nat := min (n - nr) nf
def amQ (nr nf n : Nat) : Nat := n - nr - nf
theorem am_cases (nr nf n : Nat) : ((n : Int) ≤ nr ∧ (amE nr n : Int) = n ∧ (amF nr nf n : Int) = 0 ∧ (amQ nr nf n : Int) = 0) ∨ ((nr : Int) < n ∧ (n : Int) ≤ (nr : Int) + nf ∧ (amE nr n : Int) = nr ∧ (amF nr nf n : Int) = n - nr ∧ (amQ nr nf n : Int) = 0) ∨
    ((nr : Int) + nf < n ∧ (amE nr n : Int) = nr ∧ (amF nr nf n : Int) = nf ∧ (amQ nr nf n : Int) = n - nr - nf) := by
  simp only [amE, amF, amQ]; omega
theorem am_mono {nr nf n m : Nat} (h : n ≤ m) : amE nr n ≤ amE nr m ∧ amF nr nf n ≤ amF nr nf m ∧ amQ nr nf n ≤ amQ nr nf m := by simp only [amE, amF, amQ]; omega
theorem am_sum (nr nf n : Nat) : amE nr n + amF nr nf n + amQ nr nf n = n := by simp only [amE, amF, amQ]; omega
theorem am_le {nr nf np n : Nat} (h : n ≤ nr + nf + np) : amE nr n ≤ nr ∧ amF nr nf n ≤ nf ∧ amQ nr nf n ≤ np := by simp only [amE, amF, amQ]; omega
end Go.Proofs.Qxb6615139a
