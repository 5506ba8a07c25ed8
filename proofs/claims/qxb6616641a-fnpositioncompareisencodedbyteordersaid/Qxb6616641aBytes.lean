/- The plain law: the encodings compare byte by byte as the positions do. -/
import Derived.Test.Qxb6616641aEnc
import Derived.Laws.BitsAllLaws
namespace Go.Proofs.Qxb6616641a
open PlainPos

theorem nat_flip (X : Nat) (h : X < 18446744073709551616) : X ^^^ 9223372036854775808 = if X < 9223372036854775808 then X + 9223372036854775808 else X - 9223372036854775808 := by
  have h1 : (X ^^^ 9223372036854775808) / 2 ^ 63 = X / 2 ^ 63 ^^^ 9223372036854775808 / 2 ^ 63 := Nat.xor_div_two_pow
  have h2 : (X ^^^ 9223372036854775808) % 2 ^ 63 = X % 2 ^ 63 ^^^ 9223372036854775808 % 2 ^ 63 := Nat.xor_mod_two_pow
  have e1 : (9223372036854775808 : Nat) / 2 ^ 63 = 1 := by decide
  have e2 : (9223372036854775808 : Nat) % 2 ^ 63 = 0 := by decide
  rw [e1] at h1
  rw [e2, Nat.xor_zero] at h2
  generalize X ^^^ 9223372036854775808 = Y at h1 h2 ⊢
  by_cases c : X < 9223372036854775808
  · have z : X / 2 ^ 63 = 0 := by omega
    rw [z, Nat.zero_xor] at h1
    rw [if_pos c]; omega
  · have z : X / 2 ^ 63 = 1 := by omega
    rw [z, Nat.xor_self] at h1
    rw [if_neg c]; omega

theorem flip63_eq (k : Int) (h0 : -9223372036854775808 ≤ k) (h1 : k ≤ 9223372036854775807) : flip63 k = k + 9223372036854775808 := by
  unfold flip63
  rw [IntKind.wrap_u64, u64_xor _ _ (by omega) (by omega) (by decide) (by decide)]
  have e : (9223372036854775808 : Int).toNat = 9223372036854775808 := rfl
  rw [e, nat_flip _ (by omega)]
  split <;> omega

theorem lex_step (p a b A B : Int) (hA0 : 0 ≤ A) (hA1 : A < p) (hB0 : 0 ≤ B) (hB1 : B < p) :
    cmpI (p * a + A) (p * b + B) = if a < b then -1 else if b < a then 1 else cmpI A B := by
  have hp : 0 < p := by omega
  rcases Int.lt_trichotomy a b with h | h | h
  · have := Int.mul_le_mul_of_nonneg_left (show a + 1 ≤ b by omega) (Int.le_of_lt hp)
    rw [Int.mul_add, Int.mul_one] at this
    rw [if_pos h]; exact cmpI_lt (by omega)
  · subst h
    rw [if_neg (by omega), if_neg (by omega)]
    unfold cmpI
    by_cases c : A < B
    · rw [if_pos c, if_pos (by omega)]
    · rw [if_neg c, if_neg (by omega)]
      by_cases c' : B < A
      · rw [if_pos c', if_pos (by omega)]
      · rw [if_neg c', if_neg (by omega)]
  · have := Int.mul_le_mul_of_nonneg_left (show b + 1 ≤ a by omega) (Int.le_of_lt hp)
    rw [Int.mul_add, Int.mul_one] at this
    rw [if_neg (by omega), if_pos h]; exact cmpI_gt (by omega)

theorem mod_step (K : Int) (h0 : 0 ≤ K) (n : Nat) : K % 2 ^ (8 * (n + 1)) = 2 ^ (8 * n) * (K / 2 ^ (8 * n) % 256) + K % 2 ^ (8 * n) := by
  obtain ⟨N, rfl⟩ := Int.eq_ofNat_of_zero_le h0
  have h : N % (2 ^ (8 * n) * 256) = N % 2 ^ (8 * n) + 2 ^ (8 * n) * (N / 2 ^ (8 * n) % 256) := Nat.mod_mul
  have e : 2 ^ (8 * n) * 256 = 2 ^ (8 * (n + 1)) := by
    rw [show (256 : Nat) = 2 ^ 8 by rfl, ← Nat.pow_add]; congr 1
  rw [e] at h
  have h' : ((N % 2 ^ (8 * (n + 1)) : Nat) : Int) = ((N % 2 ^ (8 * n) + 2 ^ (8 * n) * (N / 2 ^ (8 * n) % 256) : Nat) : Int) := by rw [h]
  rw [Int.natCast_emod, Int.natCast_add, Int.natCast_mul, Int.natCast_emod, Int.natCast_emod, Int.natCast_ediv, Int.natCast_pow, Int.natCast_pow] at h'
  rw [Int.add_comm]
  exact h'

theorem cmp8 (f g : Nat → Int) (b : Nat) (K K' : Int) (h0 : 0 ≤ K) (h1 : K < 18446744073709551616) (h0' : 0 ≤ K') (h1' : K' < 18446744073709551616)
    (hf : ∀ i < 8, f (b + i) = K / 2 ^ (56 - 8 * i) % 256) (hg : ∀ i < 8, g (b + i) = K' / 2 ^ (56 - 8 * i) % 256) : cmpFrom f g b 8 = cmpI K K' := by
  have hn : ∀ n ≤ 8, cmpFrom f g (b + (8 - n)) n = cmpI (K % 2 ^ (8 * n)) (K' % 2 ^ (8 * n)) := by
    intro n
    induction n with
    | zero => intro _; simp [cmpFrom, cmpI, Int.emod_one]
    | succ n ih =>
      intro hn
      have i1 := ih (by omega)
      have hp : (0 : Int) < 2 ^ (8 * n) := Int.pow_pos (by decide)
      rw [mod_step K h0, mod_step K' h0', lex_step _ _ _ _ _ (Int.emod_nonneg _ (by omega)) (Int.emod_lt_of_pos _ hp) (Int.emod_nonneg _ (by omega)) (Int.emod_lt_of_pos _ hp), ← i1, cmpFrom,
        hf (8 - (n + 1)) (by omega), hg (8 - (n + 1)) (by omega), show 56 - 8 * (8 - (n + 1)) = 8 * n by omega, show b + (8 - (n + 1)) + 1 = b + (8 - n) by omega]
  have := hn 8 (by omega)
  rw [show b + (8 - 8) = b by omega, show (2 : Int) ^ (8 * 8) = 18446744073709551616 by decide, Int.emod_eq_of_lt h0 h1, Int.emod_eq_of_lt h0' h1'] at this
  exact this

theorem cmpFrom_add (f g : Nat → Int) (k m n : Nat) : cmpFrom f g k (m + n) = if cmpFrom f g k m = 0 then cmpFrom f g (k + m) n else cmpFrom f g k m := by
  induction m generalizing k with
  | zero => simp [cmpFrom]
  | succ m ih =>
    rw [show m + 1 + n = (m + n) + 1 by omega, cmpFrom, cmpFrom]
    by_cases c : f k < g k
    · rw [if_pos c, if_pos c]; rfl
    · rw [if_neg c, if_neg c]
      by_cases c' : g k < f k
      · rw [if_pos c', if_pos c']; rfl
      · rw [if_neg c', if_neg c', ih, show k + 1 + m = k + (m + 1) by omega]

theorem cmpI_add (a b c : Int) : cmpI (a + c) (b + c) = cmpI a b := by
  rcases cmpI_cases a b with ⟨h, e⟩ | ⟨h, e⟩ | ⟨h, e⟩ <;> rw [e]
  · exact cmpI_lt (by omega)
  · exact cmpI_eq (by omega)
  · exact cmpI_gt (by omega)

theorem encoded (s k t s' k' t' : Int) (hk0 : -9223372036854775808 ≤ k) (hk1 : k ≤ 9223372036854775807) (ht0 : -9223372036854775808 ≤ t) (ht1 : t ≤ 9223372036854775807)
    (hk0' : -9223372036854775808 ≤ k') (hk1' : k' ≤ 9223372036854775807) (ht0' : -9223372036854775808 ≤ t') (ht1' : t' ≤ 9223372036854775807) :
    cmpFrom (encB s (flip63 k) (flip63 t) 8) (encB s' (flip63 k') (flip63 t') 8) 0 17 = cmpP s k t s' k' t' := by
  rw [flip63_eq k hk0 hk1, flip63_eq t ht0 ht1, flip63_eq k' hk0' hk1', flip63_eq t' ht0' ht1']
  rw [cmpFrom_add _ _ 0 1 16, cmpFrom_add _ _ (0 + 1) 8 8]
  rw [cmp8 _ _ (0 + 1) (k + 9223372036854775808) (k' + 9223372036854775808) (by omega) (by omega) (by omega) (by omega)
      (fun i hi => by unfold encB; rw [if_neg (by omega), if_pos (by omega), if_pos (by omega), show 0 + 1 + i - 1 = i by omega])
      (fun i hi => by unfold encB; rw [if_neg (by omega), if_pos (by omega), if_pos (by omega), show 0 + 1 + i - 1 = i by omega])]
  rw [cmp8 _ _ (0 + 1 + 8) (t + 9223372036854775808) (t' + 9223372036854775808) (by omega) (by omega) (by omega) (by omega)
      (fun i hi => by unfold encB; rw [if_neg (by omega), if_neg (by omega), if_pos (by omega), show 0 + 1 + 8 + i - 9 = i by omega])
      (fun i hi => by unfold encB; rw [if_neg (by omega), if_neg (by omega), if_pos (by omega), show 0 + 1 + 8 + i - 9 = i by omega])]
  rw [cmpI_add, cmpI_add]
  have e0 : ∀ (a b : Int) (K T K' T' : Int), cmpFrom (encB a K T 8) (encB b K' T' 8) 0 1 = cmpI a b := by
    intro a b K T K' T'; simp [cmpFrom, encB, cmpI]
  rw [e0]
  rfl

end Go.Proofs.Qxb6616641a
