/- Plain: bitmaps, no Go in sight. -/
namespace Go.Proofs.Qxb6615186a

/-- Byte m of the bitmap when the first k sensors have been looked at. -/
def byteTo (p : Nat → Bool) : Nat → Nat → Nat
  | 0, _ => 0
  | k + 1, m => if k / 8 = m ∧ p k = true then byteTo p k m ||| 2 ^ (7 - k % 8) else byteTo p k m

theorem byteTo_set (p : Nat → Bool) (k : Nat) (h : p k = true) : byteTo p (k + 1) (k / 8) = byteTo p k (k / 8) ||| 2 ^ (7 - k % 8) := by
  simp [byteTo, h]
theorem byteTo_clear (p : Nat → Bool) (k m : Nat) (h : p k = false) : byteTo p (k + 1) m = byteTo p k m := by
  simp [byteTo, h]
theorem byteTo_other (p : Nat → Bool) (k m : Nat) (h : k / 8 ≠ m) : byteTo p (k + 1) m = byteTo p k m := by
  simp [byteTo, h]

theorem byteTo_bit (p : Nat → Bool) (k m t : Nat) : (byteTo p k m).testBit t = (decide (t < 8) && decide (8 * m + (7 - t) < k) && p (8 * m + (7 - t))) := by
  induction k with
  | zero => simp [byteTo]
  | succ k ih =>
    by_cases h : k / 8 = m ∧ p k = true
    · rw [byteTo, if_pos h, Nat.testBit_or, ih, Nat.testBit_two_pow]
      obtain ⟨h1, h2⟩ := h
      by_cases ht : t < 8
      · by_cases e : 8 * m + (7 - t) = k
        · have e1 : 7 - k % 8 = t := by omega
          simp [ht, e, e1, h2]
        · have e1 : ¬ 7 - k % 8 = t := by omega
          have e2 : (8 * m + (7 - t) < k) ↔ (8 * m + (7 - t) < k + 1) := by omega
          simp [ht, e1, e2]
      · have e1 : ¬ 7 - k % 8 = t := by omega
        simp [ht, e1]
    · rw [byteTo, if_neg h, ih]
      by_cases ht : t < 8
      · by_cases e : 8 * m + (7 - t) = k
        · have h1 : k / 8 = m := by omega
          have h2 : p k = false := by
            cases hp : p k
            · rfl
            · exact absurd ⟨h1, hp⟩ h
          simp [ht, e, h2]
        · have e2 : (8 * m + (7 - t) < k) ↔ (8 * m + (7 - t) < k + 1) := by omega
          simp [ht, e2]
      · simp [ht]

theorem byteTo_lt (p : Nat → Bool) (k m : Nat) : byteTo p k m < 256 := by
  have : byteTo p k m < 2 ^ 8 := by
    apply Nat.lt_pow_two_of_testBit
    intro i hi
    rw [byteTo_bit]
    simp; omega
  exact this

/-- The mask of sensor k in its byte. -/
theorem mask_eq (k : Nat) : (128 : Int) / 2 ^ (k % 8) = ((2 ^ (7 - k % 8) : Nat) : Int) := by
  have h : k % 8 < 8 := Nat.mod_lt _ (by decide)
  generalize k % 8 = r at h
  match r, h with
  | 0, _ => rfl
  | 1, _ => rfl
  | 2, _ => rfl
  | 3, _ => rfl
  | 4, _ => rfl
  | 5, _ => rfl
  | 6, _ => rfl
  | 7, _ => rfl

theorem mask_lt (k : Nat) : 2 ^ (7 - k % 8) < 256 := by
  have : 2 ^ (7 - k % 8) ≤ 2 ^ 7 := Nat.pow_le_pow_right (by decide) (by omega)
  omega

theorem and_pow (b t : Nat) : (b &&& 2 ^ t ≠ 0) ↔ b.testBit t = true := by
  constructor
  · intro h
    cases hb : b.testBit t
    · exact absurd (by
        apply Nat.eq_of_testBit_eq
        intro i
        rw [Nat.testBit_and, Nat.testBit_two_pow, Nat.zero_testBit]
        by_cases e : t = i
        · subst e; simp [hb]
        · simp [e]) h
    · rfl
  · intro h h0
    have : (b &&& 2 ^ t).testBit t = true := by rw [Nat.testBit_and, h, Nat.testBit_two_pow]; simp
    rw [h0, Nat.zero_testBit] at this
    cases this

/-- Is bit i of the bitmap set? -/
theorem and_mask (p : Nat → Bool) (n i : Nat) : (byteTo p n (i / 8) &&& 2 ^ (7 - i % 8) ≠ 0) ↔ (i < n ∧ p i = true) := by
  have hb := byteTo_bit p n (i / 8) (7 - i % 8)
  have e : 8 * (i / 8) + (7 - (7 - i % 8)) = i := by omega
  rw [e] at hb
  have ht : 7 - i % 8 < 8 := by omega
  rw [and_pow, hb]
  by_cases h1 : i < n <;> cases h2 : p i <;> simp [h1, ht]

/-- Two bitmaps that part in sensor j alone. -/
theorem xor_one (p q : Nat → Bool) (n j m : Nat) (hj : j < n) (hq : ∀ i, q i = if i = j then !p i else p i) :
    byteTo p n m ^^^ byteTo q n m = if m = j / 8 then 2 ^ (7 - j % 8) else 0 := by
  apply Nat.eq_of_testBit_eq
  intro t
  rw [Nat.testBit_xor, byteTo_bit, byteTo_bit, hq]
  by_cases hm : m = j / 8
  · rw [if_pos hm, Nat.testBit_two_pow]
    by_cases ht : t < 8
    · by_cases e : 8 * m + (7 - t) = j
      · have e1 : 7 - j % 8 = t := by omega
        have e2 : 8 * m + (7 - t) < n := by omega
        simp [ht, e, e1, hj]
      · have e1 : ¬ 7 - j % 8 = t := by omega
        simp [e, e1]
    · have e1 : ¬ 7 - j % 8 = t := by omega
      simp [ht, e1]
  · rw [if_neg hm]
    by_cases ht : t < 8
    · have e : ¬ 8 * m + (7 - t) = j := by omega
      simp [e]
    · simp [ht]

def bmpL (p : Nat → Bool) (n : Nat) : List UInt8 := (List.range ((n + 7) / 8)).map fun m => UInt8.ofNat (byteTo p n m)
/-- The bitmap, as a string. -/
def bmp (p : Nat → Bool) (n : Nat) : ByteArray := ⟨(bmpL p n).toArray⟩

theorem bmpL_length (p : Nat → Bool) (n : Nat) : (bmpL p n).length = (n + 7) / 8 := by simp [bmpL]
theorem bmp_size (p : Nat → Bool) (n : Nat) : (bmp p n).size = (n + 7) / 8 := by
  show (bmpL p n).toArray.size = _
  rw [List.size_toArray, bmpL_length]
theorem bmpL_get (p : Nat → Bool) (n m : Nat) (h : m < (bmpL p n).length) : (bmpL p n)[m].toNat = byteTo p n m := by
  have := byteTo_lt p n m
  simp [bmpL]; omega

/-- Two functions that agree below n have one bitmap. -/
theorem byteTo_congr (p q : Nat → Bool) (n m : Nat) (h : ∀ i < n, p i = q i) : byteTo p n m = byteTo q n m := by
  apply Nat.eq_of_testBit_eq
  intro t
  rw [byteTo_bit, byteTo_bit]
  by_cases hi : 8 * m + (7 - t) < n
  · rw [h _ hi]
  · simp [hi]

end Go.Proofs.Qxb6615186a
