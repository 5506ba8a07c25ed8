/- Places and the law's order, with no Go in sight. -/
import Derived.Test.Qxb6615139aZp
import Derived.Test.Qxb6615139aOrd
namespace Go.Proofs.Qxb6615139a
open Go.RowKit

theorem bl_eq : ∀ (x y : List UInt8), Op.bytesLess x y = decide (x < y)
  | [], [] => by simp [Op.bytesLess]
  | _ :: _, [] => by simp [Op.bytesLess]
  | [], _ :: _ => by simp [Op.bytesLess]
  | a :: x, b :: y => by
    rw [Op.bytesLess, bl_eq x y]
    simp only [List.cons_lt_cons_iff]
    by_cases h1 : a < b <;> by_cases h2 : a = b <;> by_cases h3 : x < y <;> simp [h1, h2, h3]
theorem by_tri : ∀ (x y : List UInt8), ¬ x < y → x = y ∨ y < x
  | [], [] => fun _ => Or.inl rfl
  | _ :: _, [] => fun _ => Or.inr (by simp)
  | [], _ :: _ => fun h => absurd (by simp) h
  | a :: x, b :: y => fun h => by
    rw [List.cons_lt_cons_iff] at h
    rw [List.cons_lt_cons_iff]
    by_cases e : a = b
    · subst e
      rcases by_tri x y (fun h' => h (Or.inr ⟨rfl, h'⟩)) with h' | h'
      · exact Or.inl (by rw [h'])
      · exact Or.inr (Or.inr ⟨rfl, h'⟩)
    · refine Or.inr (Or.inl ?_)
      have h1 : ¬ a < b := fun h' => h (Or.inl h')
      rcases UInt8.lt_or_lt_of_ne e with h' | h'
      · exact absurd h' h1
      · exact h'
theorem by_irr (x : List UInt8) : ¬ x < x := List.lt_irrefl x
theorem by_trans {x y z : List UInt8} (h : x < y) (k : y < z) : x < z := List.lt_trans h k

/-- What less answers. -/
def lessB (n1 i1 n2 i2 : ByteArray) (x1 x2 : Nat) : Bool :=
  if n1.toList = n2.toList then (if i1.toList = i2.toList then decide (x2 < x1) else !Op.bytesLess i1.toList i2.toList) else !Op.bytesLess n1.toList n2.toList

theorem lessB_false (n1 i1 n2 i2 : ByteArray) (x1 x2 : Nat) : lessB n1 i1 n2 i2 x1 x2 = false ↔ n1.toList < n2.toList ∨ (n1.toList = n2.toList ∧ (i1.toList < i2.toList ∨ (i1.toList = i2.toList ∧ x1 ≤ x2))) := by
  unfold lessB
  rw [bl_eq, bl_eq]
  generalize n1.toList = a
  generalize n2.toList = b
  generalize i1.toList = c
  generalize i2.toList = d
  by_cases e1 : a = b
  · subst e1
    by_cases e2 : c = d
    · subst e2
      simp [by_irr]
    · simp [e2, by_irr]
  · simp [e1]
theorem lessB_true (n1 i1 n2 i2 : ByteArray) (x1 x2 : Nat) : lessB n1 i1 n2 i2 x1 x2 = true ↔ n2.toList < n1.toList ∨ (n1.toList = n2.toList ∧ (i2.toList < i1.toList ∨ (i1.toList = i2.toList ∧ x2 < x1))) := by
  unfold lessB
  rw [bl_eq, bl_eq]
  generalize n1.toList = a
  generalize n2.toList = b
  generalize i1.toList = c
  generalize i2.toList = d
  have key : ∀ u v : List UInt8, u ≠ v → (¬ u < v ↔ v < u) := fun u v hne => ⟨fun h => (by_tri u v h).resolve_left hne, fun h h' => by_irr _ (by_trans h h')⟩
  by_cases e1 : a = b
  · subst e1
    by_cases e2 : c = d
    · subst e2
      simp [by_irr]
    · simp [e2, by_irr, key c d e2]
  · simp [e1, key a b e1]
theorem befB_true (n1 i1 n2 i2 : ByteArray) (x1 y1 x2 y2 : Nat) : befB n1 i1 n2 i2 x1 y1 x2 y2 = true ↔ n2.toList < n1.toList ∨ (n1.toList = n2.toList ∧ (i2.toList < i1.toList ∨ (i1.toList = i2.toList ∧ (x2 < x1 ∨ (x1 = x2 ∧ y1 < y2))))) := by
  unfold befB
  rw [bl_eq, bl_eq]
  generalize n1.toList = a
  generalize n2.toList = b
  generalize i1.toList = c
  generalize i2.toList = d
  have key : ∀ u v : List UInt8, u ≠ v → (¬ u < v ↔ v < u) := fun u v hne => ⟨fun h => (by_tri u v h).resolve_left hne, fun h h' => by_irr _ (by_trans h h')⟩
  by_cases e1 : a = b
  · subst e1
    by_cases e2 : c = d
    · subst e2
      by_cases e3 : x1 = x2
      · subst e3; simp [by_irr]
      · simp [by_irr, e3]
    · simp [e2, by_irr, key c d e2]
  · simp [e1, key a b e1]

/-- The places, place by place. -/
def posL (S : Nat → Scn) : Nat → List (Nat × Nat)
  | 0 => []
  | n + 1 => posL S n ++ (List.range (S n).pl).map (fun i => (n, i))
theorem posL_len (S : Nat → Scn) : ∀ n, (posL S n).length = sumPl S n
  | 0 => rfl
  | n + 1 => by simp [posL, sumPl, posL_len S n]
theorem posL_in (S : Nat → Scn) : ∀ n, ∀ z ∈ posL S n, z.1 < n ∧ z.2 < (S z.1).pl
  | 0 => fun z hz => by simp [posL] at hz
  | n + 1 => fun z hz => by
    simp only [posL, List.mem_append, List.mem_map, List.mem_range] at hz
    rcases hz with hz | ⟨i, hi, rfl⟩
    · have := posL_in S n z hz
      exact ⟨by omega, this.2⟩
    · exact ⟨by simp, hi⟩
theorem posL_lex (S : Nat → Scn) : ∀ n, (posL S n).Pairwise (fun a b => a.1 < b.1 ∨ (a.1 = b.1 ∧ a.2 < b.2))
  | 0 => List.Pairwise.nil
  | n + 1 => by
    simp only [posL, List.pairwise_append, List.pairwise_map]
    refine ⟨posL_lex S n, List.pairwise_lt_range.imp (fun h => Or.inr ⟨by first | trivial | rfl, h⟩), fun a ha b hb => ?_⟩
    simp only [List.mem_map, List.mem_range] at hb
    obtain ⟨i, hi, rfl⟩ := hb
    exact Or.inl (posL_in S n a ha).1
def posX (S : Nat → Scn) (ns k : Nat) : Nat := ((posL S ns).getD k (0, 0)).1
def posY (S : Nat → Scn) (ns k : Nat) : Nat := ((posL S ns).getD k (0, 0)).2
theorem pos_in (S : Nat → Scn) (ns : Nat) {k : Nat} (hk : k < sumPl S ns) : posX S ns k < ns ∧ posY S ns k < (S (posX S ns k)).pl := by
  have hk' : k < (posL S ns).length := by rw [posL_len]; exact hk
  have := posL_in S ns (posL S ns)[k] (List.getElem_mem hk')
  simpa [posX, posY, List.getD, hk'] using this
theorem pos_lex (S : Nat → Scn) (ns : Nat) {a b : Nat} (hab : a < b) (hb : b < sumPl S ns) : posX S ns a < posX S ns b ∨ (posX S ns a = posX S ns b ∧ posY S ns a < posY S ns b) := by
  have hb' : b < (posL S ns).length := by rw [posL_len]; exact hb
  have ha' : a < (posL S ns).length := by omega
  have := List.pairwise_iff_getElem.1 (posL_lex S ns) a b ha' hb' hab
  simpa [posX, posY, List.getD, hb', ha'] using this

/-- less, on the places' numbers. -/
def ltP (S : Nat → Scn) (ns x y : Nat) : Bool :=
  lessB ((S (posX S ns x)).ref (posY S ns x) 2) ((S (posX S ns x)).ref (posY S ns x) 0) ((S (posX S ns y)).ref (posY S ns y) 2) ((S (posX S ns y)).ref (posY S ns y) 0) (posX S ns x) (posX S ns y)
theorem ltP_swo (S : Nat → Scn) (ns : Nat) : Swo (ltP S ns) := by
  refine ⟨fun a b h => ?_, fun a b c h k => ?_⟩
  · unfold ltP at h ⊢
    rw [lessB_true] at h
    rw [lessB_false]
    rcases h with h | ⟨h1, h | ⟨h2, h⟩⟩
    · exact Or.inl h
    · exact Or.inr ⟨h1.symm, Or.inl h⟩
    · exact Or.inr ⟨h1.symm, Or.inr ⟨h2.symm, Nat.le_of_lt h⟩⟩
  · unfold ltP at h k ⊢
    rw [lessB_false] at h k ⊢
    rcases h with h | ⟨h1, h⟩
    · rcases k with k | ⟨k1, _⟩
      · exact Or.inl (by_trans h k)
      · exact Or.inl (by rw [← k1]; exact h)
    · rcases k with k | ⟨k1, k⟩
      · exact Or.inl (by rw [h1]; exact k)
      · refine Or.inr ⟨h1.trans k1, ?_⟩
        rcases h with h | ⟨h2, h⟩
        · rcases k with k | ⟨k2, _⟩
          · exact Or.inl (by_trans h k)
          · exact Or.inl (by rw [← k2]; exact h)
        · rcases k with k | ⟨k2, k⟩
          · exact Or.inl (by rw [h2]; exact k)
          · exact Or.inr ⟨h2.trans k2, Nat.le_trans h k⟩
/-- Before in the stable sort is before in the law. -/
theorem bef_of_slt (S : Nat → Scn) (ns : Nat) {a b : Nat} (hb : b < sumPl S ns) (h : SLT (ltP S ns) a b) :
    befB ((S (posX S ns a)).ref (posY S ns a) 2) ((S (posX S ns a)).ref (posY S ns a) 0) ((S (posX S ns b)).ref (posY S ns b) 2) ((S (posX S ns b)).ref (posY S ns b) 0) (posX S ns a) (posY S ns a) (posX S ns b) (posY S ns b) = true := by
  rw [befB_true]
  rcases h with h | ⟨h, hab⟩
  · unfold ltP at h
    rw [lessB_true] at h
    rcases h with h | ⟨h1, h | ⟨h2, h⟩⟩
    · exact Or.inl h
    · exact Or.inr ⟨h1, Or.inl h⟩
    · exact Or.inr ⟨h1, Or.inr ⟨h2, Or.inl h⟩⟩
  · unfold ltP at h
    rw [lessB_false] at h
    rcases h with h | ⟨h1, h | ⟨h2, h⟩⟩
    · exact Or.inl h
    · exact Or.inr ⟨h1.symm, Or.inl h⟩
    · refine Or.inr ⟨h1.symm, Or.inr ⟨h2.symm, ?_⟩⟩
      rcases pos_lex S ns hab hb with hl | hl
      · omega
      · exact Or.inr hl
/-- Two places of other numbers are other places. -/
theorem pos_inj (S : Nat → Scn) (ns : Nat) {a b : Nat} (ha : a < sumPl S ns) (hb : b < sumPl S ns) (h1 : posX S ns a = posX S ns b) (h2 : posY S ns a = posY S ns b) : a = b := by
  rcases Nat.lt_trichotomy a b with h | h | h
  · rcases pos_lex S ns h hb with h' | h' <;> omega
  · exact h
  · rcases pos_lex S ns h ha with h' | h' <;> omega

/-- What the law looks for: every place once, in the one order. -/
structure OneOrder (S : Nat → Scn) (ns : Nat) (t : Nat → Nat) : Prop where
  rng : ∀ k < sumPl S ns, t k < sumPl S ns
  one : ∀ p < sumPl S ns, ∀ q < p, t q ≠ t p
  bef : ∀ k, k + 1 < sumPl S ns → befB ((S (posX S ns (t k))).ref (posY S ns (t k)) 2) ((S (posX S ns (t k))).ref (posY S ns (t k)) 0) ((S (posX S ns (t (k + 1)))).ref (posY S ns (t (k + 1))) 2) ((S (posX S ns (t (k + 1)))).ref (posY S ns (t (k + 1))) 0) (posX S ns (t k)) (posY S ns (t k)) (posX S ns (t (k + 1))) (posY S ns (t (k + 1))) = true
theorem OneOrder.of_sorted {S : Nat → Scn} {ns : Nat} {t : Nat → Nat} (hp : Prm 0 (sumPl S ns) id t) (hs : Srtd (ltP S ns) t 0 (sumPl S ns)) : OneOrder S ns t := by
  have hr : ∀ k < sumPl S ns, t k < sumPl S ns := fun k hk => by
    obtain ⟨q, _, hq, e⟩ := hp.in_ (Nat.zero_le k) hk
    rw [e]; exact hq
  exact ⟨hr, fun p _ q hq e => by have := hp.inj (fun _ _ h => h) _ _ e; omega, fun k hk => bef_of_slt S ns (hr _ hk) (hs k (k + 1) (Nat.zero_le _) (by omega) hk)⟩
theorem OneOrder.tiny {S : Nat → Scn} {ns : Nat} (h : sumPl S ns ≤ 1) : OneOrder S ns id :=
  ⟨fun _ h => h, fun p hp q hq => by omega, fun k hk => by omega⟩

/-- The sort that presentLastFirst asks for. -/
def sortK (w0 : World) (g cap rc oc : Nat) (S : Nat → Scn) (ns : Nat) : Sx where
  w0 := w0
  g := g
  n := sumPl S ns
  cap := cap
  X := fun k => (posX S ns k : Int)
  Y := fun k => (posY S ns k : Int)
  lt := ltP S ns
  l1 := .pointer (some ⟨rc, 0, none⟩)
  l2 := .pointer (some ⟨oc, 0, none⟩)
/-- What its less is bound to. -/
structure Bound (w0 : World) (g cap rc oc cb gs ns : Nat) (S : Nat → Scn) (PB : Nat → Nat) : Prop where
  c1 : w0.cell? ⟨rc, 0, none⟩ = some (.func (.func 28) #[] #[.pointer (some ⟨cb, 0, none⟩)])
  c2 : w0.cell? ⟨oc, 0, none⟩ = some (.slice (some ⟨g, 0, none⟩) (sumPl S ns) cap)
  c6 : w0.cell? ⟨cb, 6, none⟩ = some (.slice (some ⟨gs, 0, none⟩) ns ns)
  sc : ScTo w0 gs ns ns S PB
  lr : rc < w0.heap.size
  lo : oc < w0.heap.size
  lc : cb < w0.heap.size
  nr : rc ≠ g
  no : oc ≠ g
  nc : cb ≠ g
  ng : gs ≠ g
  np : ∀ j < ns, PB j ≠ g
end Go.Proofs.Qxb6615139a
