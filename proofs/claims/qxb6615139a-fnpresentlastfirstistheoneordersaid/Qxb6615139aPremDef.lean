/- The premise of the law. -/
import Derived.Test.Qxb6615139aSets
namespace Go.Proofs.Qxb6615139a
open Go.RowKit

/-- The premise of the law. -/
structure Prem (e : Int) (nf ns no np : Nat) (S : Nat → Scn) (b1 b2 b3 : Int) (fo of ix : Nat → Int) (n : Int) : Prop where
  hb1 : 0 ≤ b1 ∧ b1 ≤ 1073741824
  hb2 : 0 ≤ b2 ∧ b2 ≤ 1073741824
  hb3 : 0 ≤ b3 ∧ b3 ≤ 1073741824
  hno : no = nf
  hnp : np = sumPl S ns
  fIn : ∀ p < nf, 0 ≤ fo p ∧ fo p < nf
  fOne : ∀ p < nf, ∀ q < p, fo q ≠ fo p
  pIn : ∀ p < np, 0 ≤ of p ∧ of p < ns ∧ 0 ≤ ix p ∧ ix p < (S (of p).toNat).pl
  pOne : ∀ p < np, ∀ q < p, ¬ (of q = of p ∧ ix q = ix p)
  hn : 0 ≤ n ∧ n ≤ e + nf + sumPl S ns

def PremAns (e : Int) (nf ns no np : Nat) (S : Nat → Scn) (b1 b2 b3 : Int) (fo of ix : Nat → Int) (n : Int) (r : Ending) : Prop :=
  ∃ β, r = .returned (.bool β) ∧ (β = true → Prem e nf ns no np S b1 b2 b3 fo of ix n)

theorem make71 (n : Nat) (hn : n ≤ 1048576) (w : World) : (Instr.makeSlice 71 (.int .i64 n) (.int .i64 n)).run Try.prog w = .ok (.slice (some ⟨w.heap.size, 0, none⟩) n n) (w.alloc (.cells (madeCells #[.bool false] n) 4)) := by
  have := make_any 71 4 #[.bool false] 1 1 n Try.underlying71 (by kernel_rfl) (by omega) (by omega) w
  rwa [Nat.mul_one] at this
theorem make70 (n : Nat) (hn : n ≤ 1048576) (w : World) : (Instr.makeSlice 70 (.int .i64 n) (.int .i64 n)).run Try.prog w = .ok (.slice (some ⟨w.heap.size, 0, none⟩) n n) (w.alloc (.cells (madeCells #[.slice none 0 0] n) 71)) := by
  have := make_any 70 71 #[.slice none 0 0] 1 24 n Try.underlying70 (by kernel_rfl) (by omega) (by omega) w
  rwa [Nat.mul_one] at this

/-- seen after one more mark. -/
theorem seen_step {fo : Nat → Int} {sn : Nat → Bool} {k x nf : Nat} (h : ∀ m < nf, sn m = true ↔ ∃ p < k, fo p = (m : Int)) (hx : fo k = x) :
    ∀ m < nf, (if m = x then true else sn m) = true ↔ ∃ p < k + 1, fo p = (m : Int) := by
  intro m hm
  by_cases e : m = x
  · subst e
    simp only [if_true, true_iff]
    exact ⟨k, by omega, hx⟩
  · rw [if_neg e, h m hm]
    constructor
    · rintro ⟨p, hp, h'⟩; exact ⟨p, by omega, h'⟩
    · rintro ⟨p, hp, h'⟩
      by_cases c : p = k
      · subst c; rw [hx] at h'; omega
      · exact ⟨p, by omega, h'⟩

end Go.Proofs.Qxb6615139a
