/- What an argument that reads as a slice of inputs is. -/
import Derived.Test.Qxb6615186aCopy
import Derived.Deep.SlicePairs
import Derived.ProofKit
import Derived.SizedLaws
namespace Go.Proofs.Qxb6615186a
open Go.ChangeShapes Go.WideShapes Go.ChangeAt Go.RowKit Go.Deep

theorem own : ownKnob Try.prog.godebug = none := by kernel_rfl
theorem laidOut : laidOutB Try.prog = true := by kernel_rfl
theorem cells29 : Try.prog.cellsOf 29 = 2 := by kernel_rfl
theorem cells26 : Try.prog.cellsOf 26 = 1 := by kernel_rfl
theorem cells4 : Try.prog.cellsOf 4 = 1 := by kernel_rfl
theorem bytes29 : Try.prog.bytesOf 29 = 16 := by kernel_rfl

section
variable {H : Type} {enc : TypeId × Value → H}

theorem trod_float {w : World} {base : Nat} {spare : Nat → Bool} {held : Bool} {fuel : Nat} {cs : List Value} {x : DataW H × List MemPlace}
    (h : DataW.trod enc Try.prog w base spare held fuel 26 cs = some x) : ∃ b, cs = [.float .f64 b] := by
  cases fuel with
  | zero => simp [DataW.trod] at h
  | succ n =>
    unfold DataW.trod at h
    rw [Try.underlying26] at h
    split at h <;> simp_all

theorem trod_bool {w : World} {base : Nat} {spare : Nat → Bool} {held : Bool} {fuel : Nat} {cs : List Value} {x : DataW H × List MemPlace}
    (h : DataW.trod enc Try.prog w base spare held fuel 4 cs = some x) : ∃ b, cs = [.bool b] := by
  cases fuel with
  | zero => simp [DataW.trod] at h
  | succ n =>
    unfold DataW.trod at h
    rw [Try.underlying4] at h
    split at h <;> simp_all

theorem open_inputs {W : World} {a0 : Option Addr} {len cap : Nat} {d : DataW H} {p : List MemPlace} (hlt : ∀ x ∈ p, x.block < W.heap.size)
    (h : DataW.Trod enc Try.prog W 0 (fun _ => true) true 22 (.slice a0 len cap) d p) :
    (a0 = none ∧ len = 0 ∧ cap = 0) ∨ ∃ a f q es rs, a0 = some a ∧ len ≤ cap ∧ d = .slice es rs ∧ es.length + rs.length = cap ∧ InpAt W (some a) len f q := by
  obtain ⟨fuel, hf⟩ := h
  rcases open_slice_pairs Try.underlying22 Try.underlying29 cells29 rfl rfl cells26 cells4 hf with ⟨hcs, hx⟩ | ⟨a, len', cap', m, n, V0, V1, D0, D1, P0, P1, hcs, _, hl, _, hm, hx, hcell⟩
  · simp [Value.cells] at hcs
    exact Or.inl hcs
  · simp [Value.cells] at hcs
    obtain ⟨rfl, rfl, rfl⟩ := hcs
    simp only [Prod.mk.injEq] at hx
    obtain ⟨rfl, rfl⟩ := hx
    simp only [if_true] at hm
    subst hm
    have hv : ∀ i, i < m → ∃ x : Nat × Bool, V0 i = .float .f64 x.1 ∧ V1 i = .bool x.2 := by
      intro i hi
      obtain ⟨_, _, h0, h1⟩ := hcell i hi
      obtain ⟨x, hx⟩ := trod_float h0
      obtain ⟨y, hy⟩ := trod_bool h1
      exact ⟨(x, y), by simpa using hx, by simpa using hy⟩
    obtain ⟨g, hg⟩ := choose_lt hv
    refine Or.inr ⟨a, fun i => (g i).1, fun i => (g i).2, _, _, rfl, hl, rfl, by simp; omega, ?_⟩
    by_cases hl0 : len = 0
    · exact Or.inl hl0
    · obtain ⟨b, off, spot⟩ := a
      have hspot : spot = none := by simpa [Addr.add] using World.cell?_spot (hcell 0 (by omega)).1
      subst hspot
      have hbW : b < W.heap.size := hlt (.cell b off) (List.mem_append_left _ (MemPlace.mem_row.2 ⟨0, by omega, by simp⟩))
      refine Or.inr ⟨b, off, rfl, hbW, fun j hj => ?_⟩
      obtain ⟨c0, c1, _, _⟩ := hcell j (by omega)
      rw [add_plain] at c0 c1
      rw [(hg j (by omega)).1] at c0
      rw [(hg j (by omega)).2] at c1
      exact ⟨c0, by rw [Nat.add_assoc]; exact c1⟩
end

end Go.Proofs.Qxb6615186a
