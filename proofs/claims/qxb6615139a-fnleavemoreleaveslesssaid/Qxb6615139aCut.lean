/- The walk of ZZLeave. -/
import Derived.Test.Qxb6615139aHeld
namespace Go.Proofs.Qxb6615139a
open Go.RowKit

theorem make83 (n : Nat) (hn : n ≤ 1048576) (w : World) : (Instr.makeSlice 83 (.int .i64 n) (.int .i64 n)).run Try.prog w = .ok (.slice (some ⟨w.heap.size, 0, none⟩) n n) (w.alloc (.cells (madeCells #[.int .i64 0, .int .i64 0] (n * 2)) 85)) :=
  make_any 83 85 _ 2 16 n Try.underlying83 (by kernel_rfl) (by omega) (by omega) w
def PairsTo (w : World) (g n k : Nat) (x y : Nat → Int) : Prop := ∃ V, Row w g (n * 2) V ∧ ∀ j < k, V (j * 2) = .int .i64 (x j) ∧ V (j * 2 + 1) = .int .i64 (y j)
theorem PairsTo.made (w : World) (n : Nat) (x y : Nat → Int) : PairsTo (w.alloc (.cells (madeCells #[.int .i64 0, .int .i64 0] (n * 2)) 85)) w.heap.size n 0 x y := ⟨_, Row.made w _ _ 85, fun j hj => by omega⟩
theorem PairsTo.put {w : World} {g n k : Nat} {x y : Nat → Int} (h : PairsTo w g n k x y) (hk : k < n) : PairsTo ((w.setCell ⟨g, k * 2, none⟩ (.int .i64 (x k))).setCell ⟨g, k * 2 + 1, none⟩ (.int .i64 (y k))) g n (k + 1) x y := by
  obtain ⟨V, hr, hv⟩ := h
  refine ⟨_, (hr.put (m := k * 2) (by omega) _).put (m := k * 2 + 1) (by omega) _, fun j hj => ?_⟩
  by_cases e : j = k
  · subst e
    rw [if_neg (by omega), if_pos rfl, if_pos rfl]
    exact ⟨rfl, rfl⟩
  · rw [if_neg (by omega), if_neg (by omega), if_neg (by omega), if_neg (by omega)]
    exact hv j (by omega)
theorem PairsTo.below {w w' : World} {g n k B : Nat} {x y : Nat → Int} (h : PairsTo w g n k x y) (hb : Below B w w') (hg : g < B) : PairsTo w' g n k x y := by
  obtain ⟨V, hr, hv⟩ := h
  exact ⟨V, hr.below hb hg, hv⟩
theorem PairsTo.drew {w : World} {g n k : Nat} {x y : Nat → Int} (h : PairsTo w g n k x y) : PairsTo w.drew g n k x y := by
  obtain ⟨V, hr, hv⟩ := h
  exact ⟨V, hr.drew, hv⟩
theorem PairsTo.pairs {w : World} {g n : Nat} {x y : Nat → Int} (h : PairsTo w g n n x y) : PairsAt w (some ⟨g, 0, none⟩) n x y := by
  obtain ⟨V, hr, hv⟩ := h
  exact Or.inr ⟨g, 0, rfl, hr.lt, fun j hj => by rw [Nat.zero_add, hr.val _ (by omega), hr.val _ (by omega), (hv j hj).1, (hv j hj).2]; exact ⟨rfl, rfl⟩⟩
theorem PairsTo.lt {w : World} {g n k : Nat} {x y : Nat → Int} (h : PairsTo w g n k x y) : g < w.heap.size := by
  obtain ⟨V, hr, _⟩ := h
  exact hr.lt
end Go.Proofs.Qxb6615139a
