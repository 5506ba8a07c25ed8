/- The walks of splitAts and left. -/
import Derived.Test.Qxb6615139aSets
namespace Go.Proofs.Qxb6615139a
open Go.RowKit

theorem make25 (n : Nat) (hn : n ≤ 1048576) (w : World) : (Instr.makeSlice 25 (.int .i64 n) (.int .i64 n)).run Try.prog w = .ok (.slice (some ⟨w.heap.size, 0, none⟩) n n) (w.alloc (.cells (madeCells #[.int .i64 0] n) 3)) := by
  have := make_any 25 3 #[.int .i64 0] 1 8 n Try.underlying25 (by kernel_rfl) (by omega) (by omega) w
  rwa [Nat.mul_one] at this

/-- The first k cells of the row are the numbers x. -/
def IntsTo (w : World) (g n k : Nat) (x : Nat → Int) : Prop := ∃ V, Row w g n V ∧ ∀ j < k, V j = .int .i64 (x j)
theorem IntsTo.made (w : World) (n : Nat) (x : Nat → Int) : IntsTo (w.alloc (.cells (madeCells #[.int .i64 0] n) 3)) w.heap.size n 0 x := ⟨_, Row.made w _ n 3, fun j hj => by omega⟩
theorem IntsTo.put {w : World} {g n k : Nat} {x : Nat → Int} (h : IntsTo w g n k x) (hk : k < n) : IntsTo (w.setCell ⟨g, k, none⟩ (.int .i64 (x k))) g n (k + 1) x := by
  obtain ⟨V, hr, hv⟩ := h
  refine ⟨_, hr.put hk _, fun j hj => ?_⟩
  by_cases e : j = k
  · subst e; simp
  · simp only [e, if_false]; exact hv j (by omega)
theorem IntsTo.far {w : World} {g n k : Nat} {x : Nat → Int} (h : IntsTo w g n k x) {a : Addr} (ha : a.block ≠ g) (v : Value) : IntsTo (w.setCell a v) g n k x := by
  obtain ⟨V, hr, hv⟩ := h
  exact ⟨V, hr.far ha v, hv⟩
theorem IntsTo.alloc {w : World} {g n k : Nat} {x : Nat → Int} (h : IntsTo w g n k x) (o : Obj) : IntsTo (w.alloc o) g n k x := by
  obtain ⟨V, hr, hv⟩ := h
  exact ⟨V, hr.alloc o, hv⟩
theorem IntsTo.cells {w : World} {g n : Nat} {x : Nat → Int} (h : IntsTo w g n n x) : CellsAt w (some ⟨g, 0, none⟩) n (fun j => .int .i64 (x j)) := by
  obtain ⟨V, hr, hv⟩ := h
  exact Or.inr ⟨g, 0, rfl, hr.lt, fun j hj => by rw [Nat.zero_add, hr.val j hj, hv j hj]⟩

set_option maxRecDepth 100000 in
set_option maxHeartbeats 2000000 in
theorem splitW (po : Option Addr) (n cap : Nat) (of ix : Nat → Int) (w : World) (hp : PairsAt w po n of ix) (hn : n ≤ 1048576) :
    Calls Try.prog 10 #[.slice po n cap] w fun e w' => e = .returned (.tuple #[.slice (some ⟨w.heap.size, 0, none⟩) n n, .slice (some ⟨w.heap.size + 1, 0, none⟩) n n]) ∧
      CellsAt w' (some ⟨w.heap.size, 0, none⟩) n (fun j => .int .i64 (of j)) ∧ CellsAt w' (some ⟨w.heap.size + 1, 0, none⟩) n (fun j => .int .i64 (ix j)) ∧ Below w.heap.size w w' := by
  have HP : Hid (PairsAt w po n of ix) := hp
  clear hp
  have hmk := make25 n hn
  go_enter Try.func10, Try.ntmps10
  go_wp2
  clear hmk
  go_loopw [6] (fun i wr => ∃ k : Nat, k ≤ n ∧ i = .int .i64 k ∧ IntsTo wr w.heap.size n k of ∧ IntsTo wr (w.heap.size + 1) n k ix ∧ Below w.heap.size w wr) (fun i _ => n - (intOf i).toNat)
  case atStart =>
    refine ⟨0, by omega, rfl, (IntsTo.made w n of).alloc _, ?_, ((Below.refl _ _).alloc (Nat.le_refl _) _).alloc (by simp) _⟩
    have := IntsTo.made (w.alloc (.cells (madeCells #[.int .i64 0] n) 3)) n ix
    simpa using this
  case round =>
    obtain ⟨k, hk, rfl, h1, h2, hb⟩ := hrel
    have H1 : Hid (IntsTo wr w.heap.size n k of) := h1
    have H2 : Hid (IntsTo wr (w.heap.size + 1) n k ix) := h2
    have HB : Hid (Below w.heap.size w wr) := hb
    clear h1 h2 hb
    by_cases hlt : k < n
    · have hlti : (k : Int) < n := by omega
      obtain ⟨b, off, ha, hbw, hc⟩ := pair_at HP.out (by omega)
      subst ha
      have p0 := (HB.out.cell (by exact hbw)).trans (hc k hlt).1
      have p1 := (HB.out.cell (by exact hbw)).trans (hc k hlt).2
      obtain ⟨V1, r1, _⟩ := H1.out
      obtain ⟨V2, r2, _⟩ := H2.out
      have v1 := r1.val k hlt
      have v2 := r2.val k hlt
      have z1 := r1.open_ k
      have z2 := r2.open_ k
      have hne : b ≠ w.heap.size := by omega
      have hne' : w.heap.size ≠ b := by omega
      have HN1 : Hid (IntsTo ((wr.setCell ⟨w.heap.size, k, none⟩ (.int .i64 (of k))).setCell ⟨w.heap.size + 1, k, none⟩ (.int .i64 (ix k))) w.heap.size n (k + 1) of) := (H1.out.put hlt).far (by show w.heap.size + 1 ≠ w.heap.size; omega) _
      have HN2 : Hid (IntsTo ((wr.setCell ⟨w.heap.size, k, none⟩ (.int .i64 (of k))).setCell ⟨w.heap.size + 1, k, none⟩ (.int .i64 (ix k))) (w.heap.size + 1) n (k + 1) ix) := (H2.out.far (by show w.heap.size ≠ w.heap.size + 1; omega) _).put hlt
      clear hc r1 r2
      go_wp2
      go_roundw
      case rel => exact ⟨k + 1, by omega, by go_num, HN1.out, HN2.out, (HB.out.setCell (by exact Nat.le_refl _) _).setCell (by exact Nat.le_succ _) _⟩
      case measure => simp [intOf]; omega
    · have hkn : ¬ (k : Int) < n := by omega
      have hn' : n = k := by omega
      subst hn'
      go_wp2
      go_ret2
      exact ⟨rfl, H1.out.cells, H2.out.cells, HB.out⟩

end Go.Proofs.Qxb6615139a
