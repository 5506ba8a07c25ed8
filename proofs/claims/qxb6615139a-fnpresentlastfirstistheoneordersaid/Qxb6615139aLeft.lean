import Derived.Test.Qxb6615139aSplit
import Derived.WalkLawsBesides
namespace Go.Proofs.Qxb6615139a
open Go.RowKit

theorem results_cell1 {fn : Func} {p : Tmp} {ty : TypeId} (h : fn.results = #[.cell p ty]) (tmps : Array Value) {P : Program} {w : World} {a : Addr} {v : Value}
    (hp : tmps.getD p undef = .pointer (some a)) (hl : (loadVar ty a).run P w = .ok v w) : (results fn tmps).run P w = .ok v w := by
  simp only [results, h]
  have hp' : tmps[p]?.getD undef = .pointer (some a) := by simpa using hp
  simp [hp', asAddr, hl]

set_option maxRecDepth 100000 in
set_option maxHeartbeats 4000000 in
/-- left, the amounts given. -/
theorem leftW (c : Nat) (fa ra : Option Addr) (nf nr cf cr : Nat) (b1 b2 b3 n E F Q : Int) (w : World) (hcw : c < w.heap.size)
    (h4 : w.cell? ⟨c, 4, none⟩ = some (.slice fa nf cf)) (h5 : w.cell? ⟨c, 5, none⟩ = some (.slice ra nr cr)) (h9 : w.cell? ⟨c, 9, none⟩ = some (.int .i64 b1)) (h10 : w.cell? ⟨c, 10, none⟩ = some (.int .i64 b2)) (h11 : w.cell? ⟨c, 11, none⟩ = some (.int .i64 b3))
    (lf : (nf : Int) ≤ 1048576) (lr : (nr : Int) ≤ 1048576) (x1 : 0 ≤ b1) (x2 : b1 ≤ 1073741824) (x3 : 0 ≤ b2) (x4 : b2 ≤ 1073741824) (x5 : 0 ≤ b3) (x6 : b3 ≤ 1073741824) (n0 : 0 ≤ n) (n1 : n ≤ 1099511627776)
    (hE : (n ≤ nr ∧ E = n ∧ F = 0 ∧ Q = 0) ∨ (nr < n ∧ n ≤ (nr : Int) + nf ∧ E = nr ∧ F = n - nr ∧ Q = 0) ∨ ((nr : Int) + nf < n ∧ E = nr ∧ F = nf ∧ Q = n - nr - nf)) :
    Calls Try.prog 23 #[.pointer (some ⟨c, 0, none⟩), .int .i64 n] w fun e w' => e = .returned (.agg #[.int .i64 (b1 + E), .int .i64 (b2 + F), .int .i64 (b3 + Q)]) ∧ Below w.heap.size w w' := by
  rcases hE with ⟨k1, rfl, rfl, rfl⟩ | ⟨k1, k2, rfl, rfl, rfl⟩ | ⟨k1, rfl, rfl, rfl⟩
  · go_enter Try.func23, Try.ntmps23
    go_wp2
    go_quiet (fail)
    go_wp2
    all_goals
      refine bodyPost_ret (v := .agg #[.int .i64 (b1 + E), .int .i64 (b2 + 0), .int .i64 (b3 + 0)]) ?_ rfl ⟨by simp; try omega, ?_⟩
      · simp [results, Try.results23, go_sem]; try omega
      · exact ((((below_drewN ((Below.refl _ _).alloc (Nat.le_refl _) _) _).setCell (by exact Nat.le_refl _) _).setCell (by exact Nat.le_refl _) _).setCell (by exact Nat.le_refl _) _).alloc (by simp [World.setCell]) _
  · go_enter Try.func23, Try.ntmps23
    go_wp2
    go_quiet (fail)
    go_wp2
    all_goals
      refine bodyPost_ret (v := .agg #[.int .i64 (b1 + nr), .int .i64 (b2 + (n - nr)), .int .i64 (b3 + 0)]) ?_ rfl ⟨by simp; try omega, ?_⟩
      · simp [results, Try.results23, go_sem]; try omega
      · exact ((((below_drewN ((Below.refl _ _).alloc (Nat.le_refl _) _) _).setCell (by exact Nat.le_refl _) _).setCell (by exact Nat.le_refl _) _).setCell (by exact Nat.le_refl _) _).alloc (by simp [World.setCell]) _
  · go_enter Try.func23, Try.ntmps23
    go_wp2
    go_quiet (fail)
    go_wp2
    all_goals
      refine bodyPost_ret (v := .agg #[.int .i64 (b1 + nr), .int .i64 (b2 + nf), .int .i64 (b3 + (n - nr - nf))]) ?_ rfl ⟨by simp; try omega, ?_⟩
      · simp [results, Try.results23, go_sem]; try omega
      · exact ((((below_drewN ((Below.refl _ _).alloc (Nat.le_refl _) _) _).setCell (by exact Nat.le_refl _) _).setCell (by exact Nat.le_refl _) _).setCell (by exact Nat.le_refl _) _).alloc (by simp [World.setCell]) _
end Go.Proofs.Qxb6615139a
