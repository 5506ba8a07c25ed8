/- The walks of cmp.Compare, cmp.Or, position.compare, ZZcomparePos. -/
import Derived.Test.Qxb6616641aRows
import Derived.Test.Qxb6616641aPlain
import Derived.WalkKit
import Derived.WalkSpells
import Derived.ProofKit
import Derived.Deep.RegionHeld3
import Derived.RowKit3
namespace Go.Proofs.Qxb6616641a
open Go.RowKit PlainPos

theorem grown_trans {a b c : World} (h : Grown a b) (k : Grown b c) : Grown a c :=
  ⟨World.keptBut_trans h.1 k.1, fun x => (k.2.1 x).trans (h.2.1 x), Nat.le_trans h.2.2 k.2.2⟩

set_option maxHeartbeats 400000 in
theorem compareSide (a b : Int) (w : World) :
    Calls Try.prog 38 #[.int .u8 a, .int .u8 b] w fun e w' => e = .returned (.int .i64 (cmpI a b)) ∧ w' = w := by
  rcases cmpI_cases a b with ⟨h, e⟩ | ⟨h, e⟩ | ⟨h, e⟩ <;> rw [e] <;> clear e
  · go_enter Try.func38, Try.ntmps38
    go_wp2
    go_ret
    exact ⟨rfl, rfl⟩
  · subst h
    go_enter Try.func38, Try.ntmps38
    go_wp2
    go_ret
    exact ⟨rfl, rfl⟩
  · go_enter Try.func38, Try.ntmps38
    go_wp2
    go_ret
    exact ⟨rfl, rfl⟩

set_option maxHeartbeats 400000 in
theorem compareI64 (a b : Int) (w : World) :
    Calls Try.prog 39 #[.int .i64 a, .int .i64 b] w fun e w' => e = .returned (.int .i64 (cmpI a b)) ∧ w' = w := by
  rcases cmpI_cases a b with ⟨h, e⟩ | ⟨h, e⟩ | ⟨h, e⟩ <;> rw [e] <;> clear e
  · go_enter Try.func39, Try.ntmps39
    go_wp2
    go_ret
    exact ⟨rfl, rfl⟩
  · subst h
    go_enter Try.func39, Try.ntmps39
    go_wp2
    go_ret
    exact ⟨rfl, rfl⟩
  · go_enter Try.func39, Try.ntmps39
    go_wp2
    go_ret
    exact ⟨rfl, rfl⟩


set_option maxHeartbeats 400000 in
theorem orInt (b : Nat) (x y z : Int) (w : World)
    (h0 : w.cell? ⟨b, 0, none⟩ = some (.int .i64 x)) (h1 : w.cell? ⟨b, 1, none⟩ = some (.int .i64 y)) (h2 : w.cell? ⟨b, 2, none⟩ = some (.int .i64 z)) :
    Calls Try.prog 37 #[.slice (some ⟨b, 0, none⟩) 3 3] w fun e w' => e = .returned (.int .i64 (or3 x y z)) ∧ w' = w := by
  have H : Hid (or3 x y z = if x = 0 then (if y = 0 then z else y) else x) := rfl
  go_enter Try.func37, Try.ntmps37
  go_wp2
  go_loop [5, 8] (fun _ i => ∃ k : Nat, k ≤ 3 ∧ i = .int .i64 k ∧ (1 ≤ k → x = 0) ∧ (2 ≤ k → y = 0) ∧ (3 ≤ k → z = 0)) (fun _ i => 3 - (intOf i).toNat)
  case atStart => exact ⟨0, by omega, rfl, by omega, by omega, by omega⟩
  case round =>
    obtain ⟨k, hk, rfl, hx, hy, hz⟩ := hrel
    match k, hk with
    | 0, _ =>
      clear hx hy hz
      by_cases g : x = 0
      · have g' : (x != 0) = false := by simp [g]
        have G : Hid (x = 0) := g
        clear g
        go_wp2
        go_round
        case rel => exact ⟨1, by omega, rfl, fun _ => G.out, by omega, by omega⟩
        case measure => simp [intOf]
      · have g' : (x != 0) = true := by simp [g]
        have e : or3 x y z = x := by rw [H.out, if_neg g]
        have E : Hid (or3 x y z = x) := e
        clear e g
        go_wp2
        go_ret
        exact ⟨by rw [E.out]; rfl, rfl⟩
    | 1, _ =>
      have G1 : Hid (x = 0) := hx (by omega)
      clear hx hy hz
      by_cases g : y = 0
      · have g' : (y != 0) = false := by simp [g]
        have G : Hid (y = 0) := g
        clear g
        go_wp2
        go_round
        case rel => exact ⟨2, by omega, rfl, fun _ => G1.out, fun _ => G.out, by omega⟩
        case measure => simp [intOf]
      · have g' : (y != 0) = true := by simp [g]
        have e : or3 x y z = y := by rw [H.out, if_pos G1.out, if_neg g]
        have E : Hid (or3 x y z = y) := e
        clear e g
        go_wp2
        go_ret
        exact ⟨by rw [E.out]; rfl, rfl⟩
    | 2, _ =>
      have G1 : Hid (x = 0) := hx (by omega)
      have G2 : Hid (y = 0) := hy (by omega)
      clear hx hy hz
      by_cases g : z = 0
      · have g' : (z != 0) = false := by simp [g]
        have G : Hid (z = 0) := g
        clear g
        go_wp2
        go_round
        case rel => exact ⟨3, by omega, rfl, fun _ => G1.out, fun _ => G2.out, fun _ => G.out⟩
        case measure => simp [intOf]
      · have g' : (z != 0) = true := by simp [g]
        have e : or3 x y z = z := by rw [H.out, if_pos G1.out, if_pos G2.out]
        have E : Hid (or3 x y z = z) := e
        clear e g
        go_wp2
        go_ret
        exact ⟨by rw [E.out]; rfl, rfl⟩
    | 3, _ =>
      have e : or3 x y z = 0 := by rw [H.out, if_pos (hx (by omega)), if_pos (hy (by omega)), hz (by omega)]
      have E : Hid (or3 x y z = 0) := e
      clear hx hy hz e
      go_wp2
      go_ret
      exact ⟨by rw [E.out]; rfl, rfl⟩
    | k + 4, h => omega

set_option maxHeartbeats 1000000 in
theorem compareM (s k t s' k' t' : Int) (w : World) :
    Calls Try.prog 29 #[.agg #[.int .u8 s, .int .i64 k, .int .i64 t], .agg #[.int .u8 s', .int .i64 k', .int .i64 t']] w fun e w' => e = .returned (.int .i64 (cmpP s k t s' k' t')) ∧ Grown w w' := by
  go_enter Try.func29, Try.ntmps29
  go_wp2
  go_region_held3 (fun W => W.cell? ⟨w.heap.size, 0, none⟩ = some (.int .u8 s) ∧ W.cell? ⟨w.heap.size, 1, none⟩ = some (.int .i64 k) ∧ W.cell? ⟨w.heap.size, 2, none⟩ = some (.int .i64 t) ∧
      W.cell? ⟨w.heap.size + 1, 0, none⟩ = some (.int .u8 s') ∧ W.cell? ⟨w.heap.size + 1, 1, none⟩ = some (.int .i64 k') ∧ W.cell? ⟨w.heap.size + 1, 2, none⟩ = some (.int .i64 t')) (go_keep)
    (first
      | (go_at_call 38; refine (compareSide _ _ _).mono ?_; rintro e w' ⟨rfl, rfl⟩)
      | (go_at_call 39; refine (compareI64 _ _ _).mono ?_; rintro e w' ⟨rfl, rfl⟩)
      | (go_at_call 37; refine (orInt _ (cmpI s s') (cmpI k k') (cmpI t t') _ (by simp [go_sem]) (by simp [go_sem]) (by simp [go_sem])).mono ?_; rintro e w' ⟨rfl, rfl⟩))
  go_wp2
  go_ret
  exact ⟨rfl, ((((Grown.refl w).alloc _ _).alloc _ _).alloc _ _).drew⟩

set_option maxHeartbeats 400000 in
theorem comparePos (s k t s' k' t' : Int) (w : World) :
    Calls Try.prog 10 #[.int .u8 s, .int .i64 k, .int .i64 t, .int .u8 s', .int .i64 k', .int .i64 t'] w fun e w' => e = .returned (.int .i64 (cmpP s k t s' k' t')) ∧ Grown w w' := by
  go_enter Try.func10, Try.ntmps10
  go_wp2_with (go_at_call 29; refine (compareM _ _ _ _ _ _ _).mono ?_; rintro e w' ⟨rfl, hg⟩)
  go_ret
  exact ⟨rfl, hg⟩

end Go.Proofs.Qxb6616641a
