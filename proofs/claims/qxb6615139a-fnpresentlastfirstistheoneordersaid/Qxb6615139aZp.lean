/- The walks of zzBytes (the other law's) and of ref. -/
import Derived.Test.Qxb6615139aBuild
import Derived.Test.Qxb6615139aSets
namespace Go.Proofs.Qxb6615139a
open Go.RowKit

def ZzAns1 (ns : Nat) (S : Nat → Scn) (e : Ending) : Prop := ∃ β, e = .returned (.bool β) ∧ (β = true → ns ≤ 1048576 ∧ (∀ j < ns, (S j).pl ≤ 1048576) ∧ sumPl S ns ≤ 1048576)

set_option maxRecDepth 100000 in
set_option maxHeartbeats 8000000 in
theorem zzPresent (so : Option Addr) (ns cs : Nat) (S : Nat → Scn) (w : World) (hs : ScenesAt w so ns S) (l3 : ns ≤ 140737488355328) :
    Calls Try.prog 13 #[.slice so ns cs] w fun e w' => ZzAns1 ns S e ∧ w = w' := by
  have HS : Hid (ScenesAt w so ns S) := hs
  have L3 : (ns : Int) ≤ 140737488355328 := by omega
  clear hs l3
  by_cases h3 : (ns : Int) ≤ 1048576
  · go_enter Try.func13, Try.ntmps13
    go_wp2
    go_loop [3, 4] (fun z i => ∃ j : Nat, j ≤ ns ∧ i = .int .i64 j ∧ (∃ v : Int, z = .int .i64 v ∧ (sumPl S j : Int) ≤ v ∧ v ≤ 1048576) ∧ ∀ t < j, (S t).pl ≤ 1048576) (fun _ i => ns - (intOf i).toNat)
    case atStart => exact ⟨0, by omega, rfl, ⟨_, rfl, by simp only [sumPl]; omega, by omega⟩, by omega⟩
    case round =>
      obtain ⟨j, hj, rfl, ⟨v, rfl, v0', v1⟩, hpl⟩ := hrel
      have v0 : 0 ≤ v := by omega
      have HPL : Hid (∀ t < j, (S t).pl ≤ 1048576) := hpl
      clear hpl
      by_cases hlt2 : j < ns
      · have hlti : (j : Int) < ns := by omega
        obtain ⟨b, off, ha, hbw, hc⟩ := scene_at HS.out (by omega)
        subst ha
        obtain ⟨s0, s1, s2⟩ := hc j hlt2
        have HR : Hid (RefsAt w (S j).pa (S j).pl (S j).ref) := HS.out.2 j hlt2
        clear hc hbw
        go_wp2
        all_goals (try (go_ret; exact ⟨⟨false, rfl, fun h => by cases h⟩, rfl⟩))
        have hp : ((S j).pl : Int) ≤ 1048576 := by omega
        go_loop [3, 5] (fun z i => ∃ q : Nat, q ≤ (S j).pl ∧ i = .int .i64 q ∧ ∃ v : Int, z = .int .i64 v ∧ (sumPl S j : Int) + (S j).pl ≤ v ∧ v ≤ 1048576) (fun _ i => (S j).pl - (intOf i).toNat)
        case atStart => exact ⟨0, by omega, rfl, _, rfl, by omega, by omega⟩
        case round =>
          clear v0 v0' v1
          obtain ⟨q, hq, rfl, v, rfl, v0', v1⟩ := hrel
          have v0 : 0 ≤ v := by omega
          by_cases hlt4 : q < (S j).pl
          · have hltq : (q : Int) < (S j).pl := by omega
            obtain ⟨b2, off2, ha2, hbw2, hc2⟩ := ref_at HR.out (by omega)
            rw [ha2] at s2
            obtain ⟨r0, r1, r2⟩ := hc2 q hlt4
            clear hc2 hbw2 ha2
            go_wp2
            all_goals (try (go_ret; exact ⟨⟨false, rfl, fun h => by cases h⟩, rfl⟩))
            go_round
            case rel => exact ⟨q + 1, by omega, by go_num, _, rfl, by omega, by omega⟩
            case measure => simp [intOf]; omega
          · have hkq : ¬ (q : Int) < (S j).pl := by omega
            go_wp2
            go_round
            case rel => exact ⟨j + 1, by omega, by go_num, ⟨_, rfl, by simp only [sumPl]; omega, by omega⟩, fun t ht => by
              by_cases e : t = j
              · subst e; omega
              · exact HPL.out t (by omega)⟩
            case measure => simp [intOf]; omega
      · have hkj : ¬ (j : Int) < ns := by omega
        have hjn : j = ns := by omega
        go_wp2
        go_ret
        exact ⟨⟨true, rfl, fun _ => ⟨by omega, fun t ht => HPL.out t (by omega), by rw [← hjn]; omega⟩⟩, rfl⟩
  · go_enter Try.func13, Try.ntmps13
    go_wp2
    go_ret
    exact ⟨⟨false, rfl, fun h => by cases h⟩, rfl⟩

set_option maxRecDepth 100000 in
set_option maxHeartbeats 4000000 in
/-- ref: the entity present at a place. -/
theorem refW (cb gs ns p x y pl pc : Nat) (a0 a1 a2 : ByteArray) (w : World) (hx : x < ns) (hy : y < pl) (hcb : cb < w.heap.size) (hgs : gs < w.heap.size) (hp : p < w.heap.size)
    (h6 : w.cell? ⟨cb, 6, none⟩ = some (.slice (some ⟨gs, 0, none⟩) ns ns)) (hc : w.cell? ⟨gs, x * 3 + 2, none⟩ = some (.slice (some ⟨p, 0, none⟩) pl pc))
    (h0 : w.cell? ⟨p, y * 3, none⟩ = some (.string a0)) (h1 : w.cell? ⟨p, y * 3 + 1, none⟩ = some (.string a1)) (h2 : w.cell? ⟨p, y * 3 + 2, none⟩ = some (.string a2)) :
    Calls Try.prog 28 #[.agg #[.int .i64 x, .int .i64 y], .pointer (some ⟨cb, 0, none⟩)] w fun e w' => e = .returned (.agg #[.string a0, .string a1, .string a2]) ∧ Below w.heap.size w w' := by
  have hxI : (x : Int) < ns := by omega
  have hyI : (y : Int) < pl := by omega
  go_enter Try.func28, Try.ntmps28
  go_wp2
  go_region
  go_wp2
  refine bodyPost_ret (v := .agg #[.string a0, .string a1, .string a2]) ?_ rfl ⟨rfl, ?_⟩
  · simp [results, Try.results28, go_sem]
  · exact (((Below.refl _ _).alloc (Nat.le_refl _) _).alloc (by simp) _).drew

/-- What leavesBefore answers. -/
def befB (n1 i1 n2 i2 : ByteArray) (x1 y1 x2 y2 : Nat) : Bool :=
  if n1.toList = n2.toList then (if i1.toList = i2.toList then (if x1 = x2 then decide (y1 < y2) else decide (x2 < x1)) else !Op.bytesLess i1.toList i2.toList) else !Op.bytesLess n1.toList n2.toList

set_option maxRecDepth 100000 in
set_option maxHeartbeats 4000000 in
theorem leavesBeforeW (so : Option Addr) (ns cs : Nat) (S : Nat → Scn) (w : World) (hs : ScenesAt w so ns S) (x1 y1 x2 y2 : Nat) (h1 : x1 < ns) (h2 : x2 < ns) (k1 : y1 < (S x1).pl) (k2 : y2 < (S x2).pl) :
    Calls Try.prog 17 #[.slice so ns cs, .int .i64 x1, .int .i64 y1, .int .i64 x2, .int .i64 y2] w fun e w' =>
      e = .returned (.bool (befB ((S x1).ref y1 2) ((S x1).ref y1 0) ((S x2).ref y2 2) ((S x2).ref y2 0) x1 y1 x2 y2)) ∧ Below w.heap.size w w' := by
  obtain ⟨b, off, ha, hbw, hc⟩ := scene_at hs (by omega)
  subst ha
  obtain ⟨-, -, s1⟩ := hc x1 h1
  obtain ⟨-, -, s2⟩ := hc x2 h2
  obtain ⟨b1, off1, ha1, hbw1, hc1⟩ := ref_at (hs.2 x1 h1) (by omega)
  obtain ⟨b2, off2, ha2, hbw2, hc2⟩ := ref_at (hs.2 x2 h2) (by omega)
  rw [ha1] at s1
  rw [ha2] at s2
  obtain ⟨r0, r1, r2⟩ := hc1 y1 k1
  obtain ⟨t0, t1, t2⟩ := hc2 y2 k2
  have i1 : (x1 : Int) < ns := by omega
  have i2 : (x2 : Int) < ns := by omega
  have j1 : (y1 : Int) < (S x1).pl := by omega
  have j2 : (y2 : Int) < (S x2).pl := by omega
  clear hs hc hc1 hc2 ha1 ha2
  generalize (S x1).ref y1 2 = n1 at r2 ⊢
  generalize (S x1).ref y1 0 = d1 at r0 ⊢
  generalize (S x1).ref y1 1 = u1 at r1
  generalize (S x2).ref y2 2 = n2 at t2 ⊢
  generalize (S x2).ref y2 0 = d2 at t0 ⊢
  generalize (S x2).ref y2 1 = u2 at t1
  have HB : Hid (∀ o o', Below w.heap.size w ((w.alloc o).alloc o')) := fun o o' => ((Below.refl _ _).alloc (Nat.le_refl _) _).alloc (by simp) _
  by_cases e1 : n1.toList = n2.toList
  · by_cases e2 : d1.toList = d2.toList
    · by_cases e3 : x1 = x2
      · have hb : befB n1 d1 n2 d2 x1 y1 x2 y2 = decide (y1 < y2) := by simp [befB, e1, e2, e3]
        rw [hb]
        clear hb
        have q3 : ((x1 : Int) != x2) = false := by rw [bne_eq_false_iff_eq]; omega
        clear e3
        go_enter Try.func17, Try.ntmps17
        go_wp2
        go_ret
        exact ⟨by simp, HB.out _ _⟩
      · have hb : befB n1 d1 n2 d2 x1 y1 x2 y2 = decide (x2 < x1) := by simp [befB, e1, e2, e3]
        rw [hb]
        clear hb
        have q3 : ((x1 : Int) != x2) = true := by rw [bne_iff_ne]; omega
        clear e3
        go_enter Try.func17, Try.ntmps17
        go_wp2
        go_ret
        exact ⟨by simp, HB.out _ _⟩
    · have hb : befB n1 d1 n2 d2 x1 y1 x2 y2 = !Op.bytesLess d1.toList d2.toList := by simp [befB, e1, e2]
      rw [hb]
      clear hb
      have q2 : (d1.toList == d2.toList) = false := by rw [beq_eq_false_iff_ne]; exact e2
      clear e2
      go_enter Try.func17, Try.ntmps17
      go_wp2
      go_ret
      exact ⟨by simp, HB.out _ _⟩
  · have hb : befB n1 d1 n2 d2 x1 y1 x2 y2 = !Op.bytesLess n1.toList n2.toList := by simp [befB, e1]
    rw [hb]
    clear hb
    have q1 : (n1.toList == n2.toList) = false := by rw [beq_eq_false_iff_ne]; exact e1
    clear e1
    go_enter Try.func17, Try.ntmps17
    go_wp2
    go_ret
    exact ⟨by simp, HB.out _ _⟩
end Go.Proofs.Qxb6615139a
