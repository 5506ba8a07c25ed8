/- The walk of less. -/
import Derived.Test.Qxb6615139aPos
import Derived.Deep.RegionHeld3
import Derived.Deep.CutRange
import Derived.BigQuiet
namespace Go.Proofs.Qxb6615139a
open Go.RowKit
theorem keepB' {B : Nat} {w2 W W' : World} (h : Below B w2 W) (hB : B ≤ w2.heap.size) (hb : Below W.heap.size W W') : Below B w2 W' := h.trans (hb.mono (Nat.le_trans hB h.size))
set_option maxRecDepth 100000 in
set_option maxHeartbeats 16000000 in
theorem lessW (rc oc cb g n cap i j x1 y1 x2 y2 : Nat) (a0 a1 a2 d0 d1 d2 : ByteArray) (w : World) (hi : i < n) (hj : j < n) (hg : g < w.heap.size) (hrc : rc < w.heap.size) (hoc : oc < w.heap.size)
    (c1 : w.cell? ⟨rc, 0, none⟩ = some (.func (.func 28) #[] #[.pointer (some ⟨cb, 0, none⟩)])) (c2 : w.cell? ⟨oc, 0, none⟩ = some (.slice (some ⟨g, 0, none⟩) n cap))
    (e1 : w.cell? ⟨g, i * 2, none⟩ = some (.int .i64 x1)) (e2 : w.cell? ⟨g, i * 2 + 1, none⟩ = some (.int .i64 y1)) (e3 : w.cell? ⟨g, j * 2, none⟩ = some (.int .i64 x2)) (e4 : w.cell? ⟨g, j * 2 + 1, none⟩ = some (.int .i64 y2))
    (k1 : ∀ W, Below w.heap.size w W → Calls Try.prog 28 #[.agg #[.int .i64 x1, .int .i64 y1], .pointer (some ⟨cb, 0, none⟩)] W fun e w' => e = .returned (.agg #[.string a0, .string a1, .string a2]) ∧ Below W.heap.size W w')
    (k2 : ∀ W, Below w.heap.size w W → Calls Try.prog 28 #[.agg #[.int .i64 x2, .int .i64 y2], .pointer (some ⟨cb, 0, none⟩)] W fun e w' => e = .returned (.agg #[.string d0, .string d1, .string d2]) ∧ Below W.heap.size W w') :
    Calls Try.prog 30 #[.int .i64 i, .int .i64 j, .pointer (some ⟨rc, 0, none⟩), .pointer (some ⟨oc, 0, none⟩)] w fun e w' => e = .returned (.bool (lessB a2 a0 d2 d0 x1 x2)) ∧ Below w.heap.size w w' := by
  have hiI : (i : Int) < n := by omega
  have hjI : (j : Int) < n := by omega
  have K1 : Hid _ := k1
  have K2 : Hid _ := k2
  clear k1 k2
  go_enter Try.func30, Try.ntmps30
  go_upto_region 1 with (fail)
  have SK : ∀ W, Below w.heap.size w W → (fun W => Below w.heap.size w W ∧ W.cell? ⟨rc, 0, none⟩ = some (.func (.func 28) #[] #[.pointer (some ⟨cb, 0, none⟩)]) ∧ W.cell? ⟨oc, 0, none⟩ = some (.slice (some ⟨g, 0, none⟩) n cap) ∧ W.cell? ⟨g, i * 2, none⟩ = some (.int .i64 x1) ∧ W.cell? ⟨g, i * 2 + 1, none⟩ = some (.int .i64 y1) ∧ W.cell? ⟨g, j * 2, none⟩ = some (.int .i64 x2) ∧ W.cell? ⟨g, j * 2 + 1, none⟩ = some (.int .i64 y2)) W := fun W hb =>
    ⟨hb, (hb.cell (by exact hrc)).trans c1, (hb.cell (by exact hoc)).trans c2, (hb.cell (by exact hg)).trans e1, (hb.cell (by exact hg)).trans e2, (hb.cell (by exact hg)).trans e3, (hb.cell (by exact hg)).trans e4⟩
  have SB : ∀ W, (fun W => Below w.heap.size w W ∧ W.cell? ⟨rc, 0, none⟩ = some (.func (.func 28) #[] #[.pointer (some ⟨cb, 0, none⟩)]) ∧ W.cell? ⟨oc, 0, none⟩ = some (.slice (some ⟨g, 0, none⟩) n cap) ∧ W.cell? ⟨g, i * 2, none⟩ = some (.int .i64 x1) ∧ W.cell? ⟨g, i * 2 + 1, none⟩ = some (.int .i64 y1) ∧ W.cell? ⟨g, j * 2, none⟩ = some (.int .i64 x2) ∧ W.cell? ⟨g, j * 2 + 1, none⟩ = some (.int .i64 y2)) W → Below w.heap.size w W := fun W h => h.1
  have HSK : Hid _ := SK
  have HSB : Hid _ := SB
  clear SK SB
  go_cut [7, 8] from 9 (fun v u wc => ∃ p q : Nat, v = .pointer (some ⟨p, 0, none⟩) ∧ u = .pointer (some ⟨q, 0, none⟩) ∧ wc.cell? ⟨p, 0, none⟩ = some (.string a0) ∧ wc.cell? ⟨p, 2, none⟩ = some (.string a2) ∧ wc.cell? ⟨q, 0, none⟩ = some (.string d0) ∧ wc.cell? ⟨q, 2, none⟩ = some (.string d2) ∧ Below w.heap.size w wc)
  case rest =>
    clear HSK HSB K1 K2
    obtain ⟨p, q, rfl, rfl, p0, p2, q0, q2, hbc⟩ := hcut
    have HB : Hid (Below w.heap.size w wc) := hbc
    have d2' := (hbc.cell (by exact hoc)).trans c2
    have f1 := (hbc.cell (by exact hg)).trans e1
    have f2 := (hbc.cell (by exact hg)).trans e2
    have f3 := (hbc.cell (by exact hg)).trans e3
    have f4 := (hbc.cell (by exact hg)).trans e4
    clear hbc c1 c2 e1 e2 e3 e4
    by_cases t1 : a2.toList = d2.toList
    · by_cases t2 : a0.toList = d0.toList
      · have hb : Hid (lessB a2 a0 d2 d0 x1 x2 = decide (x2 < x1)) := by show _ = _; simp [lessB, t1, t2]
        go_wp2
        go_quiet (fail)
        go_wp2
        go_ret
        exact ⟨by rw [hb.out]; simp, below_drewN HB.out _⟩
      · have hb : Hid (lessB a2 a0 d2 d0 x1 x2 = !Op.bytesLess a0.toList d0.toList) := by show _ = _; simp [lessB, t1, t2]
        have q2' : (a0.toList == d0.toList) = false := by rw [beq_eq_false_iff_ne]; exact t2
        clear t2
        go_wp2
        go_ret
        exact ⟨by rw [hb.out]; simp, HB.out⟩
    · have hb : Hid (lessB a2 a0 d2 d0 x1 x2 = !Op.bytesLess a2.toList d2.toList) := by show _ = _; simp [lessB, t1]
      have q1' : (a2.toList == d2.toList) = false := by rw [beq_eq_false_iff_ne]; exact t1
      clear t1
      go_wp2
      go_ret
      exact ⟨by rw [hb.out]; simp, HB.out⟩
  case first =>
    go_region_held3 (fun W => Below w.heap.size w W ∧ W.cell? ⟨rc, 0, none⟩ = some (.func (.func 28) #[] #[.pointer (some ⟨cb, 0, none⟩)]) ∧ W.cell? ⟨oc, 0, none⟩ = some (.slice (some ⟨g, 0, none⟩) n cap) ∧ W.cell? ⟨g, i * 2, none⟩ = some (.int .i64 x1) ∧ W.cell? ⟨g, i * 2 + 1, none⟩ = some (.int .i64 y1) ∧ W.cell? ⟨g, j * 2, none⟩ = some (.int .i64 x2) ∧ W.cell? ⟨g, j * 2 + 1, none⟩ = some (.int .i64 y2)) ((refine HSK.out _ ?_; repeat' (first | with_reducible exact hBB | with_reducible exact hBA | with_reducible exact Below.refl _ _ | with_reducible refine Below.drew ?_ | with_reducible refine Below.alloc ?_ ?_ _ | with_reducible refine Below.setCell ?_ ?_ _ | (simp only [World.size_alloc, World.size_setCell]; omega) | omega))) (first
      | (go_at_call 28; with_reducible refine (K1.out _ (HSB.out _ (by assumption))).mono ?_; rintro e wA ⟨rfl, hbA⟩; have hBA := keepB' (HSB.out _ (by assumption)) (Nat.le_refl _) hbA; have zA := hBA.size; (first | with_reducible (have rP := (((Row.here' w [.string { data := #[] }, .string { data := #[] }, .string { data := #[] }] 54).alloc _).drew).below hbA (by first | (simp only [World.size_alloc]; omega) | (simp [World.drew]; done) | (simp [World.drew]; omega)); have rQ := ((Row.here' (w.alloc (.cells #[.string { data := #[] }, .string { data := #[] }, .string { data := #[] }] 54)) [.string { data := #[] }, .string { data := #[] }, .string { data := #[] }] 54).drew).below hbA (by first | (simp only [World.size_alloc]; omega) | (simp [World.drew]; done) | (simp [World.drew]; omega)); have zP : w.heap.size < wA.heap.size := rP.lt; have zQ := rQ.lt) | with_reducible (have rP := ((Row.here' w [.string { data := #[] }, .string { data := #[] }, .string { data := #[] }] 54).drew).below hbA (by first | (simp only [World.size_alloc]; omega) | (simp [World.drew]; done) | (simp [World.drew]; omega)); have zP : w.heap.size < wA.heap.size := rP.lt) | skip); (try rw [World.size_alloc] at rQ zQ))
      | (go_at_call 28; with_reducible refine (K2.out _ (HSB.out _ (by assumption))).mono ?_; rintro e wB ⟨rfl, hbB⟩; have hBB := keepB' (HSB.out _ (by assumption)) (Nat.le_refl _) hbB; have zB := hBB.size; (first | with_reducible (have oP := rP.below hbB rP.lt) | with_reducible (have oP := (rP.alloc _).below hbB (rP.alloc _).lt) | skip); (try with_reducible (have oQ := rQ.below hbB rQ.lt)); (first | with_reducible (have nP := ((Row.here' wA [.string { data := #[] }, .string { data := #[] }, .string { data := #[] }] 54).alloc _).below hbB (by first | (simp only [World.size_alloc]; omega) | (simp [World.drew]; done) | (simp [World.drew]; omega)); have nQ := (Row.here' (wA.alloc (.cells #[.string { data := #[] }, .string { data := #[] }, .string { data := #[] }] 54)) [.string { data := #[] }, .string { data := #[] }, .string { data := #[] }] 54).below hbB (by first | (simp only [World.size_alloc]; omega) | (simp [World.drew]; done) | (simp [World.drew]; omega)); have vP : wA.heap.size < wB.heap.size := nP.lt; have vQ := nQ.lt) | with_reducible (have nP := (Row.here' wA [.string { data := #[] }, .string { data := #[] }, .string { data := #[] }] 54).below hbB (by first | (simp only [World.size_alloc]; omega) | (simp [World.drew]; done) | (simp [World.drew]; omega)); have vP : wA.heap.size < wB.heap.size := nP.lt) | skip); (try rw [World.size_alloc] at nQ vQ); have zAB : wA.heap.size ≤ wB.heap.size := Nat.le_trans (by first | exact Nat.le_refl _ | (simp only [World.size_alloc]; omega)) hbB.size; (try (have pa0 := oP.val 0 (by simp); have pa1 := oP.val 1 (by simp); have pa2 := oP.val 2 (by simp); have pa3 := oP.open_ 0; have pa4 := oP.open_ 1; have pa5 := oP.open_ 2; have pa6 := fun o => (oP.alloc o).val 0 (by simp); have pa7 := fun o => (oP.alloc o).val 1 (by simp); have pa8 := fun o => (oP.alloc o).val 2 (by simp); have pa9 := fun o => (oP.alloc o).open_ 0; have pax := fun o => (oP.alloc o).open_ 1; have pay := fun o => (oP.alloc o).open_ 2; simp only [List.getD_cons_zero, List.getD_cons_succ] at pa0 pa1 pa2 pa6 pa7 pa8)); (try (have pb0 := oQ.val 0 (by simp); have pb1 := oQ.val 1 (by simp); have pb2 := oQ.val 2 (by simp); have pb3 := oQ.open_ 0; have pb4 := oQ.open_ 1; have pb5 := oQ.open_ 2; have pb6 := fun o => (oQ.alloc o).val 0 (by simp); have pb7 := fun o => (oQ.alloc o).val 1 (by simp); have pb8 := fun o => (oQ.alloc o).val 2 (by simp); have pb9 := fun o => (oQ.alloc o).open_ 0; have pbx := fun o => (oQ.alloc o).open_ 1; have pby := fun o => (oQ.alloc o).open_ 2; simp only [List.getD_cons_zero, List.getD_cons_succ] at pb0 pb1 pb2 pb6 pb7 pb8)); (try (have pc0 := nP.val 0 (by simp); have pc1 := nP.val 1 (by simp); have pc2 := nP.val 2 (by simp); have pc3 := nP.open_ 0; have pc4 := nP.open_ 1; have pc5 := nP.open_ 2; have pc6 := fun o => (nP.alloc o).val 0 (by simp); have pc7 := fun o => (nP.alloc o).val 1 (by simp); have pc8 := fun o => (nP.alloc o).val 2 (by simp); have pc9 := fun o => (nP.alloc o).open_ 0; have pcx := fun o => (nP.alloc o).open_ 1; have pcy := fun o => (nP.alloc o).open_ 2; simp only [List.getD_cons_zero, List.getD_cons_succ] at pc0 pc1 pc2 pc6 pc7 pc8)); (try (have pd0 := nQ.val 0 (by simp); have pd1 := nQ.val 1 (by simp); have pd2 := nQ.val 2 (by simp); have pd3 := nQ.open_ 0; have pd4 := nQ.open_ 1; have pd5 := nQ.open_ 2; have pd6 := fun o => (nQ.alloc o).val 0 (by simp); have pd7 := fun o => (nQ.alloc o).val 1 (by simp); have pd8 := fun o => (nQ.alloc o).val 2 (by simp); have pd9 := fun o => (nQ.alloc o).open_ 0; have pdx := fun o => (nQ.alloc o).open_ 1; have pdy := fun o => (nQ.alloc o).open_ 2; simp only [List.getD_cons_zero, List.getD_cons_succ] at pd0 pd1 pd2 pd6 pd7 pd8)))
      | fail)
    all_goals go_wp2
    all_goals go_meet
    all_goals refine ⟨_, _, rfl, rfl, ?_, ?_, ?_, ?_, ?_⟩
    all_goals first
      | ((repeat' (first | with_reducible exact hBB | with_reducible exact hBA | with_reducible exact Below.refl _ _ | with_reducible refine Below.drew ?_ | with_reducible refine Below.alloc ?_ ?_ _ | with_reducible refine Below.setCell ?_ ?_ _ | (simp only [World.size_alloc, World.size_setCell]; omega) | omega)); done)
      | (go_simp; done)

/-- less, bound as presentLastFirst binds it, answers in every order of the row. -/
theorem lessOk (w0 : World) (g cap rc oc cb gs ns : Nat) (S : Nat → Scn) (PB : Nat → Nat) (h : Bound w0 g cap rc oc cb gs ns S PB) : LessOk (sortK w0 g cap rc oc S ns) := by
  intro s w hat i j hi hj
  have hkp : Kp g w0 w := hat.kp
  have sz := hkp.size
  have lift : ∀ b o v, b < w0.heap.size → b ≠ g → w0.cell? ⟨b, o, none⟩ = some v → w.cell? ⟨b, o, none⟩ = some v := fun b o v h1 h2 hc => (hkp.cell (by exact h1) (by exact h2)).trans hc
  have refs : ∀ p, p < sumPl S ns → ∀ W, Below w.heap.size w W → Calls Try.prog 28 #[.agg #[.int .i64 (posX S ns (s p) : Int), .int .i64 (posY S ns (s p) : Int)], .pointer (some ⟨cb, 0, none⟩)] W fun e w' =>
      e = .returned (.agg #[.string ((S (posX S ns (s p))).ref (posY S ns (s p)) 0), .string ((S (posX S ns (s p))).ref (posY S ns (s p)) 1), .string ((S (posX S ns (s p))).ref (posY S ns (s p)) 2)]) ∧ Below W.heap.size W w' := by
    intro p hp W hb
    obtain ⟨hx, hy⟩ := pos_in S ns (hat.rng p hp)
    generalize posX S ns (s p) = x at hx hy ⊢
    generalize posY S ns (s p) = y at hy ⊢
    obtain ⟨⟨V, hr, hv⟩, h2⟩ := h.sc
    obtain ⟨_, hpl, V2, hr2, hv2⟩ := h2 x hx
    have up : ∀ b o v, b < w0.heap.size → b ≠ g → w0.cell? ⟨b, o, none⟩ = some v → W.cell? ⟨b, o, none⟩ = some v := fun b o v h1 h3 hc => (hb.cell (by exact Nat.lt_of_lt_of_le h1 sz)).trans (lift b o v h1 h3 hc)
    have big : ∀ b, b < w0.heap.size → b < W.heap.size := fun b h1 => Nat.lt_of_lt_of_le (Nat.lt_of_lt_of_le h1 sz) hb.size
    have one : ∀ k, k < 3 → w0.cell? ⟨PB x, y * 3 + k, none⟩ = some ((refL (S x).ref y).getD k (.bool false)) := fun k hk => by
      rw [hr2.val _ (by omega), hv2 y hy k hk]
    exact refW cb gs ns (PB x) x y (S x).pl (S x).pl _ _ _ W hx hy (big _ h.lc) (big _ hr.lt) (big _ hpl) (up _ _ _ h.lc h.nc h.c6) (up _ _ _ hr.lt h.ng (by rw [hr.val _ (by omega), (hv x hx).2.2]))
      (up _ _ _ hpl (h.np x hx) (one 0 (by omega))) (up _ _ _ hpl (h.np x hx) (one 1 (by omega))) (up _ _ _ hpl (h.np x hx) (one 2 (by omega)))
  obtain ⟨e1, e2⟩ := hat.row.cells hi
  obtain ⟨e3, e4⟩ := hat.row.cells hj
  refine (lessW rc oc cb g (sumPl S ns) cap i j (posX S ns (s i)) (posY S ns (s i)) (posX S ns (s j)) (posY S ns (s j)) _ _ _ _ _ _ w hi hj hat.row.lt (Nat.lt_of_lt_of_le h.lr sz) (Nat.lt_of_lt_of_le h.lo sz)
    (lift _ _ _ h.lr h.nr h.c1) (lift _ _ _ h.lo h.no h.c2) e1 e2 e3 e4 (refs i hi) (refs j hj)).mono ?_
  rintro e w' ⟨rfl, hb⟩
  exact ⟨rfl, Kp.of_below hb, hkp.trans (Kp.of_below hb), hat.row.below hb, hat.rng⟩
end Go.Proofs.Qxb6615139a
