/- FnPresentLastFirstIsTheOneOrder: the walk of the law. -/
import Derived.Test.Qxb6615139aZzPres
import Derived.Test.Qxb6615139aPremDef
import Derived.Deep.RegionHeld3
import Derived.BigQuiet
namespace Go.Proofs.Qxb6615139a
open Go.RowKit

theorem cell_one {w : World} {g n k : Nat} {V : Nat → Value} (h : CellsAt w (some ⟨g, 0, none⟩) n V) (hk : k < n) : g < w.heap.size ∧ w.cell? ⟨g, k, none⟩ = some (V k) := by
  rcases h with h | ⟨b, off, ha, hb, hc⟩
  · omega
  · cases ha
    exact ⟨hb, by rw [← hc k hk, Nat.zero_add]⟩
theorem keepB6 {B : Nat} {w2 W W' : World} (h : Below B w2 W) (hB : B ≤ w2.heap.size) (hb : Below W.heap.size W W') : Below B w2 W' := h.trans (hb.mono (Nat.le_trans hB h.size))
theorem Grid.below {w w' : World} {g ns s : Nat} {pl : Nat → Nat} {sn : Nat → Nat → Bool} {G : Nat → Nat} (h : Grid w g ns s pl sn G) (hb : Below w.heap.size w w') : Grid w' g ns s pl sn G :=
  ⟨h.row.below hb h.row.lt, h.gt, h.ne, fun m hm => (h.inner m hm).below hb (h.inner m hm).lt⟩

set_option maxRecDepth 100000 in
set_option maxHeartbeats 16000000 in
theorem lawPW_of (hLess : ∀ w0 g cap rc oc cb gs ns S PB, Bound w0 g cap rc oc cb gs ns S PB → LessOk (sortK w0 g cap rc oc S ns))
    (so : Option Addr) (ns cs : Nat) (S : Nat → Scn) (w : World) (hs : ScenesAt w so ns S) (l3 : ns ≤ 140737488355328) :
    Calls Try.prog 4 #[.slice so ns cs] w fun e w' => e = .returned (.bool true) ∧ Below w.heap.size w w' := by
  have HLess : Hid _ := hLess
  have HS : Hid (ScenesAt w so ns S) := hs
  clear hLess hs
  go_enter Try.func4, Try.ntmps4
  go_wp2_with fail
  refine (zzPresent so ns cs S w HS.out l3).mono ?_
  rintro e w0 ⟨⟨β, rfl, hβ⟩, rfl⟩
  cases β
  · clear hβ
    go_wp2_with fail
    go_ret
    exact ⟨rfl, Below.refl _ _⟩
  obtain ⟨k3, lp, ls⟩ := hβ rfl
  have HLP : Hid (∀ j < ns, (S j).pl ≤ 1048576) := lp
  have HLS : Hid (sumPl S ns ≤ 1048576) := ls
  have L3 : (ns : Int) ≤ 1048576 := by omega
  clear lp ls hβ l3
  go_wp2_with fail
  refine (scenesBytesW so ns cs 0 S w HS.out k3 HLP.out (by omega) (by omega)).mono ?_
  rintro e w1 ⟨⟨z, rfl⟩, hb1⟩
  have HB1 : Hid (Below w.heap.size w w1) := hb1
  clear hb1
  by_cases hz : 1048576 < z
  · go_wp2_with fail
    go_ret
    exact ⟨rfl, HB1.out⟩
  go_wp2_with fail
  refine (buildW none none so 0 0 ns 0 0 cs (fun _ => 0) (fun _ => ByteArray.empty) S w1 (Or.inl rfl) (Or.inl rfl) (HS.out.below HB1.out) (by omega) (by omega) k3 HLP.out).mono ?_
  rintro e w2 ⟨rfl, -, -, ⟨PB, hsc⟩, hb2⟩
  obtain ⟨gs, hgs⟩ : ∃ gs, gs = w1.heap.size + 4 := ⟨_, rfl⟩
  obtain ⟨gf, hgf⟩ : ∃ gf, gf = w1.heap.size + 3 := ⟨_, rfl⟩
  obtain ⟨gr, hgr⟩ : ∃ gr, gr = w1.heap.size + 1 + 1 := ⟨_, rfl⟩
  rw [← hgs] at hsc ⊢
  rw [← hgf, ← hgr]
  clear hgs hgf hgr hz
  have HSC : Hid (ScTo w2 gs ns ns S PB) := hsc
  have HB2 : Hid (Below w.heap.size w w2) := HB1.out.trans (hb2.mono HB1.out.size)
  clear hsc hb2 HB1
  unfold cL
  go_wp2_with fail
  refine (zzPresW_of gs ns 0 0 0 0 (some ⟨gf, 0, none⟩) (some ⟨gr, 0, none⟩) S _ HLS.out (fun W hW => presW_of HLess.out gs ns 0 0 0 0 _ _ S PB W ((HSC.out.below ((Below.refl _ _).alloc (Nat.le_refl _) _)).below hW) k3 HLS.out)).mono ?_
  rintro e w3 ⟨g1, g2, t, rfl, hone, hc1, hc2, hb3⟩
  have HB3 : Hid (Below w.heap.size w w3) := (HB2.out.alloc HB2.out.size _).trans (hb3.mono (by have := HB2.out.size; simp only [World.size_alloc]; omega))
  have HONE : Hid (OneOrder S ns t) := hone
  have HC1 : Hid (CellsAt w3 (some ⟨g1, 0, none⟩) (sumPl S ns) (fun k => .int .i64 (posX S ns (t k) : Int))) := hc1
  have HC2 : Hid (CellsAt w3 (some ⟨g2, 0, none⟩) (sumPl S ns) (fun k => .int .i64 (posY S ns (t k) : Int))) := hc2
  clear hone hc1 hc2 hb3 HB2 HSC HLess
  go_wp2_with fail
  refine (presentCountW so ns cs S w3 (HS.out.below HB3.out) k3 HLP.out).mono ?_
  rintro e w4 ⟨rfl, rfl⟩
  have hnI : (sumPl S ns : Int) ≤ 1048576 := by have := HLS.out; omega
  obtain ⟨n, hn⟩ : ∃ n, n = sumPl S ns := ⟨_, rfl⟩
  have HN : Hid (n = sumPl S ns) := hn
  rw [← hn] at hnI HC1 HC2 ⊢
  clear hn HLS
  have hmk := make70 ns k3
  have HM1 : Hid (∀ j < ns, ∀ w : World, (Instr.makeSlice 71 (.int .i64 (S j).pl) (.int .i64 (S j).pl)).run Try.prog w = .ok (.slice (some ⟨w.heap.size, 0, none⟩) (S j).pl (S j).pl) (w.alloc (.cells (madeCells #[.bool false] (S j).pl) 4))) := fun j hj w => make71 _ (HLP.out j hj) w
  have hne0 : ((n : Int) != n) = false := by rw [bne_eq_false_iff_eq]
  go_wp2
  clear hmk hne0
  have hz3 : w.heap.size ≤ w3.heap.size := HB3.out.size
  go_loopw [8] (fun i wx => ∃ s : Nat, s ≤ ns ∧ i = .int .i64 s ∧ Below w3.heap.size w3 wx ∧ ∃ G, Grid wx w3.heap.size ns s (fun m => (S m).pl) (fun _ _ => false) G) (fun i _ => ns - (intOf i).toNat)
  case atStart => exact ⟨0, by omega, rfl, (Below.refl _ _).alloc (Nat.le_refl _) _, fun _ => 0, Grid.made w3 ns _ _⟩
  case round =>
    obtain ⟨s, hs, rfl, hbl, G, hg⟩ := hrel
    have HBx : Hid (Below w3.heap.size w3 wr) := hbl
    have HG : Hid (Grid wr w3.heap.size ns s (fun m => (S m).pl) (fun _ _ => false) G) := hg
    clear hbl hg
    by_cases hlt2 : s < ns
    · have hlti : (s : Int) < ns := by omega
      obtain ⟨b, off, ha, hbw, hc⟩ := scene_at HS.out (by omega)
      subst ha
      have hb2 : b < w3.heap.size := Nat.lt_of_lt_of_le hbw hz3
      have c2 := (HBx.out.cell (by exact hb2)).trans ((HB3.out.cell (by exact hbw)).trans (hc s hlt2).2.2)
      have hmk := HM1.out s hlt2
      have hpl : ((S s).pl : Int) ≤ 1048576 := by have := HLP.out s hlt2; omega
      have hv := HG.out.row.val s hlt2
      have hz := HG.out.row.open_ s
      rw [if_neg (by omega)] at hv
      have HG2 : Hid (Grid ((wr.setCell ⟨w3.heap.size, s, none⟩ (.slice (some ⟨wr.heap.size, 0, none⟩) (S s).pl (S s).pl)).alloc (.cells (madeCells #[.bool false] (S s).pl) 4)) w3.heap.size ns (s + 1) (fun m => (S m).pl) (fun _ _ => false) (fun m => if m = s then wr.heap.size else G m)) :=
        HG.out.grow hlt2 (fun _ => rfl)
      have hgx : w3.heap.size < wr.heap.size := HG.out.row.lt
      have hbx : b < wr.heap.size := by omega
      clear hc hbw
      go_wp2
      go_roundw
      case rel => exact ⟨s + 1, by omega, by go_num, (HBx.out.setCell (by exact Nat.le_refl _) _).alloc (by have := HBx.out.size; simpa [World.setCell] using this) _, _, HG2.out⟩
      case measure => simp [intOf]; omega
    · have hkn2 : ¬ (s : Int) < ns := by omega
      have hsn : ns = s := by omega
      subst hsn
      clear HM1
      go_wp2
      go_loopw [9] (fun i wx => ∃ k : Nat, k ≤ n ∧ i = .int .i64 k ∧ Below w3.heap.size w3 wx ∧ ∃ sn, Grid wx w3.heap.size ns ns (fun m => (S m).pl) sn G ∧ ∀ m < ns, ∀ i < (S m).pl, sn m i = true ↔ ∃ p < k, (posX S ns (t p) : Int) = (m : Int) ∧ (posY S ns (t p) : Int) = (i : Int)) (fun i _ => n - (intOf i).toNat)
      case atStart => exact ⟨0, by omega, rfl, HBx.out, _, HG.out, fun m hm i hi => by simp⟩
      case round =>
        clear HBx HG
        obtain ⟨k, hk, rfl, hbl, sn, hgr, hsn⟩ := hrel
        have HBk : Hid (Below w3.heap.size w3 wr) := hbl
        have HGk : Hid (Grid wr w3.heap.size ns ns (fun m => (S m).pl) sn G) := hgr
        have HSN : Hid (∀ m < ns, ∀ i < (S m).pl, sn m i = true ↔ ∃ p < k, (posX S ns (t p) : Int) = (m : Int) ∧ (posY S ns (t p) : Int) = (i : Int)) := hsn
        clear hbl hgr hsn
        by_cases hlt3 : k < n
        · have hltk : (k : Int) < n := by omega
          have hkt : t k < sumPl S ns := HONE.out.rng k (by rw [← HN.out]; exact hlt3)
          obtain ⟨hxn, hyp⟩ := pos_in S ns hkt
          have hsx : sn (posX S ns (t k)) (posY S ns (t k)) = false := by
            cases c : sn (posX S ns (t k)) (posY S ns (t k))
            · rfl
            · obtain ⟨p, hp, e1, e2⟩ := (HSN.out _ hxn _ hyp).1 c
              exact absurd (pos_inj S ns (HONE.out.rng p (by rw [← HN.out]; omega)) hkt (by omega) (by omega)) (HONE.out.one k (by rw [← HN.out]; exact hlt3) p hp)
          have hbef : ∀ j, j + 1 = k → befB ((S (posX S ns (t j))).ref (posY S ns (t j)) 2) ((S (posX S ns (t j))).ref (posY S ns (t j)) 0) ((S (posX S ns (t k))).ref (posY S ns (t k)) 2) ((S (posX S ns (t k))).ref (posY S ns (t k)) 0) (posX S ns (t j)) (posY S ns (t j)) (posX S ns (t k)) (posY S ns (t k)) = true := by
            rintro j rfl
            exact HONE.out.bef j (by rw [← HN.out]; exact hlt3)
          have HBF : Hid _ := hbef
          have p0 := (HBk.out.cell (by exact (cell_one HC1.out hlt3).1)).trans (cell_one HC1.out hlt3).2
          have p1 := (HBk.out.cell (by exact (cell_one HC2.out hlt3).1)).trans (cell_one HC2.out hlt3).2
          have HSTEP := seen2_step (of := fun p => (posX S ns (t p) : Int)) (ix := fun p => (posY S ns (t p) : Int)) HSN.out rfl rfl
          have HST : Hid _ := HSTEP
          clear hbef HSTEP HSN
          obtain ⟨x, hx⟩ : ∃ x, x = posX S ns (t k) := ⟨_, rfl⟩
          obtain ⟨y, hy⟩ : ∃ y, y = posY S ns (t k) := ⟨_, rfl⟩
          rw [← hx, ← hy] at HBF HST hsx
          rw [← hx] at p0 hxn hyp
          rw [← hy] at p1 hyp
          clear hx hy hkt
          have hxI : (x : Int) < ns := by omega
          have hyI : (y : Int) < (S x).pl := by omega
          have g0 := HGk.out.row.val x hxn
          rw [if_pos hxn] at g0
          have g1' := (HGk.out.inner x hxn).val y hyp
          have z1 := (HGk.out.inner x hxn).open_ y
          have gx : w3.heap.size < G x := HGk.out.gt x hxn
          have gl : G x < wr.heap.size := (HGk.out.inner x hxn).lt
          have gl2 : w3.heap.size < wr.heap.size := HGk.out.row.lt
          rw [hsx] at g1'
          obtain ⟨b3, off3, ha3, hbw3, hc3⟩ := scene_at HS.out (by omega)
          have hb3w : b3 < w3.heap.size := Nat.lt_of_lt_of_le hbw3 hz3
          have c3 := (HBk.out.cell (by exact hb3w)).trans ((HB3.out.cell (by exact hbw3)).trans (hc3 x hxn).2.2)
          have hso := ha3
          have HG2 : Hid (Grid (wr.setCell ⟨G x, y, none⟩ (.bool true)) w3.heap.size ns ns (fun m => (S m).pl) (fun a b => if a = x ∧ b = y then true else sn a b) G) := HGk.out.mark hxn hyp
          have HBm : Hid (Below w3.heap.size w3 (wr.setCell ⟨G x, y, none⟩ (.bool true))) := HBk.out.setCell (by exact Nat.le_of_lt gx) _
          clear hsx hc3 hbw3 HBk HGk
          have d0 : decide ((x : Int) < 0) = false := by simp
          have d2 : decide ((y : Int) < 0) = false := by simp
          have d1 : decide (ns ≤ x) = false := by simp; omega
          have d3 : decide ((S x).pl ≤ y) = false := by simp; omega
          subst hso
          go_wp2
          obtain ⟨wm, hwm⟩ : ∃ wm, wm = wr.setCell ⟨G x, y, none⟩ (.bool true) := ⟨_, rfl⟩
          rw [← hwm] at HG2 HBm ⊢
          clear hwm g0 g1' z1 c3 p0 p1 d0 d1 d2 d3 gl
          by_cases hk0 : k = 0
          · have dk : decide (0 < k) = false := by simp; omega
            go_quiet (fail)
            go_wp2
            go_roundw
            case rel => exact ⟨k + 1, by omega, by go_num, below_drewN HBm.out _, _, HG2.out.drewN _, HST.out⟩
            case measure => simp [intOf]; omega
          · obtain ⟨j, hj⟩ : ∃ j, j + 1 = k := ⟨k - 1, by omega⟩
            have dk : decide (0 < k) = true := by simp; omega
            have hj1 : (k : Int) - 1 = (j : Int) := by omega
            have hjn : j < n := by omega
            have hjI : (j : Int) < n := by omega
            have p0 := (HBm.out.cell (by exact (cell_one HC1.out hjn).1)).trans (cell_one HC1.out hjn).2
            have p1 := (HBm.out.cell (by exact (cell_one HC2.out hjn).1)).trans (cell_one HC2.out hjn).2
            have hjt : t j < sumPl S ns := HONE.out.rng j (by rw [← HN.out]; exact hjn)
            obtain ⟨hxj, hyj⟩ := pos_in S ns hjt
            have HBJ := HBF.out j hj
            obtain ⟨x', hx'⟩ : ∃ x', x' = posX S ns (t j) := ⟨_, rfl⟩
            obtain ⟨y', hy'⟩ : ∃ y', y' = posY S ns (t j) := ⟨_, rfl⟩
            rw [← hx', ← hy'] at HBJ
            rw [← hx'] at p0 hxj hyj
            rw [← hy'] at p1 hyj
            have HBJ' : Hid _ := HBJ
            clear hx' hy' hjt HBJ HBF
            have HSm : Hid (ScenesAt wm (some ⟨b3, off3, none⟩) ns S) := HS.out.below (HB3.out.trans (HBm.out.mono hz3))
            have q1 := (cell_one HC1.out hjn).1
            have q2 := (cell_one HC2.out hjn).1
            have zm : w3.heap.size < wm.heap.size := HG2.out.row.lt
            have HSK : Hid (∀ W, Below wm.heap.size wm W → (fun W => Below wm.heap.size wm W ∧ W.cell? ⟨g1, j, none⟩ = some (.int .i64 (x' : Int)) ∧ W.cell? ⟨g2, j, none⟩ = some (.int .i64 (y' : Int))) W) := fun W hb =>
              ⟨hb, (hb.cell (by show g1 < _; omega)).trans p0, (hb.cell (by show g2 < _; omega)).trans p1⟩
            have HSB : Hid (∀ W, (fun W => Below wm.heap.size wm W ∧ W.cell? ⟨g1, j, none⟩ = some (.int .i64 (x' : Int)) ∧ W.cell? ⟨g2, j, none⟩ = some (.int .i64 (y' : Int))) W → Below wm.heap.size wm W) := fun W h => h.1
            have hwj : IntKind.i64.wrap ((k : Int) - 1) = (j : Int) := by rw [IntKind.wrap_i64]; omega
            clear hk0 hj1
            go_region_held3 (fun W => Below wm.heap.size wm W ∧ W.cell? ⟨g1, j, none⟩ = some (.int .i64 (x' : Int)) ∧ W.cell? ⟨g2, j, none⟩ = some (.int .i64 (y' : Int))) ((refine HSK.out _ ?_; repeat' (first | with_reducible exact hBA | with_reducible exact Below.refl _ _ | with_reducible refine Below.drew ?_))) (first
              | (go_at_call 17; with_reducible refine (leavesBeforeW (some ⟨b3, off3, none⟩) ns cs S _ (HSm.out.below (HSB.out _ (by assumption))) x' y' x y hxj hxn hyj hyp).mono ?_; rintro e wA ⟨rfl, hbA⟩; have hBA := keepB6 (HSB.out _ (by assumption)) (Nat.le_refl _) hbA; rw [HBJ'.out])
              | fail)
            go_wp2
            go_roundw
            case rel => exact ⟨k + 1, by omega, by go_num, HBm.out.trans (hBA.mono (by omega)), _, HG2.out.below hBA, HST.out⟩
            case measure => simp [intOf]; omega
        · have hkk : ¬ (k : Int) < n := by omega
          go_wp2
          go_ret
          exact ⟨rfl, HB3.out.trans (HBk.out.mono hz3)⟩
end Go.Proofs.Qxb6615139a
