/- The walk of leavePremise. -/
import Derived.Test.Qxb6615139aPremDef
import Derived.BigQuiet
namespace Go.Proofs.Qxb6615139a
open Go.RowKit

set_option maxRecDepth 100000 in
set_option maxHeartbeats 16000000 in
theorem premiseW (e0 : Int) (fo_ so oo po : Option Addr) (nf ns no np cf cs co cp : Nat) (b1 b2 b3 n : Int) (S : Nat → Scn) (fo of ix : Nat → Int) (w : World)
    (hs : ScenesAt w so ns S) (hfo : CellsAt w oo no (fun j => .int .i64 (fo j))) (hp : PairsAt w po np of ix)
    (l0 : 0 ≤ e0) (l1 : e0 ≤ 1048576) (l2 : nf ≤ 1048576) (l3 : ns ≤ 1048576) (lp : ∀ j < ns, (S j).pl ≤ 1048576) (l5 : np ≤ 1048576) :
    Calls Try.prog 8 #[.int .i64 e0, .slice fo_ nf cf, .slice so ns cs, .int .i64 b1, .int .i64 b2, .int .i64 b3, .slice oo no co, .slice po np cp, .int .i64 n] w fun r w' =>
      PremAns e0 nf ns no np S b1 b2 b3 fo of ix n r ∧ Below w.heap.size w w' := by
  have HS : Hid (ScenesAt w so ns S) := hs
  have HO : Hid (CellsAt w oo no (fun j => .int .i64 (fo j))) := hfo
  have HP : Hid (PairsAt w po np of ix) := hp
  have HL : Hid (∀ j < ns, (S j).pl ≤ 1048576) := lp
  have L2 : (nf : Int) ≤ 1048576 := by omega
  have L3 : (ns : Int) ≤ 1048576 := by omega
  have L5 : (np : Int) ≤ 1048576 := by omega
  clear hs hfo hp lp l5
  by_cases hb : (0 ≤ b1 ∧ b1 ≤ 1073741824) ∧ (0 ≤ b2 ∧ b2 ≤ 1073741824) ∧ 0 ≤ b3 ∧ b3 ≤ 1073741824
  · obtain ⟨⟨x1, x2⟩, ⟨x3, x4⟩, x5, x6⟩ := hb
    by_cases hno : no = nf
    · subst hno
      have hmk := make71 no l2
      go_enter Try.func8, Try.ntmps8
      go_wp2
      clear hmk
      go_loopw [21] (fun i wr => ∃ k : Nat, k ≤ no ∧ i = .int .i64 k ∧ Below w.heap.size w wr ∧ (∃ sn : Nat → Bool, Row wr w.heap.size no (fun m => .bool (sn m)) ∧ ∀ m < no, sn m = true ↔ ∃ p < k, fo p = (m : Int)) ∧
          (∀ p < k, 0 ≤ fo p ∧ fo p < no) ∧ ∀ p < k, ∀ q < p, fo q ≠ fo p) (fun i _ => no - (intOf i).toNat)
      case atStart => exact ⟨0, by omega, rfl, (Below.refl _ _).alloc (Nat.le_refl _) _, ⟨fun _ => false, row_bools w no, fun m hm => by simp⟩, by omega, by omega⟩
      case round =>
        obtain ⟨k, hk, rfl, hbl, ⟨sn, hrow, hsn⟩, hin, hone⟩ := hrel
        have HB : Hid (Below w.heap.size w wr) := hbl
        have HR : Hid (Row wr w.heap.size no (fun m => .bool (sn m))) := hrow
        have HN : Hid (∀ m < no, sn m = true ↔ ∃ p < k, fo p = (m : Int)) := hsn
        have HI : Hid (∀ p < k, 0 ≤ fo p ∧ fo p < no) := hin
        have H1 : Hid (∀ p < k, ∀ q < p, fo q ≠ fo p) := hone
        clear hbl hrow hsn hin hone
        by_cases hlt : k < no
        · have hlti : (k : Int) < no := by omega
          obtain ⟨b, off, ha, hbw, hc⟩ := cell_at HO.out (by omega)
          subst ha
          have hck := (HB.out.cell (by exact hbw)).trans (hc k hlt)
          clear hc hbw
          by_cases f0 : fo k < 0
          · go_wp2
            go_ret
            exact ⟨⟨false, rfl, fun h => by cases h⟩, HB.out⟩
          · by_cases f1 : (no : Int) ≤ fo k
            · go_wp2
              go_ret
              exact ⟨⟨false, rfl, fun h => by cases h⟩, HB.out⟩
            · obtain ⟨x, hx⟩ := Int.eq_ofNat_of_zero_le (show 0 ≤ fo k by omega)
              have HX : Hid (fo k = (x : Int)) := hx
              rw [hx] at hck f0 f1
              clear hx
              have hxn : x < no := by omega
              have hxI : (x : Int) < no := by omega
              have hv := HR.out.val x hxn
              have hz := HR.out.open_ x
              cases hsx : sn x
              · rw [hsx] at hv
                have HSX : Hid (sn x = false) := hsx
                have HR2 : Hid (Row (wr.setCell ⟨w.heap.size, x, none⟩ (.bool true)) w.heap.size no (fun m => .bool (if m = x then true else sn m))) :=
                  (HR.out.put hxn (.bool true)).ext (fun m _ => by by_cases e : m = x <;> simp [e])
                clear hsx
                go_wp2
                go_roundw
                case rel => exact ⟨k + 1, by omega, by go_num, HB.out.setCell (by exact Nat.le_refl _) _, ⟨_, HR2.out, seen_step HN.out HX.out⟩,
                  fun p hp => by
                    by_cases e : p = k
                    · subst e; rw [HX.out]; omega
                    · exact HI.out p (by omega),
                  fun p hp q hq => by
                    by_cases e : p = k
                    · subst e
                      intro h
                      have : sn x = true := (HN.out x hxn).2 ⟨q, hq, h.trans HX.out⟩
                      rw [HSX.out] at this; cases this
                    · exact H1.out p (by omega) q hq⟩
                case measure => simp [intOf]; omega
              · rw [hsx] at hv
                clear hsx
                go_wp2
                go_ret
                exact ⟨⟨false, rfl, fun h => by cases h⟩, HB.out⟩
        · have hkn : ¬ (k : Int) < no := by omega
          have hkno : no = k := by omega
          subst hkno
          have HF : Hid (∀ p < no, 0 ≤ fo p ∧ fo p < no) := HI.out
          clear HI HN HR
          have hmk := make70 ns l3
          have hmk1 : ∀ j < ns, ∀ w : World, (Instr.makeSlice 71 (.int .i64 (S j).pl) (.int .i64 (S j).pl)).run Try.prog w = .ok (.slice (some ⟨w.heap.size, 0, none⟩) (S j).pl (S j).pl) (w.alloc (.cells (madeCells #[.bool false] (S j).pl) 4)) := fun j hj w => make71 _ (HL.out j hj) w
          have HM1 : Hid (∀ j < ns, ∀ w : World, (Instr.makeSlice 71 (.int .i64 (S j).pl) (.int .i64 (S j).pl)).run Try.prog w = .ok (.slice (some ⟨w.heap.size, 0, none⟩) (S j).pl (S j).pl) (w.alloc (.cells (madeCells #[.bool false] (S j).pl) 4))) := hmk1
          clear hmk1
          obtain ⟨w2, hw2⟩ : ∃ w2, w2 = wr := ⟨_, rfl⟩
          subst hw2
          go_wp2
          clear hmk
          go_loopw [23, 25] (fun t i wx => ∃ s : Nat, s ≤ ns ∧ i = .int .i64 s ∧ t = .int .i64 (sumPl S s) ∧ Below w2.heap.size w2 wx ∧ ∃ G, Grid wx w2.heap.size ns s (fun m => (S m).pl) (fun _ _ => false) G) (fun _ i _ => ns - (intOf i).toNat)
          case atStart => exact ⟨0, by omega, rfl, rfl, (Below.refl _ _).alloc (Nat.le_refl _) _, fun _ => 0, Grid.made w2 ns _ _⟩
          case round =>
            obtain ⟨s, hs, rfl, rfl, hbl, G, hg⟩ := hrel
            have HBx : Hid (Below w2.heap.size w2 wr) := hbl
            have HG : Hid (Grid wr w2.heap.size ns s (fun m => (S m).pl) (fun _ _ => false) G) := hg
            clear hbl hg
            by_cases hlt2 : s < ns
            · have hlti : (s : Int) < ns := by omega
              obtain ⟨b, off, ha, hbw, hc⟩ := scene_at HS.out (by omega)
              subst ha
              have hb2 : b < w2.heap.size := Nat.lt_of_lt_of_le hbw HB.out.size
              have c2 := (HBx.out.cell (by exact hb2)).trans ((HB.out.cell (by exact hbw)).trans (hc s hlt2).2.2)
              have hmk := HM1.out s hlt2
              have hsp := sumPl_le S s (fun j hj => HL.out j (by omega))
              have hspI : (sumPl S s : Int) ≤ 1099511627776 := by omega
              have hpl : ((S s).pl : Int) ≤ 1048576 := by have := HL.out s hlt2; omega
              have hv := HG.out.row.val s hlt2
              have hz := HG.out.row.open_ s
              rw [if_neg (by omega)] at hv
              have HG2 : Hid (Grid ((wr.setCell ⟨w2.heap.size, s, none⟩ (.slice (some ⟨wr.heap.size, 0, none⟩) (S s).pl (S s).pl)).alloc (.cells (madeCells #[.bool false] (S s).pl) 4)) w2.heap.size ns (s + 1) (fun m => (S m).pl) (fun _ _ => false) (fun m => if m = s then wr.heap.size else G m)) :=
                HG.out.grow hlt2 (fun _ => rfl)
              have hgx : w2.heap.size < wr.heap.size := HG.out.row.lt
              have hbx : b < wr.heap.size := by omega
              clear hc hbw
              go_wp2
              go_roundw
              case rel => exact ⟨s + 1, by omega, by go_num, by simp only [sumPl]; go_num, (HBx.out.setCell (by exact Nat.le_refl _) _).alloc (by have := HBx.out.size; simpa [World.setCell] using this) _, _, HG2.out⟩
              case measure => simp [intOf]; omega
            · have hkn2 : ¬ (s : Int) < ns := by omega
              have hsn : ns = s := by omega
              subst hsn
              have hsp := sumPl_le S ns HL.out
              have hspI : (sumPl S ns : Int) ≤ 1099511627776 := by omega
              by_cases hnp : np = sumPl S ns
              · have hnp' : ((np : Int) != (sumPl S ns : Int)) = false := by rw [bne_eq_false_iff_eq]; omega
                have HNP : Hid (np = sumPl S ns) := hnp
                clear hnp
                go_wp2
                go_loopw [26] (fun i wx => ∃ k : Nat, k ≤ np ∧ i = .int .i64 k ∧ Below w.heap.size w wx ∧ (∃ sn, Grid wx w2.heap.size ns ns (fun m => (S m).pl) sn G ∧ ∀ m < ns, ∀ i < (S m).pl, sn m i = true ↔ ∃ p < k, of p = (m : Int) ∧ ix p = (i : Int)) ∧
                    (∀ p < k, 0 ≤ of p ∧ of p < ns ∧ 0 ≤ ix p ∧ ix p < (S (of p).toNat).pl) ∧ ∀ p < k, ∀ q < p, ¬ (of q = of p ∧ ix q = ix p)) (fun i _ => np - (intOf i).toNat)
                case atStart => exact ⟨0, by omega, rfl, HB.out.trans (HBx.out.mono HB.out.size), ⟨_, HG.out, fun m hm i hi => by simp⟩, by omega, by omega⟩
                case round =>
                  obtain ⟨k, hk, rfl, hbl, ⟨sn, hgr, hsn⟩, hin, hone⟩ := hrel
                  have HBk : Hid (Below w.heap.size w wr) := hbl
                  have HGk : Hid (Grid wr w2.heap.size ns ns (fun m => (S m).pl) sn G) := hgr
                  have HN : Hid (∀ m < ns, ∀ i < (S m).pl, sn m i = true ↔ ∃ p < k, of p = (m : Int) ∧ ix p = (i : Int)) := hsn
                  have HI : Hid (∀ p < k, 0 ≤ of p ∧ of p < ns ∧ 0 ≤ ix p ∧ ix p < (S (of p).toNat).pl) := hin
                  have H2 : Hid (∀ p < k, ∀ q < p, ¬ (of q = of p ∧ ix q = ix p)) := hone
                  clear hbl hgr hsn hin hone
                  by_cases hlt3 : k < np
                  · have hltk : (k : Int) < (sumPl S ns : Int) := by have := HNP.out; omega
                    have hltn : (k : Int) < np := by omega
                    obtain ⟨b, off, ha, hbw, hc⟩ := pair_at HP.out (by omega)
                    subst ha
                    have p0 := (HBk.out.cell (by exact hbw)).trans (hc k hlt3).1
                    have p1 := (HBk.out.cell (by exact hbw)).trans (hc k hlt3).2
                    clear hc hbw
                    by_cases f0 : of k < 0
                    · have d0 : decide (of k < 0) = true := by simpa using f0
                      go_wp2
                      go_quiet (fail)
                      go_wp2
                      go_ret
                      exact ⟨⟨false, rfl, fun h => by cases h⟩, below_drewN (HBk.out.alloc HBk.out.size _) _⟩
                    · have d0 : decide (of k < 0) = false := by simpa using f0
                      by_cases f1 : (ns : Int) ≤ of k
                      · have d1 : decide ((ns : Int) ≤ of k) = true := by simpa using f1
                        go_wp2
                        go_quiet (fail)
                        go_wp2
                        go_ret
                        exact ⟨⟨false, rfl, fun h => by cases h⟩, below_drewN (HBk.out.alloc HBk.out.size _) _⟩
                      · have d1 : decide ((ns : Int) ≤ of k) = false := by simpa using f1
                        by_cases f2 : ix k < 0
                        · have d2 : decide (ix k < 0) = true := by simpa using f2
                          go_wp2
                          go_quiet (fail)
                          go_wp2
                          go_ret
                          exact ⟨⟨false, rfl, fun h => by cases h⟩, below_drewN (HBk.out.alloc HBk.out.size _) _⟩
                        · obtain ⟨x, hx⟩ := Int.eq_ofNat_of_zero_le (show 0 ≤ of k by omega)
                          obtain ⟨y, hy⟩ := Int.eq_ofNat_of_zero_le (show 0 ≤ ix k by omega)
                          have HX : Hid (of k = (x : Int)) := hx
                          have HY : Hid (ix k = (y : Int)) := hy
                          rw [hx] at p0 f1
                          rw [hy] at p1
                          clear f0 f2 d0 d1 hx hy
                          have hxn : x < ns := by omega
                          have hxI : (x : Int) < ns := by omega
                          have d0 : decide ((x : Int) < 0) = false := by simp
                          have d1 : decide ((ns : Int) ≤ x) = false := by simpa using f1
                          have d2 : decide ((y : Int) < 0) = false := by simp
                          obtain ⟨b3, off3, ha3, hbw3, hc3⟩ := scene_at HS.out (by omega)
                          have c3 := (HBk.out.cell (by exact hbw3)).trans (hc3 x hxn).2.2
                          have hb3x : b3 < wr.heap.size := Nat.lt_of_lt_of_le hbw3 HBk.out.size
                          subst ha3
                          clear hc3 f1 hbw3
                          by_cases f3 : ((S x).pl : Int) ≤ y
                          · have d3n : decide ((S x).pl ≤ y) = true := by simp; omega
                            have d1n : decide (ns ≤ x) = false := by simp; omega
                            clear f3 d1
                            generalize (S x).pl = P at c3 d3n
                            generalize (S x).pc = PC at c3
                            generalize (S x).pa = PA at c3
                            go_wp2
                            go_quiet (fail)
                            go_wp2
                            go_ret
                            exact ⟨⟨false, rfl, fun h => by cases h⟩, below_drewN (HBk.out.alloc HBk.out.size _) _⟩
                          · have d3 : decide (((S x).pl : Int) ≤ y) = false := by simpa using f3
                            have hyp : y < (S x).pl := by omega
                            have hypI : (y : Int) < (S x).pl := by omega
                            have g0 := HGk.out.row.val x hxn
                            rw [if_pos hxn] at g0
                            have g1 := (HGk.out.inner x hxn).val y hyp
                            have z1 := (HGk.out.inner x hxn).open_ y
                            have gx : w2.heap.size < G x := HGk.out.gt x hxn
                            have gl : G x < wr.heap.size := (HGk.out.inner x hxn).lt
                            have gl2 : w2.heap.size < wr.heap.size := HGk.out.row.lt
                            cases hsx : sn x y
                            · rw [hsx] at g1
                              have HSX : Hid (sn x y = false) := hsx
                              clear hsx
                              have HG2 : Hid (∀ nq : Nat, Grid (((wr.alloc (.cells #[.int .i64 x, .int .i64 y] 82)).drewN nq).setCell ⟨G x, y, none⟩ (.bool true)) w2.heap.size ns ns (fun m => (S m).pl) (fun a b => if a = x ∧ b = y then true else sn a b) G) :=
                                fun nq => ((HGk.out.alloc _).drewN nq).mark hxn hyp
                              have hwG : w.heap.size ≤ G x := Nat.le_trans HB.out.size (Nat.le_of_lt gx)
                              go_wp2
                              go_quiet (fail)
                              go_wp2
                              go_region
                              go_wp2
                              go_roundw
                              case rel => exact ⟨k + 1, by omega, by go_num, (below_drewN (HBk.out.alloc HBk.out.size _) _).setCell (by exact hwG) _, ⟨_, HG2.out _, seen2_step HN.out HX.out HY.out⟩,
                                fun p hp => by
                                  by_cases e : p = k
                                  · subst e
                                    rw [HX.out, HY.out]
                                    exact ⟨by omega, hxI, by omega, by rw [Int.toNat_natCast]; exact hypI⟩
                                  · exact HI.out p (by omega),
                                fun p hp q hq => by
                                  by_cases e : p = k
                                  · subst e
                                    rintro ⟨e1, e2⟩
                                    have : sn x y = true := (HN.out x hxn y hyp).2 ⟨q, hq, e1.trans HX.out, e2.trans HY.out⟩
                                    rw [HSX.out] at this; cases this
                                  · exact H2.out p (by omega) q hq⟩
                              case measure => simp [intOf]; omega
                            · rw [hsx] at g1
                              clear hsx
                              go_wp2
                              go_quiet (fail)
                              go_wp2
                              go_ret
                              exact ⟨⟨false, rfl, fun h => by cases h⟩, below_drewN (HBk.out.alloc HBk.out.size _) _⟩
                  · have hkk : ¬ (k : Int) < (sumPl S ns : Int) := by have := HNP.out; omega
                    have hkn3 : np = k := by omega
                    subst hkn3
                    by_cases n0 : 0 ≤ n
                    · by_cases n1 : n ≤ e0 + no + sumPl S ns
                      · go_wp2
                        go_ret
                        exact ⟨⟨true, rfl, fun _ => ⟨⟨x1, x2⟩, ⟨x3, x4⟩, ⟨x5, x6⟩, rfl, HNP.out, HF.out, H1.out, HI.out, H2.out, ⟨n0, n1⟩⟩⟩, HBk.out⟩
                      · have n1' : e0 + no + sumPl S ns < n := by omega
                        go_wp2
                        go_ret
                        exact ⟨⟨false, rfl, fun h => by cases h⟩, HBk.out⟩
                    · go_wp2
                      go_ret
                      exact ⟨⟨false, rfl, fun h => by cases h⟩, HBk.out⟩
              · have hnp' : ((np : Int) != (sumPl S ns : Int)) = true := by rw [bne_iff_ne]; omega
                go_wp2
                go_ret
                exact ⟨⟨false, rfl, fun h => by cases h⟩, HB.out.trans (HBx.out.mono HB.out.size)⟩
    · have hno' : ((no : Int) != nf) = true := by rw [bne_iff_ne]; omega
      go_enter Try.func8, Try.ntmps8
      go_wp2
      go_ret
      exact ⟨⟨false, rfl, fun h => by cases h⟩, Below.refl _ _⟩
  · clear l0 l1
    go_enter Try.func8, Try.ntmps8
    go_wp2
    all_goals (try (go_ret; exact ⟨⟨false, rfl, fun h => by cases h⟩, Below.refl _ _⟩))

end Go.Proofs.Qxb6615139a
