/- The walk of ZZLeave. -/
import Derived.Test.Qxb6615139aCut
import Derived.Test.Qxb6615139aLeave
namespace Go.Proofs.Qxb6615139a
open Go.RowKit

set_option maxRecDepth 100000 in
set_option maxHeartbeats 8000000 in
theorem zzLeaveW (gf gr gs nf nr ns np fcap ocap icap n E F Q : Nat) (fa oa ia : Option Addr) (b1 b2 b3 : Int) (T : Nat → ByteArray) (S : Nat → Scn) (PB : Nat → Nat) (fo of ix : Nat → Int) (over : Bool) (w : World)
    (hf : ElemsTo w gf nf 12 nf (fun j => factL (T j))) (hs : ScTo w gs ns ns S PB) (hfo : CellsAt w fa nf (fun j => .int .i64 (fo j))) (hof : CellsAt w oa np (fun j => .int .i64 (of j))) (hix : CellsAt w ia np (fun j => .int .i64 (ix j)))
    (hfc : nf ≤ fcap) (hin : ∀ p < nf, 0 ≤ fo p ∧ fo p < nf) (hone : ∀ p < nf, ∀ q < p, fo q ≠ fo p) (lf : nf ≤ 1048576) (lr : nr ≤ 1048576) (x1 : 0 ≤ b1) (x2 : b1 ≤ 1073741824) (x3 : 0 ≤ b2) (x4 : b2 ≤ 1073741824) (x5 : 0 ≤ b3) (x6 : b3 ≤ 1073741824) (n1 : (n : Int) ≤ 1099511627776) (lns : ns ≤ 1048576) (lpl : ∀ j < ns, (S j).pl ≤ 1048576) (lnp : np ≤ 1048576)
    (hpi : ∀ p < np, 0 ≤ of p ∧ of p < ns ∧ 0 ≤ ix p ∧ ix p < (S (of p).toNat).pl) (hp1 : ∀ p < np, ∀ q < p, ¬ (of q = of p ∧ ix q = ix p)) (hQ : Q ≤ np)
    (hE : ((n : Int) ≤ nr ∧ (E : Int) = n ∧ (F : Int) = 0 ∧ (Q : Int) = 0) ∨ ((nr : Int) < n ∧ (n : Int) ≤ (nr : Int) + nf ∧ (E : Int) = nr ∧ (F : Int) = n - nr ∧ (Q : Int) = 0) ∨ ((nr : Int) + nf < n ∧ (E : Int) = nr ∧ (F : Int) = nf ∧ (Q : Int) = n - nr - nf)) :
    Calls Try.prog 11 #[.agg (cL (.slice (some ⟨gf, 0, none⟩) nf nf) (.slice (some ⟨gr, 0, none⟩) nr nr) (.slice (some ⟨gs, 0, none⟩) ns ns)).toArray, .agg #[.int .i64 b1, .int .i64 b2, .int .i64 b3], .slice fa nf fcap, .slice oa np ocap, .slice ia np icap, .int .i64 n, .bool over] w (HeldAns (fun _ => True) gr nr nf ns E F Q b1 b2 b3 T S fo of ix w) := by
  have HF : Hid (ElemsTo w gf nf 12 nf (fun j => factL (T j))) := hf
  have HS : Hid (ScTo w gs ns ns S PB) := hs
  have HFO : Hid (CellsAt w fa nf (fun j => .int .i64 (fo j))) := hfo
  have HOF : Hid (CellsAt w oa np (fun j => .int .i64 (of j))) := hof
  have HIX : Hid (CellsAt w ia np (fun j => .int .i64 (ix j))) := hix
  have HIN : Hid (∀ p < nf, 0 ≤ fo p ∧ fo p < nf) := hin
  have HONE : Hid (∀ p < nf, ∀ q < p, fo q ≠ fo p) := hone
  have HLP : Hid (∀ j < ns, (S j).pl ≤ 1048576) := lpl
  have HPI : Hid (∀ p < np, 0 ≤ of p ∧ of p < ns ∧ 0 ≤ ix p ∧ ix p < (S (of p).toNat).pl) := hpi
  have HP1 : Hid (∀ p < np, ∀ q < p, ¬ (of q = of p ∧ ix q = ix p)) := hp1
  have HE : Hid (((n : Int) ≤ nr ∧ (E : Int) = n ∧ (F : Int) = 0 ∧ (Q : Int) = 0) ∨ ((nr : Int) < n ∧ (n : Int) ≤ (nr : Int) + nf ∧ (E : Int) = nr ∧ (F : Int) = n - nr ∧ (Q : Int) = 0) ∨ ((nr : Int) + nf < n ∧ (E : Int) = nr ∧ (F : Int) = nf ∧ (Q : Int) = n - nr - nf)) := hE
  clear hf hs hfo hof hix hin hone lpl hpi hp1 hE
  have hmk := make83 np lnp
  unfold cL
  go_enter Try.func11, Try.ntmps11
  go_wp2
  clear hmk
  obtain ⟨w0, hw0⟩ : ∃ w0, w0 = ((((w.alloc (.cells (cL (.slice (some ⟨gf, 0, none⟩) nf nf) (.slice (some ⟨gr, 0, none⟩) nr nr) (.slice (some ⟨gs, 0, none⟩) ns ns)).toArray 38)).alloc (.cells [.int .i64 b1, .int .i64 b2, .int .i64 b3].toArray 41)).alloc (.cells [.string { data := #[] }, .string { data := #[] }, .string { data := #[] }, .map none, .slice none 0 0, .slice none 0 0, .slice none 0 0, .pointer none, .bool false].toArray 38)).alloc (.cells (madeCells #[.int .i64 0, .int .i64 0] (np * 2)) 85)) := ⟨_, rfl⟩
  have hw0' := hw0
  unfold cL at hw0'
  rw [← hw0']
  clear hw0'
  have z0 : w0.heap.size = w.heap.size + 4 := by rw [hw0]; simp
  have RC : Hid (Row w0 w.heap.size 9 (fun m => (cL (.slice (some ⟨gf, 0, none⟩) nf nf) (.slice (some ⟨gr, 0, none⟩) nr nr) (.slice (some ⟨gs, 0, none⟩) ns ns)).getD m (.bool false))) := by
    rw [hw0]; exact (((Row.here w (cL (.slice (some ⟨gf, 0, none⟩) nf nf) (.slice (some ⟨gr, 0, none⟩) nr nr) (.slice (some ⟨gs, 0, none⟩) ns ns)) 38).alloc _).alloc _).alloc _
  have RB : Hid (Row w0 (w.heap.size + 1) 3 (fun m => [Value.int .i64 b1, .int .i64 b2, .int .i64 b3].getD m (.bool false))) := by
    rw [hw0]
    have := ((Row.here (w.alloc (.cells (cL (.slice (some ⟨gf, 0, none⟩) nf nf) (.slice (some ⟨gr, 0, none⟩) nr nr) (.slice (some ⟨gs, 0, none⟩) ns ns)).toArray 38)) [Value.int .i64 b1, .int .i64 b2, .int .i64 b3] 41).alloc (.cells [.string { data := #[] }, .string { data := #[] }, .string { data := #[] }, .map none, .slice none 0 0, .slice none 0 0, .slice none 0 0, .pointer none, .bool false].toArray 38)).alloc (.cells (madeCells #[.int .i64 0, .int .i64 0] (np * 2)) 85)
    rw [World.size_alloc] at this
    exact this
  have RR : Hid (Row w0 (w.heap.size + 1 + 1) 9 (fun m => [.string { data := #[] }, .string { data := #[] }, .string { data := #[] }, .map none, .slice none 0 0, .slice none 0 0, .slice none 0 0, .pointer none, .bool false].getD m (.bool false))) := by
    rw [hw0]
    have := (Row.here ((w.alloc (.cells (cL (.slice (some ⟨gf, 0, none⟩) nf nf) (.slice (some ⟨gr, 0, none⟩) nr nr) (.slice (some ⟨gs, 0, none⟩) ns ns)).toArray 38)).alloc (.cells [.int .i64 b1, .int .i64 b2, .int .i64 b3].toArray 41)) [.string { data := #[] }, .string { data := #[] }, .string { data := #[] }, .map none, .slice none 0 0, .slice none 0 0, .slice none 0 0, .pointer none, .bool false] 38).alloc (.cells (madeCells #[.int .i64 0, .int .i64 0] (np * 2)) 85)
    rw [World.size_alloc, World.size_alloc] at this
    exact this
  have RP : Hid (PairsTo w0 (w.heap.size + 1 + 1 + 1) np 0 of ix) := by
    rw [hw0]
    have := PairsTo.made (((w.alloc (.cells (cL (.slice (some ⟨gf, 0, none⟩) nf nf) (.slice (some ⟨gr, 0, none⟩) nr nr) (.slice (some ⟨gs, 0, none⟩) ns ns)).toArray 38)).alloc (.cells [.int .i64 b1, .int .i64 b2, .int .i64 b3].toArray 41)).alloc (.cells [.string { data := #[] }, .string { data := #[] }, .string { data := #[] }, .map none, .slice none 0 0, .slice none 0 0, .slice none 0 0, .pointer none, .bool false].toArray 38)) np of ix
    rw [World.size_alloc, World.size_alloc, World.size_alloc] at this
    exact this
  have B0 : Hid (Below w.heap.size w w0) := by
    rw [hw0]
    exact (((((Below.refl w.heap.size w).alloc (Nat.le_refl _) _).alloc (by simp) _).alloc (by simp; omega) _).alloc (by simp; omega) _)
  clear hw0
  go_loopw [23] (fun i wr => ∃ k : Nat, k ≤ np ∧ i = .int .i64 k ∧ PairsTo wr (w.heap.size + 1 + 1 + 1) np k of ix ∧ Below (w.heap.size + 3) w0 wr) (fun i _ => np - (intOf i).toNat)
  case atStart => exact ⟨0, by omega, rfl, RP.out, Below.refl _ _⟩
  case round =>
    obtain ⟨k, hk, rfl, hpt, hbk⟩ := hrel
    have HPT : Hid (PairsTo wr (w.heap.size + 1 + 1 + 1) np k of ix) := hpt
    have HBK : Hid (Below (w.heap.size + 3) w0 wr) := hbk
    have z1 : w.heap.size + 4 ≤ wr.heap.size := by have := hbk.size; omega
    have HBW : Hid (Below w.heap.size w wr) := B0.out.trans (hbk.mono (by omega))
    clear hpt hbk
    by_cases hlt : k < np
    · have hlti : (k : Int) < np := by omega
      obtain ⟨b, off, ha, hbw, hc⟩ := cell_at HOF.out (by omega)
      obtain ⟨b', off', ha', hbw', hc'⟩ := cell_at HIX.out (by omega)
      subst ha ha'
      have p0 := (HBW.out.cell (by exact hbw)).trans (hc k hlt)
      have p1 := (HBW.out.cell (by exact hbw')).trans (hc' k hlt)
      obtain ⟨V, rv, _⟩ := HPT.out
      have v0 := rv.val (k * 2) (by omega)
      have v1 := rv.val (k * 2 + 1) (by omega)
      have f0 := rv.open_ (k * 2)
      have f1 := rv.open_ (k * 2 + 1)
      generalize V (k * 2) = u0 at v0
      generalize V (k * 2 + 1) = u1 at v1
      have n1 := (HPT.out.put hlt).drew
      have n2 := ((HBK.out.setCell (p := ⟨w.heap.size + 1 + 1 + 1, k * 2, none⟩) (by exact Nat.le_refl _) (.int .i64 (of k))).setCell (p := ⟨w.heap.size + 1 + 1 + 1, k * 2 + 1, none⟩) (by exact Nat.le_refl _) (.int .i64 (ix k))).drew
      have HN1 : Hid _ := n1
      have HN2 : Hid _ := n2
      clear n1 n2 rv hc hc'
      have hbx : b < wr.heap.size := by omega
      have hbx' : b' < wr.heap.size := by omega
      have hne : b ≠ w.heap.size + 1 + 1 + 1 := by omega
      have hne' : b' ≠ w.heap.size + 1 + 1 + 1 := by omega
      go_wp2
      go_region
      all_goals
        go_wp2
        go_roundw
        case rel => exact ⟨k + 1, by omega, by go_num, HN1.out, HN2.out⟩
        case measure => simp [intOf]; omega
    · have hkn : ¬ (k : Int) < np := by omega
      have hn' : np = k := by omega
      rw [← hn'] at HPT
      clear hn'
      have rc := RC.out.below HBK.out (by omega)
      have rb := RB.out.below HBK.out (by omega)
      have c0 : wr.cell? ⟨w.heap.size, 0, none⟩ = some (.string ByteArray.empty) := rc.val 0 (by omega)
      have c1 : wr.cell? ⟨w.heap.size, 1, none⟩ = some (.string { data := #[] }) := rc.val 1 (by omega)
      have c2 : wr.cell? ⟨w.heap.size, 2, none⟩ = some (.string { data := #[] }) := rc.val 2 (by omega)
      have c3 : wr.cell? ⟨w.heap.size, 3, none⟩ = some (.map none) := rc.val 3 (by omega)
      have c4 : wr.cell? ⟨w.heap.size, 4, none⟩ = some (.slice (some ⟨gf, 0, none⟩) nf nf) := rc.val 4 (by omega)
      have c5 : wr.cell? ⟨w.heap.size, 5, none⟩ = some (.slice (some ⟨gr, 0, none⟩) nr nr) := rc.val 5 (by omega)
      have c6 : wr.cell? ⟨w.heap.size, 6, none⟩ = some (.slice (some ⟨gs, 0, none⟩) ns ns) := rc.val 6 (by omega)
      have c7 : wr.cell? ⟨w.heap.size, 7, none⟩ = some (.pointer none) := rc.val 7 (by omega)
      have c8 : wr.cell? ⟨w.heap.size, 8, none⟩ = some (.bool false) := rc.val 8 (by omega)
      have e0 : wr.cell? ⟨w.heap.size + 1, 0, none⟩ = some (.int .i64 b1) := rb.val 0 (by omega)
      have e1 : wr.cell? ⟨w.heap.size + 1, 1, none⟩ = some (.int .i64 b2) := rb.val 1 (by omega)
      have e2 : wr.cell? ⟨w.heap.size + 1, 2, none⟩ = some (.int .i64 b3) := rb.val 2 (by omega)
      clear rc rb
      have hgf : gf < w.heap.size := HF.out.lt
      have hgs : gs < w.heap.size := by obtain ⟨⟨V, hr, _⟩, _⟩ := HS.out; exact hr.lt
      have hgp : ∀ j < ns, PB j < w.heap.size := fun j hj => (HS.out.2 j hj).2.1
      have HGP : Hid _ := hgp
      clear hgp
      have hba : ∀ o, Below w.heap.size w (wr.alloc o) := fun o => HBW.out.alloc HBW.out.size o
      have HBA : Hid _ := hba
      clear hba
      go_wp2_with fail
      refine (leaveW wr.heap.size gf gr gs nf nr ns np fcap (w.heap.size + 1 + 1 + 1) n E F Q fa b1 b2 b3 T S PB fo of ix over _ (Row.here wr (ccL (.slice (some ⟨gf, 0, none⟩) nf nf) (.slice (some ⟨gr, 0, none⟩) nr nr) (.slice (some ⟨gs, 0, none⟩) ns ns) b1 b2 b3 (.slice fa nf fcap) (.slice (some ⟨w.heap.size + 1 + 1 + 1, 0, none⟩) np np)) 88) (HF.out.below (HBA.out _) hgf) (HS.out.below (HBA.out _)) (HFO.out.below (HBA.out _)) ((HPT.out.below ((Below.refl wr.heap.size wr).alloc (Nat.le_refl _) _) (by omega)).pairs) hfc HIN.out HONE.out lf lr x1 x2 x3 x4 x5 x6 n1 lns HLP.out lnp HPI.out HP1.out hQ HE.out).mono ?_
      rintro e w5 ⟨v, rfl, ⟨fv, g, ptr, ob, hv, hf, hs, hg, ho, hp⟩, hb5⟩
      obtain ⟨fao, fcp, hfv⟩ := hf.list.shape
      obtain ⟨fl, hfl⟩ : ∃ fl, fl = (kept (inPre fo F) nf).length := ⟨_, rfl⟩
      rw [← hfl] at hfv
      clear hfl
      subst hfv
      obtain ⟨ro, hro⟩ : ∃ ro, ro = if nr = E then 0 else E * 11 := ⟨_, rfl⟩
      obtain ⟨rl, hrl⟩ : ∃ rl, rl = nr - E := ⟨_, rfl⟩
      have hrec : recV gr nr E = .slice (some ⟨gr, ro, none⟩) rl rl := by rw [hro, hrl]; rfl
      have HV : Hid (HeldIs w5 (Old gf gs ns PB (wr.heap.size + 1)) v gr nr nf ns E F Q b1 b2 b3 T S fo of ix) := by
        rw [World.size_alloc] at hf hs hg hp
        exact ⟨_, g, ptr, ob, hv, hf, hs, hg, ho, hp⟩
      rw [hrec] at hv
      rw [World.size_alloc] at hb5
      have rr := ((RR.out.below HBK.out (by omega)).alloc (.cells (ccL (.slice (some ⟨gf, 0, none⟩) nf nf) (.slice (some ⟨gr, 0, none⟩) nr nr) (.slice (some ⟨gs, 0, none⟩) ns ns) b1 b2 b3 (.slice fa nf fcap) (.slice (some ⟨w.heap.size + 1 + 1 + 1, 0, none⟩) np np)).toArray 88)).below hb5 (by omega)
      have HB5 : Hid (Below w.heap.size w w5) := (HBW.out.alloc HBW.out.size _).trans (hb5.mono (by omega))
      clear hf hs hg ho hp hro hrl hrec hb5
      subst hv
      have r0 : w5.cell? ⟨w.heap.size + 1 + 1, 0, none⟩ = some (.string { data := #[] }) := rr.val 0 (by omega)
      have r1 : w5.cell? ⟨w.heap.size + 1 + 1, 1, none⟩ = some (.string { data := #[] }) := rr.val 1 (by omega)
      have r2 : w5.cell? ⟨w.heap.size + 1 + 1, 2, none⟩ = some (.string { data := #[] }) := rr.val 2 (by omega)
      have r3 : w5.cell? ⟨w.heap.size + 1 + 1, 3, none⟩ = some (.map none) := rr.val 3 (by omega)
      have r4 : w5.cell? ⟨w.heap.size + 1 + 1, 4, none⟩ = some (.slice none 0 0) := rr.val 4 (by omega)
      have r5 : w5.cell? ⟨w.heap.size + 1 + 1, 5, none⟩ = some (.slice none 0 0) := rr.val 5 (by omega)
      have r6 : w5.cell? ⟨w.heap.size + 1 + 1, 6, none⟩ = some (.slice none 0 0) := rr.val 6 (by omega)
      have r7 : w5.cell? ⟨w.heap.size + 1 + 1, 7, none⟩ = some (.pointer none) := rr.val 7 (by omega)
      have r8 : w5.cell? ⟨w.heap.size + 1 + 1, 8, none⟩ = some (.bool false) := rr.val 8 (by omega)
      have o0 := rr.open_ 0
      have o1 := rr.open_ 1
      have o2 := rr.open_ 2
      have o3 := rr.open_ 3
      have o4 := rr.open_ 4
      have o5 := rr.open_ 5
      have o6 := rr.open_ 6
      have o7 := rr.open_ 7
      have o8 := rr.open_ 8
      have HRR : Hid _ := rr
      clear rr
      unfold hL
      go_wp2
      refine bodyPost_ret (v := .agg (hL (.slice fao fl fcp) (.slice (some ⟨gr, ro, none⟩) rl rl) (.slice (some ⟨g, 0, none⟩) ns ns) (.pointer ptr) (.bool ob)).toArray) ?_ rfl ⟨_, rfl, ?_, ?_⟩
      · refine results_cell1 Try.results11 _ rfl (run_loadVar_mid _ _ _ 38 (hL (.slice fao fl fcp) (.slice (some ⟨gr, ro, none⟩) rl rl) (.slice (some ⟨g, 0, none⟩) ns ns) (.pointer ptr) (.bool ob)) _ ?_ Try.underlying38 rfl (by kernel_rfl))
        have := World.rangeAt_setCells_same w5 (w.heap.size + 1 + 1) 0 (hL (.slice fao fl fcp) (.slice (some ⟨gr, ro, none⟩) rl rl) (.slice (some ⟨g, 0, none⟩) ns ns) (.pointer ptr) (.bool ob)) (HRR.out.there (by simp [hL]))
        rw [hL_set] at this
        exact this
      · rw [← hL_set]
        refine (HV.out.far (b := w.heap.size + 1 + 1) ?_ 0 _).mono (fun _ _ => trivial)
        rintro (h | h | ⟨j, hj, h⟩ | h)
        · omega
        · omega
        · have := HGP.out j hj; omega
        · omega
      · rw [← hL_set]
        exact below_setCells (by omega) _ _ HB5.out
end Go.Proofs.Qxb6615139a
