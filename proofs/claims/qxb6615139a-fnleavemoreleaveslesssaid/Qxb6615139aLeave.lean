/- The walk of leave. -/
import Derived.Test.Qxb6615139aHeld
import Derived.Deep.RegionHeld3
import Derived.Deep.CutRange
namespace Go.Proofs.Qxb6615139a
open Go.RowKit

/-- The receiver's cells. -/
def ccL (f r s : Value) (b1 b2 b3 : Int) (fv pv : Value) : List Value := cL f r s ++ [.int .i64 b1, .int .i64 b2, .int .i64 b3, fv, pv]

theorem slice_rec (gr nr E : Nat) (hh : E ≤ nr) (w : World) :
    (Instr.slice 34 (.slice (some ⟨gr, 0, none⟩) nr nr) (some (.int .i64 E)) none none).run Try.prog w = .ok (recV gr nr E) w := by
  have h1 : (0 : Int) ≤ E := by omega
  have h2 : (E : Int) ≤ nr := by omega
  simp [Instr.slice, run_underlying Try.underlying34, Instr.sliceBounds, run_sliceBound, h1, h2, sizeOf, go_sem, recV]
  by_cases e : nr = E
  · simp [e]
  · simp [e]; rfl

theorem heldEnd {W w : World} {hb g gf gs gr nr nf ns E F Q : Nat} {PB : Nat → Nat} {fv rv : Value} {ptr : Option Addr} {ob : Bool} {b1 b2 b3 : Int} {T : Nat → ByteArray} {S : Nat → Scn} {fo of ix : Nat → Int}
    (hk : KeptTo W (fun b => b ≠ hb ∧ b ≠ w.heap.size ∧ Old gf gs ns PB w.heap.size b) g ns ns S (fun j => kept (in2 of ix Q j) (S j).pl)) (hl : ListIn W (fun b => b ≠ hb ∧ b ≠ w.heap.size ∧ Old gf gs ns PB w.heap.size b) fv 12 (kept (inPre fo F) nf) (fun j => factL (T j)))
    (ho : OmAt W ptr (b1 + E) (b2 + F) (b3 + Q)) (hon : ∀ o, ptr = some ⟨o, 0, none⟩ → w.heap.size < o) (hrec : recV gr nr E = rv) (hB : Below w.heap.size w W) (hg : w.heap.size ≠ g) (hg3 : g = gs ∨ w.heap.size ≤ g) :
    HeldAns (Old gf gs ns PB w.heap.size) gr nr nf ns E F Q b1 b2 b3 T S fo of ix w (.returned (.agg (hL fv rv (.slice (some ⟨g, 0, none⟩) ns ns) (.pointer ptr) (.bool ob)).toArray)) (W.setCells w.heap.size 0 (hL fv rv (.slice (some ⟨g, 0, none⟩) ns ns) (.pointer ptr) (.bool ob))) :=
  ⟨_, rfl, ⟨fv, g, ptr, ob, by rw [hrec], (hl.far (fun h => h.2.1 rfl) _ _).mono (fun _ h _ => h.2.2), (hk.far (fun h => h.2.1 rfl) hg _ _).mono (fun _ h _ => h.2.2), hg3.elim (fun h => Or.inr (Or.inl h)) (fun h => Or.inr (Or.inr (Or.inr h))), ho.far (fun o h => Nat.ne_of_lt (hon o h)) _ _, fun o h => Or.inr (Or.inr (Or.inr (Nat.le_of_lt (hon o h))))⟩, below_setCells (Nat.le_refl _) _ _ hB⟩
theorem setCells_one (W : World) (b o : Nat) (v : Value) : W.setCells b o [v] = W.setCell ⟨b, o, none⟩ v := rfl
theorem below_nine {B : Nat} {a W : World} {hb : Nat} (h : Below B a W) (hq : B ≤ hb) (v0 v1 v2 v3 v4 v5 v6 v7 v8 : Value) :
    Below B a (((((((((W.setCell ⟨hb, 0, none⟩ v0).setCell ⟨hb, 1, none⟩ v1).setCell ⟨hb, 2, none⟩ v2).setCell ⟨hb, 3, none⟩ v3).setCell ⟨hb, 4, none⟩ v4).setCell ⟨hb, 5, none⟩ v5).setCell ⟨hb, 6, none⟩ v6).setCell ⟨hb, 7, none⟩ v7).setCell ⟨hb, 8, none⟩ v8) :=
  ((((((((h.setCell (by exact hq) _).setCell (by exact hq) _).setCell (by exact hq) _).setCell (by exact hq) _).setCell (by exact hq) _).setCell (by exact hq) _).setCell (by exact hq) _).setCell (by exact hq) _).setCell (by exact hq) _
theorem Gone.far1 {w : World} {g ns k : Nat} {of ix : Nat → Int} {B : Nat → Nat} (h : Gone w g ns k of ix B) {a : Addr} (ha : a.block < g) (v : Value) : Gone (w.setCell a v) g ns k of ix B := by
  obtain ⟨⟨V, hr, hv⟩, hs, hi⟩ := h
  refine ⟨⟨V, hr.far (by omega) v, hv⟩, fun m hm hc => ⟨(hs m hm hc).1, (hs m hm hc).2.same ?_⟩, hi⟩
  have := (hs m hm hc).1
  simp [World.setCell, Array.getElem?_modify, show a.block ≠ B m by omega]
theorem ListIn.belowB {w w' : World} {B : Nat} {P : Nat → Prop} {v : Value} {m : Nat} {is : List Nat} {L : Nat → List Value} (h : ListIn w P v m is L) (hb : Below B w w') (hP : ∀ b, P b → b < B) : ListIn w' P v m is L := by
  obtain ⟨ao, cap, hv, h⟩ := h
  refine ⟨ao, cap, hv, ?_⟩
  rcases h with h | ⟨b, off, ha, hne, hbw, hc⟩
  · exact Or.inl h
  · exact Or.inr ⟨b, off, ha, hne, Nat.lt_of_lt_of_le hbw hb.size, fun p hp j u hu => (hb.cell (by exact hP b hne)).trans (hc p hp j u hu)⟩
theorem ListAt.shape {w : World} {v : Value} {m : Nat} {is : List Nat} {L : Nat → List Value} (h : ListAt w v m is L) : ∃ ao cap, v = .slice ao is.length cap := by
  obtain ⟨ao, cap, hv, _⟩ := h
  exact ⟨ao, cap, hv⟩
theorem cell_three {w : World} {a : Addr} {u : Value} (h : w.cell? a = some u) {b : Nat} (hne : a.block ≠ b) (o : Nat) (x y z : Value) : (((w.setCell ⟨b, o, none⟩ x).setCell ⟨b, o + 1, none⟩ y).setCell ⟨b, o + 2, none⟩ z).cell? a = some u := by
  rw [← three_set]; exact cell_far h hne o _

set_option maxRecDepth 100000 in
set_option maxHeartbeats 8000000 in
theorem leaveW (c gf gr gs nf nr ns np fcap pb n E F Q : Nat) (fa : Option Addr) (b1 b2 b3 : Int) (T : Nat → ByteArray) (S : Nat → Scn) (PB : Nat → Nat) (fo of ix : Nat → Int) (over : Bool) (w : World)
    (hc : Row w c 14 (fun m => (ccL (.slice (some ⟨gf, 0, none⟩) nf nf) (.slice (some ⟨gr, 0, none⟩) nr nr) (.slice (some ⟨gs, 0, none⟩) ns ns) b1 b2 b3 (.slice fa nf fcap) (.slice (some ⟨pb, 0, none⟩) np np)).getD m (.bool false)))
    (hf : ElemsTo w gf nf 12 nf (fun j => factL (T j))) (hs : ScTo w gs ns ns S PB) (hfo : CellsAt w fa nf (fun j => .int .i64 (fo j))) (hpo : PairsAt w (some ⟨pb, 0, none⟩) np of ix)
    (hfc : nf ≤ fcap) (hin : ∀ p < nf, 0 ≤ fo p ∧ fo p < nf) (hone : ∀ p < nf, ∀ q < p, fo q ≠ fo p) (lf : nf ≤ 1048576) (lr : nr ≤ 1048576) (x1 : 0 ≤ b1) (x2 : b1 ≤ 1073741824) (x3 : 0 ≤ b2) (x4 : b2 ≤ 1073741824) (x5 : 0 ≤ b3) (x6 : b3 ≤ 1073741824) (n1 : (n : Int) ≤ 1099511627776) (lns : ns ≤ 1048576) (lpl : ∀ j < ns, (S j).pl ≤ 1048576) (lnp : np ≤ 1048576)
    (hpi : ∀ p < np, 0 ≤ of p ∧ of p < ns ∧ 0 ≤ ix p ∧ ix p < (S (of p).toNat).pl) (hp1 : ∀ p < np, ∀ q < p, ¬ (of q = of p ∧ ix q = ix p)) (hQ : Q ≤ np)
    (hE : ((n : Int) ≤ nr ∧ (E : Int) = n ∧ (F : Int) = 0 ∧ (Q : Int) = 0) ∨ ((nr : Int) < n ∧ (n : Int) ≤ (nr : Int) + nf ∧ (E : Int) = nr ∧ (F : Int) = n - nr ∧ (Q : Int) = 0) ∨ ((nr : Int) + nf < n ∧ (E : Int) = nr ∧ (F : Int) = nf ∧ (Q : Int) = n - nr - nf)) :
    Calls Try.prog 21 #[.pointer (some ⟨c, 0, none⟩), .int .i64 n, .bool over] w (HeldAns (Old gf gs ns PB w.heap.size) gr nr nf ns E F Q b1 b2 b3 T S fo of ix w) := by
  have hlt := hc.lt
  have c0 : w.cell? ⟨c, 0, none⟩ = some (.string ByteArray.empty) := hc.val 0 (by omega)
  have c1 : w.cell? ⟨c, 1, none⟩ = some (.string { data := #[] }) := hc.val 1 (by omega)
  have c2 : w.cell? ⟨c, 2, none⟩ = some (.string { data := #[] }) := hc.val 2 (by omega)
  have c3 : w.cell? ⟨c, 3, none⟩ = some (.map none) := hc.val 3 (by omega)
  have c4 : w.cell? ⟨c, 4, none⟩ = some (.slice (some ⟨gf, 0, none⟩) nf nf) := hc.val 4 (by omega)
  have c5 : w.cell? ⟨c, 5, none⟩ = some (.slice (some ⟨gr, 0, none⟩) nr nr) := hc.val 5 (by omega)
  have c6 : w.cell? ⟨c, 6, none⟩ = some (.slice (some ⟨gs, 0, none⟩) ns ns) := hc.val 6 (by omega)
  have c7 : w.cell? ⟨c, 7, none⟩ = some (.pointer none) := hc.val 7 (by omega)
  have c8 : w.cell? ⟨c, 8, none⟩ = some (.bool false) := hc.val 8 (by omega)
  have c9 : w.cell? ⟨c, 9, none⟩ = some (.int .i64 b1) := hc.val 9 (by omega)
  have c10 : w.cell? ⟨c, 10, none⟩ = some (.int .i64 b2) := hc.val 10 (by omega)
  have c11 : w.cell? ⟨c, 11, none⟩ = some (.int .i64 b3) := hc.val 11 (by omega)
  have c12 : w.cell? ⟨c, 12, none⟩ = some (.slice fa nf fcap) := hc.val 12 (by omega)
  have c13 : w.cell? ⟨c, 13, none⟩ = some (.slice (some ⟨pb, 0, none⟩) np np) := hc.val 13 (by omega)
  have HC : Hid _ := hc
  have HF : Hid (ElemsTo w gf nf 12 nf (fun j => factL (T j))) := hf
  have HS : Hid (ScTo w gs ns ns S PB) := hs
  have HO : Hid (CellsAt w fa nf (fun j => .int .i64 (fo j))) := hfo
  have HP : Hid (PairsAt w (some ⟨pb, 0, none⟩) np of ix) := hpo
  have HE : Hid _ := hE
  have HPI : Hid (∀ p < np, 0 ≤ of p ∧ of p < ns ∧ 0 ≤ ix p ∧ ix p < (S (of p).toNat).pl) := hpi
  have HP1 : Hid (∀ p < np, ∀ q < p, ¬ (of q = of p ∧ ix q = ix p)) := hp1
  have HLP : Hid (∀ j < ns, (S j).pl ≤ 1048576) := lpl
  clear hpi hp1 lpl
  have HIN : Hid (∀ p < nf, 0 ≤ fo p ∧ fo p < nf) := hin
  have HONE : Hid (∀ p < nf, ∀ q < p, fo q ≠ fo p) := hone
  clear hin hone
  clear hc hf hs hfo hpo hE
  go_enter Try.func21, Try.ntmps21
  go_wp2_with fail
  have lfI : (nf : Int) ≤ 1048576 := by omega
  have lrI : (nr : Int) ≤ 1048576 := by omega
  refine (leftW c (some ⟨gf, 0, none⟩) (some ⟨gr, 0, none⟩) nf nr nf nr b1 b2 b3 n E F Q _ ?_ ?_ ?_ ?_ ?_ ?_ lfI lrI x1 x2 x3 x4 x5 x6 (by omega) n1 HE.out).mono ?_
  · simp only [World.size_alloc]; omega
  · rw [World.cell?_alloc_past _ _ _ (by simp only [World.size_alloc]; omega), World.cell?_alloc_past _ _ _ hlt]; exact c4
  · rw [World.cell?_alloc_past _ _ _ (by simp only [World.size_alloc]; omega), World.cell?_alloc_past _ _ _ hlt]; exact c5
  · rw [World.cell?_alloc_past _ _ _ (by simp only [World.size_alloc]; omega), World.cell?_alloc_past _ _ _ hlt]; exact c9
  · rw [World.cell?_alloc_past _ _ _ (by simp only [World.size_alloc]; omega), World.cell?_alloc_past _ _ _ hlt]; exact c10
  · rw [World.cell?_alloc_past _ _ _ (by simp only [World.size_alloc]; omega), World.cell?_alloc_past _ _ _ hlt]; exact c11
  rintro e w1 ⟨rfl, hb1⟩
  simp only [World.size_alloc] at hb1
  have hsz : w.heap.size + 2 ≤ w1.heap.size := by have := hb1.size; simpa using this
  have R0 : Hid (Row w1 w.heap.size 9 (fun m => [.string { data := #[] }, .string { data := #[] }, .string { data := #[] }, .map none, .slice none 0 0, .slice none 0 0, .slice none 0 0, .pointer none, .bool false].getD m (.bool false))) :=
    ((Row.here w [_, _, _, _, _, _, _, _, _] 38).alloc _).below hb1 (by omega)
  have R1 : Hid (Row w1 (w.heap.size + 1) 9 (fun m => (cL (.slice (some ⟨gf, 0, none⟩) nf nf) (.slice (some ⟨gr, 0, none⟩) nr nr) (.slice (some ⟨gs, 0, none⟩) ns ns)).getD m (.bool false))) := by
    have h := Row.here (w.alloc (.cells [.string { data := #[] }, .string { data := #[] }, .string { data := #[] }, .map none, .slice none 0 0, .slice none 0 0, .slice none 0 0, .pointer none, .bool false].toArray 38)) (cL (.slice (some ⟨gf, 0, none⟩) nf nf) (.slice (some ⟨gr, 0, none⟩) nr nr) (.slice (some ⟨gs, 0, none⟩) ns ns)) 38
    rw [World.size_alloc] at h
    exact h.below hb1 (by omega)
  have B1 : Hid (Below w.heap.size w w1) := (((Below.refl w.heap.size w).alloc (Nat.le_refl _) _).alloc (by simp) _).trans (hb1.mono (by omega))
  clear c0 c1 c2 c3 c4 c5 c6 c7 c8 hb1
  have k9 := (B1.out.cell (by exact hlt)).trans c9
  have k10 := (B1.out.cell (by exact hlt)).trans c10
  have k11 := (B1.out.cell (by exact hlt)).trans c11
  have k12 := (B1.out.cell (by exact hlt)).trans c12
  have k13 := (B1.out.cell (by exact hlt)).trans c13
  have d0 : w1.cell? ⟨w.heap.size + 1, 0, none⟩ = some (.string ByteArray.empty) := R1.out.val 0 (by omega)
  have d1 : w1.cell? ⟨w.heap.size + 1, 1, none⟩ = some (.string { data := #[] }) := R1.out.val 1 (by omega)
  have d2 : w1.cell? ⟨w.heap.size + 1, 2, none⟩ = some (.string { data := #[] }) := R1.out.val 2 (by omega)
  have d3 : w1.cell? ⟨w.heap.size + 1, 3, none⟩ = some (.map none) := R1.out.val 3 (by omega)
  have d4 : w1.cell? ⟨w.heap.size + 1, 4, none⟩ = some (.slice (some ⟨gf, 0, none⟩) nf nf) := R1.out.val 4 (by omega)
  have d5 : w1.cell? ⟨w.heap.size + 1, 5, none⟩ = some (.slice (some ⟨gr, 0, none⟩) nr nr) := R1.out.val 5 (by omega)
  have d6 : w1.cell? ⟨w.heap.size + 1, 6, none⟩ = some (.slice (some ⟨gs, 0, none⟩) ns ns) := R1.out.val 6 (by omega)
  have d7 : w1.cell? ⟨w.heap.size + 1, 7, none⟩ = some (.pointer none) := R1.out.val 7 (by omega)
  have d8 : w1.cell? ⟨w.heap.size + 1, 8, none⟩ = some (.bool false) := R1.out.val 8 (by omega)
  clear c9 c10 c11 c12 c13
  have l1 : c < w1.heap.size := by omega
  have l2 : w.heap.size + 1 < w1.heap.size := by omega
  have hE' : Hid (0 ≤ (E : Int) ∧ (E : Int) ≤ nr ∧ 0 ≤ (F : Int) ∧ (F : Int) ≤ nf ∧ 0 ≤ (Q : Int) ∧ (Q : Int) ≤ 1099511627776) := by
    have := HE.out
    refine ⟨?_, ?_, ?_, ?_, ?_, ?_⟩ <;> omega
  obtain ⟨q1, q2, q3, q4, q5, q6⟩ := hE'.out
  have s1 : b1 + E - b1 = E := by omega
  have s2 : b2 + F - b2 = F := by omega
  have s3 : b3 + Q - b3 = Q := by omega
  go_wp2
  go_region
  go_wp2
  go_region
  go_wp2
  go_region
  go_wp2
  obtain ⟨w2, hw2⟩ : ∃ w2, w2 = ((w1.alloc (.cells #[.int .i64 (b1 + E), .int .i64 (b2 + F), .int .i64 (b3 + Q)] 41)).alloc (.cells #[.int .i64 E, .int .i64 F, .int .i64 Q] 41)).drew.drew.drew := ⟨_, rfl⟩
  rw [← hw2]
  have hb2 : Below w1.heap.size w1 w2 := by
    rw [hw2]
    exact (((((Below.refl w1.heap.size w1).alloc (Nat.le_refl _) _).alloc (by simp) _).drew).drew).drew
  have hz2 : w2.heap.size = w1.heap.size + 2 := by rw [hw2]; simp [World.drew]
  have R8 : Hid (Row w2 w1.heap.size 3 (fun m => [.int .i64 (b1 + E), .int .i64 (b2 + F), .int .i64 (b3 + Q)].getD m (.bool false))) := by
    rw [hw2]
    exact (((((Row.here w1 [_, _, _] 41).alloc _).drew).drew).drew)
  have R9 : Hid (Row w2 (w1.heap.size + 1) 3 (fun m => [.int .i64 E, .int .i64 F, .int .i64 Q].getD m (.bool false))) := by
    rw [hw2]
    have h := Row.here (w1.alloc (.cells #[.int .i64 (b1 + E), .int .i64 (b2 + F), .int .i64 (b3 + Q)] 41)) [.int .i64 E, .int .i64 F, .int .i64 Q] 41
    rw [World.size_alloc] at h
    exact h.drew.drew.drew
  have R0' : Hid (Row w2 w.heap.size 9 (fun m => [.string { data := #[] }, .string { data := #[] }, .string { data := #[] }, .map none, .slice none 0 0, .slice none 0 0, .slice none 0 0, .pointer none, .bool false].getD m (.bool false))) := R0.out.below hb2 (by omega)
  have R1' : Hid (Row w2 (w.heap.size + 1) 9 (fun m => (cL (.slice (some ⟨gf, 0, none⟩) nf nf) (.slice (some ⟨gr, 0, none⟩) nr nr) (.slice (some ⟨gs, 0, none⟩) ns ns)).getD m (.bool false))) := R1.out.below hb2 (by omega)
  have B2 : Hid (Below w.heap.size w w2) := B1.out.trans (hb2.mono (by omega))
  clear hw2
  have t0 : w2.cell? ⟨w1.heap.size + 1, 0, none⟩ = some (.int .i64 E) := R9.out.val 0 (by omega)
  have t1 : w2.cell? ⟨w1.heap.size + 1, 1, none⟩ = some (.int .i64 F) := R9.out.val 1 (by omega)
  have j12 := (hb2.cell (by exact l1)).trans k12
  have j0 := (hb2.cell (by exact l2)).trans d0
  have j1 := (hb2.cell (by exact l2)).trans d1
  have j2 := (hb2.cell (by exact l2)).trans d2
  have j3 := (hb2.cell (by exact l2)).trans d3
  have j4 := (hb2.cell (by exact l2)).trans d4
  have j5 := (hb2.cell (by exact l2)).trans d5
  have j6 := (hb2.cell (by exact l2)).trans d6
  clear k9 k10 k11 k12 k13 d0 d1 d2 d3 d4 d5 d6 d7 d8 s1 s2 s3
  have HB2 : Hid _ := hb2
  clear hb2
  go_cut [10] from 14 (fun s10 wc => ∃ hb fv, s10 = .pointer (some ⟨hb, 0, none⟩) ∧ Row wc hb 9 (fun m => (hL fv (recV gr nr E) (.slice (some ⟨gs, 0, none⟩) ns ns) (.pointer (some ⟨w1.heap.size, 0, none⟩)) (.bool false)).getD m (.bool false)) ∧
      ListIn wc (fun b => b ≠ hb ∧ b ≠ w.heap.size ∧ Old gf gs ns PB w.heap.size b) fv 12 (kept (inPre fo F) nf) (fun j => factL (T j)) ∧ Below w2.heap.size w2 wc ∧ w2.heap.size ≤ hb)
  case rest =>
    clear t0 t1 j12 j0 j1 j2 j3 j4 j5 j6
    obtain ⟨hb, fv, hs10, hrow, hlist, hbc, hhb⟩ := hcut
    subst hs10
    obtain ⟨wd, hwd⟩ : ∃ wd, wd = wc := ⟨_, rfl⟩
    subst hwd
    obtain ⟨fao, fcp, hfv, hfl⟩ : ∃ fao fcp, fv = .slice fao (kept (inPre fo F) nf).length fcp ∧ True := by obtain ⟨x, y, h, _⟩ := hlist; exact ⟨x, y, h, trivial⟩
    clear hfl
    obtain ⟨fl, hfl⟩ : ∃ fl, fl = (kept (inPre fo F) nf).length := ⟨_, rfl⟩
    rw [← hfl] at hfv
    subst hfv
    obtain ⟨ro, hro⟩ : ∃ ro, ro = if nr = E then 0 else E * 11 := ⟨_, rfl⟩
    obtain ⟨rl, hrl⟩ : ∃ rl, rl = nr - E := ⟨_, rfl⟩
    have hrec : recV gr nr E = .slice (some ⟨gr, ro, none⟩) rl rl := by rw [hro, hrl]; rfl
    rw [hrec] at hrow
    have HREC : Hid (recV gr nr E = .slice (some ⟨gr, ro, none⟩) rl rl) := hrec
    clear hro hrl hrec hfl
    have HROW : Hid (Row wd hb 9 (fun m => (hL (.slice fao fl fcp) (.slice (some ⟨gr, ro, none⟩) rl rl) (.slice (some ⟨gs, 0, none⟩) ns ns) (.pointer (some ⟨w1.heap.size, 0, none⟩)) (.bool false)).getD m (.bool false))) := hrow
    have HLI : Hid (ListIn wd (fun b => b ≠ hb ∧ b ≠ w.heap.size ∧ Old gf gs ns PB w.heap.size b) (.slice fao fl fcp) 12 (kept (inPre fo F) nf) (fun j => factL (T j))) := hlist
    have HBC : Hid (Below w2.heap.size w2 wd) := hbc
    have HZ2 : Hid (w2.heap.size = w1.heap.size + 2) := hz2
    have hz3 : w2.heap.size ≤ wd.heap.size := hbc.size
    have g2 : wd.cell? ⟨w1.heap.size + 1, 2, none⟩ = some (.int .i64 Q) := (hbc.cell (by show w1.heap.size + 1 < _; omega)).trans (R9.out.val 2 (by omega))
    clear hrow hlist hbc hz2
    go_upto_if 72 with (fail)
    go_cut [] from 14 (fun we => ∃ g, Row we hb 9 (fun m => (hL (.slice fao fl fcp) (.slice (some ⟨gr, ro, none⟩) rl rl) (.slice (some ⟨g, 0, none⟩) ns ns) (.pointer (some ⟨w1.heap.size, 0, none⟩)) (.bool false)).getD m (.bool false)) ∧
        KeptTo we (fun b => b ≠ hb ∧ b ≠ w.heap.size ∧ Old gf gs ns PB w.heap.size b) g ns ns S (fun j => kept (in2 of ix Q j) (S j).pl) ∧ hb ≠ g ∧ w.heap.size ≠ g ∧ (g = gs ∨ w.heap.size ≤ g) ∧ ListIn we (fun b => b ≠ hb ∧ b ≠ w.heap.size ∧ Old gf gs ns PB w.heap.size b) (.slice fao fl fcp) 12 (kept (inPre fo F) nf) (fun j => factL (T j)) ∧ Below w2.heap.size w2 we)
    case rest =>
      clear g2 HROW HLI HBC hz3
      obtain ⟨g, hrow, hkept, hg1, hg2, hg3, hlist, hbc⟩ := hcut
      obtain ⟨we, hwe⟩ : ∃ we, we = wc := ⟨_, rfl⟩
      subst hwe
      have r8 := R8.out.below hbc (by have := HZ2.out; omega)
      have r0 := R0'.out.below hbc (by have := HZ2.out; omega)
      have p0 : we.cell? ⟨w1.heap.size, 0, none⟩ = some (.int .i64 (b1 + E)) := r8.val 0 (by omega)
      have p1 : we.cell? ⟨w1.heap.size, 1, none⟩ = some (.int .i64 (b2 + F)) := r8.val 1 (by omega)
      have p2 : we.cell? ⟨w1.heap.size, 2, none⟩ = some (.int .i64 (b3 + Q)) := r8.val 2 (by omega)
      have y0 : we.cell? ⟨hb, 0, none⟩ = some (.string ByteArray.empty) := hrow.val 0 (by omega)
      have y1 : we.cell? ⟨hb, 1, none⟩ = some (.string { data := #[] }) := hrow.val 1 (by omega)
      have y2 : we.cell? ⟨hb, 2, none⟩ = some (.string { data := #[] }) := hrow.val 2 (by omega)
      have y3 : we.cell? ⟨hb, 3, none⟩ = some (.map none) := hrow.val 3 (by omega)
      have y4 : we.cell? ⟨hb, 4, none⟩ = some (.slice fao fl fcp) := hrow.val 4 (by omega)
      have y5 : we.cell? ⟨hb, 5, none⟩ = some (.slice (some ⟨gr, ro, none⟩) rl rl) := hrow.val 5 (by omega)
      have y6 : we.cell? ⟨hb, 6, none⟩ = some (.slice (some ⟨g, 0, none⟩) ns ns) := hrow.val 6 (by omega)
      have y7 : we.cell? ⟨hb, 7, none⟩ = some (.pointer (some ⟨w1.heap.size, 0, none⟩)) := hrow.val 7 (by omega)
      have y8 : we.cell? ⟨hb, 8, none⟩ = some (.bool false) := hrow.val 8 (by omega)
      have z7 := hrow.open_ 7
      have z8 := hrow.open_ 8
      have x0 : we.cell? ⟨w.heap.size, 0, none⟩ = some (.string { data := #[] }) := r0.val 0 (by omega)
      have x1' : we.cell? ⟨w.heap.size, 1, none⟩ = some (.string { data := #[] }) := r0.val 1 (by omega)
      have x2' : we.cell? ⟨w.heap.size, 2, none⟩ = some (.string { data := #[] }) := r0.val 2 (by omega)
      have x3' : we.cell? ⟨w.heap.size, 3, none⟩ = some (.map none) := r0.val 3 (by omega)
      have x4' : we.cell? ⟨w.heap.size, 4, none⟩ = some (.slice none 0 0) := r0.val 4 (by omega)
      have x5' : we.cell? ⟨w.heap.size, 5, none⟩ = some (.slice none 0 0) := r0.val 5 (by omega)
      have x6' : we.cell? ⟨w.heap.size, 6, none⟩ = some (.slice none 0 0) := r0.val 6 (by omega)
      have x7' : we.cell? ⟨w.heap.size, 7, none⟩ = some (.pointer none) := r0.val 7 (by omega)
      have x8' : we.cell? ⟨w.heap.size, 8, none⟩ = some (.bool false) := r0.val 8 (by omega)
      have o0 := r0.open_ 0
      have o1 := r0.open_ 1
      have o2 := r0.open_ 2
      have o3 := r0.open_ 3
      have o4 := r0.open_ 4
      have o5 := r0.open_ 5
      have o6 := r0.open_ 6
      have o7 := r0.open_ 7
      have o8 := r0.open_ 8
      have ne1 : w.heap.size ≠ hb := by have := HZ2.out; omega
      have ne2 : hb ≠ w.heap.size := by omega
      have ne3 : w1.heap.size ≠ hb := by have := HZ2.out; omega
      have HALL : Hid (Row we hb 9 (fun m => (hL (.slice fao fl fcp) (.slice (some ⟨gr, ro, none⟩) rl rl) (.slice (some ⟨g, 0, none⟩) ns ns) (.pointer (some ⟨w1.heap.size, 0, none⟩)) (.bool false)).getD m (.bool false)) ∧ Row we w1.heap.size 3 (fun m => [Value.int .i64 (b1 + E), .int .i64 (b2 + F), .int .i64 (b3 + Q)].getD m (.bool false)) ∧ (∃ V, Row we w.heap.size 9 V) ∧
         KeptTo we (fun b => b ≠ hb ∧ b ≠ w.heap.size ∧ Old gf gs ns PB w.heap.size b) g ns ns S (fun j => kept (in2 of ix Q j) (S j).pl) ∧ ListIn we (fun b => b ≠ hb ∧ b ≠ w.heap.size ∧ Old gf gs ns PB w.heap.size b) (.slice fao fl fcp) 12 (kept (inPre fo F) nf) (fun j => factL (T j)) ∧ Below w.heap.size w we) :=
        ⟨hrow, r8, ⟨_, r0⟩, hkept, hlist, B2.out.trans (hbc.mono (by have := HZ2.out; omega))⟩
      clear hrow r8 r0 hkept hlist hbc
      by_cases hz : b1 + (E : Int) = 0 ∧ b2 + (F : Int) = 0 ∧ b3 + (Q : Int) = 0
      · obtain ⟨a1, a2, a3⟩ := hz
        rw [a1] at p0
        rw [a2] at p1
        rw [a3] at p2
        have HA : Hid (b1 + (E : Int) = 0 ∧ b2 + (F : Int) = 0 ∧ b3 + (Q : Int) = 0) := ⟨a1, a2, a3⟩
        clear a1 a2 a3
        cases over
        · go_wp2
          obtain ⟨hR, h8, hV, hK, hLi, hB⟩ := HALL.out
          refine bodyPost_ret (v := .agg (hL (.slice fao fl fcp) (.slice (some ⟨gr, ro, none⟩) rl rl) (.slice (some ⟨g, 0, none⟩) ns ns) (.pointer none) (.bool false)).toArray) ?_ rfl ?_
          · refine results_cell1 Try.results21 _ rfl (run_loadVar_mid _ _ _ 38 (hL (.slice fao fl fcp) (.slice (some ⟨gr, ro, none⟩) rl rl) (.slice (some ⟨g, 0, none⟩) ns ns) (.pointer none) (.bool false)) _ ?_ Try.underlying38 rfl (by kernel_rfl))
            have := World.rangeAt_setCells_same ((we.setCell ⟨hb, 7, none⟩ (.pointer none)).setCell ⟨hb, 8, none⟩ (.bool false)) w.heap.size 0 (hL (.slice fao fl fcp) (.slice (some ⟨gr, ro, none⟩) rl rl) (.slice (some ⟨g, 0, none⟩) ns ns) (.pointer none) (.bool false)) (by
              obtain ⟨V, hV⟩ := hV
              exact ((hV.far (by exact ne2) _).far (by exact ne2) _ : Row _ w.heap.size 9 V).there (by simp [hL]))
            rw [hL_set] at this
            exact this
          · rw [← hL_set]
            refine heldEnd ((hK.far (b := hb) (fun h => h.1 rfl) hg1 7 [_]).far (b := hb) (fun h => h.1 rfl) hg1 8 [_]) ((hLi.far (g := hb) (fun h => h.1 rfl) 7 [_]).far (g := hb) (fun h => h.1 rfl) 8 [_]) (Or.inl ⟨rfl, HA.out⟩) (fun _ h => by cases h)  HREC.out ?_ hg2 hg3
            exact ((hB.setCell (by show w.heap.size ≤ hb; have := HZ2.out; omega) _).setCell (by show w.heap.size ≤ hb; have := HZ2.out; omega) _)
        · go_wp2
          obtain ⟨hR, h8, hV, hK, hLi, hB⟩ := HALL.out
          refine bodyPost_ret (v := .agg (hL (.slice fao fl fcp) (.slice (some ⟨gr, ro, none⟩) rl rl) (.slice (some ⟨g, 0, none⟩) ns ns) (.pointer none) (.bool false)).toArray) ?_ rfl ?_
          · refine results_cell1 Try.results21 _ rfl (run_loadVar_mid _ _ _ 38 (hL (.slice fao fl fcp) (.slice (some ⟨gr, ro, none⟩) rl rl) (.slice (some ⟨g, 0, none⟩) ns ns) (.pointer none) (.bool false)) _ ?_ Try.underlying38 rfl (by kernel_rfl))
            have := World.rangeAt_setCells_same ((we.setCell ⟨hb, 7, none⟩ (.pointer none)).setCell ⟨hb, 8, none⟩ (.bool false)) w.heap.size 0 (hL (.slice fao fl fcp) (.slice (some ⟨gr, ro, none⟩) rl rl) (.slice (some ⟨g, 0, none⟩) ns ns) (.pointer none) (.bool false)) (by
              obtain ⟨V, hV⟩ := hV
              exact ((hV.far (by exact ne2) _).far (by exact ne2) _ : Row _ w.heap.size 9 V).there (by simp [hL]))
            rw [hL_set] at this
            exact this
          · rw [← hL_set]
            refine heldEnd ((hK.far (b := hb) (fun h => h.1 rfl) hg1 7 [_]).far (b := hb) (fun h => h.1 rfl) hg1 8 [_]) ((hLi.far (g := hb) (fun h => h.1 rfl) 7 [_]).far (g := hb) (fun h => h.1 rfl) 8 [_]) (Or.inl ⟨rfl, HA.out⟩) (fun _ h => by cases h)  HREC.out ?_ hg2 hg3
            exact ((hB.setCell (by show w.heap.size ≤ hb; have := HZ2.out; omega) _).setCell (by show w.heap.size ≤ hb; have := HZ2.out; omega) _)
      · have HA : Hid (¬ (b1 + (E : Int) = 0 ∧ b2 + (F : Int) = 0 ∧ b3 + (Q : Int) = 0)) := hz
        have ne2' : hb ≠ w1.heap.size := by omega
        clear hz
        cases over
        · go_wp2
          all_goals try exact absurd ⟨by assumption, by assumption, by assumption⟩ HA.out
          all_goals
            obtain ⟨hR, h8, hV, hK, hLi, hB⟩ := HALL.out
            refine bodyPost_ret (v := .agg (hL (.slice fao fl fcp) (.slice (some ⟨gr, ro, none⟩) rl rl) (.slice (some ⟨g, 0, none⟩) ns ns) (.pointer (some ⟨w1.heap.size, 0, none⟩)) (.bool false)).toArray) ?_ rfl ?_
            · refine results_cell1 Try.results21 _ rfl (run_loadVar_mid _ _ _ 38 (hL (.slice fao fl fcp) (.slice (some ⟨gr, ro, none⟩) rl rl) (.slice (some ⟨g, 0, none⟩) ns ns) (.pointer (some ⟨w1.heap.size, 0, none⟩)) (.bool false)) _ ?_ Try.underlying38 rfl (by kernel_rfl))
              have := World.rangeAt_setCells_same (we.setCell ⟨hb, 8, none⟩ (.bool false)) w.heap.size 0 (hL (.slice fao fl fcp) (.slice (some ⟨gr, ro, none⟩) rl rl) (.slice (some ⟨g, 0, none⟩) ns ns) (.pointer (some ⟨w1.heap.size, 0, none⟩)) (.bool false)) (by
                obtain ⟨V, hV⟩ := hV
                exact (hV.far (by exact ne2) _ : Row _ w.heap.size 9 V).there (by simp [hL]))
              rw [hL_set] at this
              exact this
            · rw [← hL_set]
              refine heldEnd (hK.far (b := hb) (fun h => h.1 rfl) hg1 8 [_]) (hLi.far (g := hb) (fun h => h.1 rfl) 8 [_]) (Or.inr ⟨w1.heap.size, rfl, h8.far (by exact ne2') _, HA.out⟩) (fun o h => by cases h; omega)  HREC.out ?_ hg2 hg3
              exact (hB.setCell (by show w.heap.size ≤ hb; have := HZ2.out; omega) _)
        · go_wp2
          all_goals try exact absurd ⟨by assumption, by assumption, by assumption⟩ HA.out
          all_goals
            obtain ⟨hR, h8, hV, hK, hLi, hB⟩ := HALL.out
            refine bodyPost_ret (v := .agg (hL (.slice fao fl fcp) (.slice (some ⟨gr, ro, none⟩) rl rl) (.slice (some ⟨g, 0, none⟩) ns ns) (.pointer (some ⟨w1.heap.size, 0, none⟩)) (.bool true)).toArray) ?_ rfl ?_
            · refine results_cell1 Try.results21 _ rfl (run_loadVar_mid _ _ _ 38 (hL (.slice fao fl fcp) (.slice (some ⟨gr, ro, none⟩) rl rl) (.slice (some ⟨g, 0, none⟩) ns ns) (.pointer (some ⟨w1.heap.size, 0, none⟩)) (.bool true)) _ ?_ Try.underlying38 rfl (by kernel_rfl))
              have := World.rangeAt_setCells_same (we.setCell ⟨hb, 8, none⟩ (.bool true)) w.heap.size 0 (hL (.slice fao fl fcp) (.slice (some ⟨gr, ro, none⟩) rl rl) (.slice (some ⟨g, 0, none⟩) ns ns) (.pointer (some ⟨w1.heap.size, 0, none⟩)) (.bool true)) (by
                obtain ⟨V, hV⟩ := hV
                exact (hV.far (by exact ne2) _ : Row _ w.heap.size 9 V).there (by simp [hL]))
              rw [hL_set] at this
              exact this
            · rw [← hL_set]
              refine heldEnd (hK.far (b := hb) (fun h => h.1 rfl) hg1 8 [_]) (hLi.far (g := hb) (fun h => h.1 rfl) 8 [_]) (Or.inr ⟨w1.heap.size, rfl, h8.far (by exact ne2') _, HA.out⟩) (fun o h => by cases h; omega)  HREC.out ?_ hg2 hg3
              exact (hB.setCell (by show w.heap.size ≤ hb; have := HZ2.out; omega) _)
    case first =>
      by_cases hQ0 : Q = 0
      · have hq0 : ¬ (0 < (Q : Int)) := by omega
        have HQ0 : Hid (Q = 0) := hQ0
        clear hQ0
        go_wp2
        go_meet
        case rel =>
          refine ⟨gs, HROW.out, ?_, ?_, ?_, Or.inl rfl, HLI.out, HBC.out⟩
          · rw [HQ0.out]
            exact ((HS.out.keptAll of ix).mono (fun b h1 h2 => ⟨by have := HZ2.out; omega, by omega, Or.inr (Or.inr (Or.inl h1.1))⟩)).below (B2.out.trans (HBC.out.mono (by have := HZ2.out; omega)))
          · have := HZ2.out; have : gs < w.heap.size := by obtain ⟨⟨V, hr, _⟩, _⟩ := HS.out; exact hr.lt
            omega
          · have : gs < w.heap.size := by obtain ⟨⟨V, hr, _⟩, _⟩ := HS.out; exact hr.lt
            omega
      · have hq0 : 0 < (Q : Int) := by omega
        have hQn : (Q : Int) ≤ np := by omega
        have BD : Hid (Below w.heap.size w wd) := B2.out.trans (HBC.out.mono (by have := HZ2.out; omega))
        have m2 : c < wd.heap.size := by have := BD.out.size; omega
        have m3 : w.heap.size + 1 < wd.heap.size := by have := HZ2.out; omega
        have m1 : w1.heap.size + 1 < wd.heap.size := by have := HZ2.out; omega
        have c13 : wd.cell? ⟨c, 13, none⟩ = some (.slice (some ⟨pb, 0, none⟩) np np) := (BD.out.cell (by exact hlt)).trans (HC.out.val 13 (by omega))
        have e6 : wd.cell? ⟨w.heap.size + 1, 6, none⟩ = some (.slice (some ⟨gs, 0, none⟩) ns ns) := (HBC.out.cell (by show w.heap.size + 1 < _; have := HZ2.out; omega)).trans (R1'.out.val 6 (by omega))
        have SK : ∀ W, Below wd.heap.size wd W → (fun W => Below wd.heap.size wd W ∧ W.cell? ⟨w1.heap.size + 1, 2, none⟩ = some (.int .i64 Q) ∧ W.cell? ⟨c, 13, none⟩ = some (.slice (some ⟨pb, 0, none⟩) np np) ∧ W.cell? ⟨w.heap.size + 1, 6, none⟩ = some (.slice (some ⟨gs, 0, none⟩) ns ns)) W := fun W hb =>
          ⟨hb, (hb.cell (by exact m1)).trans g2, (hb.cell (by exact m2)).trans c13, (hb.cell (by exact m3)).trans e6⟩
        have SB : ∀ W, (fun W => Below wd.heap.size wd W ∧ W.cell? ⟨w1.heap.size + 1, 2, none⟩ = some (.int .i64 Q) ∧ W.cell? ⟨c, 13, none⟩ = some (.slice (some ⟨pb, 0, none⟩) np np) ∧ W.cell? ⟨w.heap.size + 1, 6, none⟩ = some (.slice (some ⟨gs, 0, none⟩) ns ns)) W → Below wd.heap.size wd W := fun W h => h.1
        have PK : ∀ W, Below wd.heap.size wd W → PairsAt W (some ⟨pb, 0, none⟩) Q of ix := fun W hb => by
          rcases (HP.out.below (BD.out.trans (hb.mono BD.out.size))) with h | ⟨b, off, ha, hbw, hc⟩
          · exact Or.inl (by omega)
          · exact Or.inr ⟨b, off, ha, hbw, fun j hj => hc j (by omega)⟩
        have HSK : Hid _ := SK
        have HSB : Hid _ := SB
        have HPK : Hid _ := PK
        have HG1 : Hid (∀ p < Q, 0 ≤ of p ∧ of p < ns ∧ 0 ≤ ix p ∧ ix p ≤ 1048576) := fun p hp => by
          obtain ⟨a1, a2, a3, a4⟩ := HPI.out p (by omega)
          have := HLP.out (of p).toNat (by omega)
          exact ⟨a1, a2, a3, by omega⟩
        have HG2 : Hid (∀ p < Q, ∀ p' < p, ¬ (of p' = of p ∧ ix p' = ix p)) := fun p hp => HP1.out p (by omega)
        have hQ1 : Q ≤ 1048576 := by omega
        clear SK SB PK
        go_wp2
        go_region_held3 (fun W => Below wd.heap.size wd W ∧ W.cell? ⟨w1.heap.size + 1, 2, none⟩ = some (.int .i64 Q) ∧ W.cell? ⟨c, 13, none⟩ = some (.slice (some ⟨pb, 0, none⟩) np np) ∧ W.cell? ⟨w.heap.size + 1, 6, none⟩ = some (.slice (some ⟨gs, 0, none⟩) ns ns)) (first
          | with_reducible exact HSK.out _ (Below.refl _ _).drew
          | with_reducible exact HSK.out _ (keepB (HSB.out _ (by assumption)) (Nat.le_refl _) hbg)
          | fail) (first
          | (go_at_call 26; refine (goneW (some ⟨pb, 0, none⟩) Q np ns of ix _ (HPK.out _ (HSB.out _ (by assumption))) hQ1 lns HG1.out HG2.out).mono ?_; rintro e w3 ⟨rfl, hgone, hbg⟩; have HGO : Hid _ := hgone; clear hgone))
        have HBG : Hid (Below wd.heap.size wd w3) := (Below.refl wd.heap.size wd).drew.trans hbg
        clear hbg
        clear g2 c13 e6
        have z3 : wd.heap.size ≤ w3.heap.size := HBG.out.size
        have r9 := HROW.out.below HBG.out HROW.out.lt
        have v6 : w3.cell? ⟨hb, 6, none⟩ = some (.slice (some ⟨gs, 0, none⟩) ns ns) := r9.val 6 (by omega)
        have f6 := r9.open_ 6
        have e6 : w3.cell? ⟨w.heap.size + 1, 6, none⟩ = some (.slice (some ⟨gs, 0, none⟩) ns ns) := (HBG.out.cell (by exact m3)).trans ((HBC.out.cell (by show w.heap.size + 1 < _; have := HZ2.out; omega)).trans (R1'.out.val 6 (by omega)))
        have hbl3 : hb < w3.heap.size := r9.lt
        have z3' : w2.heap.size ≤ w3.heap.size := by omega
        have m4 : w.heap.size + 1 < w3.heap.size := by omega
        have ne1 : w.heap.size + 1 ≠ hb := by have := HZ2.out; omega
        have HR9 : Hid (Row w3 hb 9 (fun m => (hL (.slice fao fl fcp) (.slice (some ⟨gr, ro, none⟩) rl rl) (.slice (some ⟨gs, 0, none⟩) ns ns) (.pointer (some ⟨w1.heap.size, 0, none⟩)) (.bool false)).getD m (.bool false))) := r9
        clear r9
        have hmk := make35 ns lns
        go_wp2
        clear hmk v6 f6 e6
        have hgw : gs < w.heap.size := by obtain ⟨⟨V, hr, _⟩, _⟩ := HS.out; exact hr.lt
        obtain ⟨w4, hw4⟩ : ∃ w4, w4 = ((w3.setCell ⟨hb, 6, none⟩ (.slice (some ⟨w3.heap.size, 0, none⟩) ns ns)).alloc (.cells (madeCells #[.string { data := #[] }, .string { data := #[] }, .slice none 0 0] (ns * 3)) 65)) := ⟨_, rfl⟩
        rw [← hw4]
        have hz4 : w4.heap.size = w3.heap.size + 1 := by rw [hw4]; simp
        have HR4 : Hid (Row w4 hb 9 (fun m => (hL (.slice fao fl fcp) (.slice (some ⟨gr, ro, none⟩) rl rl) (.slice (some ⟨w3.heap.size, 0, none⟩) ns ns) (.pointer (some ⟨w1.heap.size, 0, none⟩)) (.bool false)).getD m (.bool false))) := by
          rw [hw4]
          refine ((HR9.out.put (m := 6) (by omega) _).ext (fun m hm => ?_)).alloc _
          rcases m with _ | _ | _ | _ | _ | _ | _ | _ | _ | m <;> first | rfl | omega
        have HK4 : Hid (KeptTo w4 (fun b => (b ≠ hb ∧ b ≠ w.heap.size ∧ Old gf gs ns PB w.heap.size b) ∧ b ≠ w3.heap.size) w3.heap.size ns 0 S (fun j => kept (in2 of ix Q j) (S j).pl)) := by
          have := KeptTo.made (w3.setCell ⟨hb, 6, none⟩ (.slice (some ⟨w3.heap.size, 0, none⟩) ns ns)) (fun b => (b ≠ hb ∧ b ≠ w.heap.size ∧ Old gf gs ns PB w.heap.size b) ∧ b ≠ w3.heap.size) #[.string { data := #[] }, .string { data := #[] }, .slice none 0 0] ns 65 S (fun j => kept (in2 of ix Q j) (S j).pl)
          rw [World.size_setCell] at this
          rw [hw4]
          exact this
        have HL4 : Hid (ListIn w4 (fun b => (b ≠ hb ∧ b ≠ w.heap.size ∧ Old gf gs ns PB w.heap.size b) ∧ b < w3.heap.size) (.slice fao fl fcp) 12 (kept (inPre fo F) nf) (fun j => factL (T j))) := by
          rw [hw4]
          exact (((HLI.out.below HBG.out).mono (P' := fun b => (b ≠ hb ∧ b ≠ w.heap.size ∧ Old gf gs ns PB w.heap.size b) ∧ b < w3.heap.size) (fun b h h2 => ⟨h, h2⟩)).far (g := hb) (fun h => h.1.1 rfl) 6 [_]).below ((Below.refl _ _).alloc (Nat.le_refl _) _)
        have HB4 : Hid (Below w2.heap.size w2 w4) := by
          rw [hw4]
          exact ((HBC.out.trans (HBG.out.mono hz3)).setCell (by exact hhb) _).alloc (by rw [World.size_setCell]; omega) _
        have hbd : hb < wd.heap.size := HROW.out.lt
        have HG4 : Hid (∃ B, Gone w4 wd.heap.size ns Q of ix B ∧ ∀ m < ns, 0 < cnt2 of Q m → B m < w3.heap.size) := by
          rw [hw4]
          obtain ⟨B, h⟩ := HGO.out
          exact ⟨B, ((h : Gone w3 wd.heap.size ns Q of ix B).far1 (a := ⟨hb, 6, none⟩) hbd _).below ((Below.refl _ _).alloc (Nat.le_refl _) _), fun m hm hc => (h.sets m hm hc).2.lt⟩
        have hwd3 : wd.heap.size < w3.heap.size := by obtain ⟨B, h⟩ := HGO.out; obtain ⟨V, hr, _⟩ := h.row; exact hr.lt
        clear hw4 HR9 HGO
        go_loopw [92] (fun i wr => ∃ k : Nat, k ≤ ns ∧ i = .int .i64 k ∧ KeptTo wr (fun b => (b ≠ hb ∧ b ≠ w.heap.size ∧ Old gf gs ns PB w.heap.size b) ∧ b ≠ w3.heap.size) w3.heap.size ns k S (fun j => kept (in2 of ix Q j) (S j).pl) ∧ Below w3.heap.size w4 wr) (fun i _ => ns - (intOf i).toNat)
        case atStart => exact ⟨0, by omega, rfl, HK4.out, Below.refl _ _⟩
        case round =>
          obtain ⟨k, hk, rfl, hkt, hbk⟩ := hrel
          have HKT : Hid (KeptTo wr (fun b => (b ≠ hb ∧ b ≠ w.heap.size ∧ Old gf gs ns PB w.heap.size b) ∧ b ≠ w3.heap.size) w3.heap.size ns k S (fun j => kept (in2 of ix Q j) (S j).pl)) := hkt
          have HBK : Hid (Below w3.heap.size w4 wr) := hbk
          have z5 : w3.heap.size + 1 ≤ wr.heap.size := by have := hbk.size; omega
          clear hkt hbk
          by_cases hlt2 : k < ns
          · have hlti : (k : Int) < ns := by omega
            have BW : Hid (Below w.heap.size w wr) := B2.out.trans ((HB4.out.trans (HBK.out.mono z3')).mono (by have := HZ2.out; omega))
            obtain ⟨⟨SV, sr, sv⟩, sp⟩ := HS.out
            obtain ⟨sv0, sv1, sv2⟩ := sv k hlt2
            have t0 : wr.cell? ⟨gs, k * 3, none⟩ = some (.string (S k).id) := (BW.out.cell (by exact hgw)).trans (by rw [← sv0]; exact sr.val _ (by omega))
            have t1 : wr.cell? ⟨gs, k * 3 + 1, none⟩ = some (.string (S k).name) := (BW.out.cell (by exact hgw)).trans (by rw [← sv1]; exact sr.val _ (by omega))
            have t2 : wr.cell? ⟨gs, k * 3 + 2, none⟩ = some (.slice (some ⟨PB k, 0, none⟩) (S k).pl (S k).pl) := (BW.out.cell (by exact hgw)).trans (by rw [← sv2]; exact sr.val _ (by omega))
            obtain ⟨sp1, sp2, sp3⟩ := sp k hlt2
            have HEL : Hid (ElemsTo wr (PB k) (S k).pl 3 (S k).pl (refL (S k).ref)) := sp3.below BW.out sp2
            clear sv0 sv1 sv2 sp3 sr sv sp
            have hgr : gs < wr.heap.size := by have := BW.out.size; omega
            have h6 : wr.cell? ⟨hb, 6, none⟩ = some (.slice (some ⟨w3.heap.size, 0, none⟩) ns ns) := (HR4.out.below HBK.out hbl3).val 6 (by omega)
            have hbr : hb < wr.heap.size := by omega
            have hwdr : wd.heap.size < wr.heap.size := by omega
            obtain ⟨KV, kr, _⟩ := HKT.out
            obtain ⟨u0, e0⟩ : ∃ u, KV (k * 3) = u := ⟨_, rfl⟩
            obtain ⟨u1, e1⟩ : ∃ u, KV (k * 3 + 1) = u := ⟨_, rfl⟩
            obtain ⟨u2, e2⟩ : ∃ u, KV (k * 3 + 2) = u := ⟨_, rfl⟩
            have HKR : Hid _ := kr
            have HE0 : Hid _ := e0
            have HE1 : Hid _ := e1
            have HE2 : Hid _ := e2
            clear kr e0 e1 e2
            obtain ⟨Bm, hgo, hgb⟩ := HG4.out
            obtain ⟨GV, gw, gv⟩ := hgo.row
            have mk := ((gw.below HBK.out hwd3).val k hlt2)
            by_cases hc0 : cnt2 of Q k = 0
            · skip
              rw [(gv k hlt2).1 hc0] at mk
              have HKE : Hid (kept (in2 of ix Q k) (S k).pl = kept (fun _ => false) (S k).pl) := by
                show kept (in2 of ix Q k) (S k).pl = _
                rw [show in2 of ix Q k = fun _ => false from funext (in2_zero hc0)]
              clear gv gw hc0
              have HPLK : Hid ((S k).pl ≤ 1048576) := HLP.out k hlt2
              clear hgo hgb
              go_wp2
              obtain ⟨wq, hwq⟩ : ∃ wq, wq = wr.alloc (.cells #[.string (S k).id, .string (S k).name, .slice (some ⟨PB k, 0, none⟩) (S k).pl (S k).pl] 65) := ⟨_, rfl⟩
              rw [← hwq]
              have HQR : Hid (Row wq wr.heap.size 3 (fun m => [Value.string (S k).id, .string (S k).name, .slice (some ⟨PB k, 0, none⟩) (S k).pl (S k).pl].getD m (.bool false))) := by rw [hwq]; exact Row.here wr [_, _, _] 65
              have HQB : Hid (Below wr.heap.size wr wq) := by rw [hwq]; exact (Below.refl _ _).alloc (Nat.le_refl _) _
              have hzq : wq.heap.size = wr.heap.size + 1 := by rw [hwq]; simp
              clear hwq t0 t1 t2
              have q6 := (HQB.out.cell (by exact hbr)).trans h6
              have qm := (HQB.out.cell (by exact hwdr)).trans mk
              have S1 : ∀ W, Below wq.heap.size wq W → (fun W => Below w3.heap.size wq W ∧ W.cell? ⟨hb, 6, none⟩ = some (.slice (some ⟨w3.heap.size, 0, none⟩) ns ns) ∧ W.cell? ⟨wd.heap.size, k, none⟩ = some (.map none) ∧ W.cell? ⟨wr.heap.size, 0, none⟩ = some (.string (S k).id) ∧ W.cell? ⟨wr.heap.size, 1, none⟩ = some (.string (S k).name) ∧ W.cell? ⟨wr.heap.size, 2, none⟩ = some (.slice (some ⟨PB k, 0, none⟩) (S k).pl (S k).pl)) W := fun W hw =>
                ⟨hw.mono (by omega), (hw.cell (by show hb < _; omega)).trans q6, (hw.cell (by show wd.heap.size < _; omega)).trans qm, (hw.cell (by show wr.heap.size < _; omega)).trans (HQR.out.val 0 (by omega)), (hw.cell (by show wr.heap.size < _; omega)).trans (HQR.out.val 1 (by omega)), (hw.cell (by show wr.heap.size < _; omega)).trans (HQR.out.val 2 (by omega))⟩
              have S2 : ∀ W x y z, (fun W => Below w3.heap.size wq W ∧ W.cell? ⟨hb, 6, none⟩ = some (.slice (some ⟨w3.heap.size, 0, none⟩) ns ns) ∧ W.cell? ⟨wd.heap.size, k, none⟩ = some (.map none) ∧ W.cell? ⟨wr.heap.size, 0, none⟩ = some (.string (S k).id) ∧ W.cell? ⟨wr.heap.size, 1, none⟩ = some (.string (S k).name) ∧ W.cell? ⟨wr.heap.size, 2, none⟩ = some (.slice (some ⟨PB k, 0, none⟩) (S k).pl (S k).pl)) W → (fun W => Below w3.heap.size wq W ∧ W.cell? ⟨hb, 6, none⟩ = some (.slice (some ⟨w3.heap.size, 0, none⟩) ns ns) ∧ W.cell? ⟨wd.heap.size, k, none⟩ = some (.map none) ∧ W.cell? ⟨wr.heap.size, 0, none⟩ = some (.string (S k).id) ∧ W.cell? ⟨wr.heap.size, 1, none⟩ = some (.string (S k).name) ∧ W.cell? ⟨wr.heap.size, 2, none⟩ = some (.slice (some ⟨PB k, 0, none⟩) (S k).pl (S k).pl)) (((W.setCell ⟨w3.heap.size, k * 3, none⟩ x).setCell ⟨w3.heap.size, k * 3 + 1, none⟩ y).setCell ⟨w3.heap.size, k * 3 + 2, none⟩ z) := fun W x y z h =>
                ⟨((h.1.setCell (by exact Nat.le_refl _) _).setCell (by exact Nat.le_refl _) _).setCell (by exact Nat.le_refl _) _, cell_three h.2.1 (by show hb ≠ _; omega) .., cell_three h.2.2.1 (by show wd.heap.size ≠ _; omega) .., cell_three h.2.2.2.1 (by show wr.heap.size ≠ _; omega) .., cell_three h.2.2.2.2.1 (by show wr.heap.size ≠ _; omega) .., cell_three h.2.2.2.2.2 (by show wr.heap.size ≠ _; omega) ..⟩
              have ELK : ∀ W, (fun W => Below w3.heap.size wq W ∧ W.cell? ⟨hb, 6, none⟩ = some (.slice (some ⟨w3.heap.size, 0, none⟩) ns ns) ∧ W.cell? ⟨wd.heap.size, k, none⟩ = some (.map none) ∧ W.cell? ⟨wr.heap.size, 0, none⟩ = some (.string (S k).id) ∧ W.cell? ⟨wr.heap.size, 1, none⟩ = some (.string (S k).name) ∧ W.cell? ⟨wr.heap.size, 2, none⟩ = some (.slice (some ⟨PB k, 0, none⟩) (S k).pl (S k).pl)) W → ElemsTo W (PB k) (S k).pl 3 (S k).pl (refL (S k).ref) := fun W h => (HEL.out.below HQB.out (by omega)).below h.1 (by omega)
              have HS1 : Hid _ := S1
              have HS2 : Hid _ := S2
              have HELK : Hid _ := ELK
              have HKV : Hid (∀ W, Below wq.drew.heap.size wq.drew W → W.cell? ⟨w3.heap.size, k * 3, none⟩ = some u0 ∧ W.cell? ⟨w3.heap.size, k * 3 + 1, none⟩ = some u1 ∧ W.cell? ⟨w3.heap.size, k * 3 + 2, none⟩ = some u2 ∧ W.frozen? ⟨w3.heap.size, k * 3, none⟩ = false ∧ W.frozen? ⟨w3.heap.size, k * 3 + 1, none⟩ = false ∧ W.frozen? ⟨w3.heap.size, k * 3 + 2, none⟩ = false) := fun W hw =>
                have r := (HKR.out.below HQB.out (by omega)).below ((Below.refl wq.heap.size wq).drew.trans hw) (by omega)
                ⟨(r.val _ (by omega)).trans (by rw [HE0.out]), (r.val _ (by omega)).trans (by rw [HE1.out]), (r.val _ (by omega)).trans (by rw [HE2.out]), r.open_ _, r.open_ _, r.open_ _⟩
              clear S1 S2 ELK q6 qm h6 mk
              go_region_held3 (fun W => Below w3.heap.size wq W ∧ W.cell? ⟨hb, 6, none⟩ = some (.slice (some ⟨w3.heap.size, 0, none⟩) ns ns) ∧ W.cell? ⟨wd.heap.size, k, none⟩ = some (.map none) ∧ W.cell? ⟨wr.heap.size, 0, none⟩ = some (.string (S k).id) ∧ W.cell? ⟨wr.heap.size, 1, none⟩ = some (.string (S k).name) ∧ W.cell? ⟨wr.heap.size, 2, none⟩ = some (.slice (some ⟨PB k, 0, none⟩) (S k).pl (S k).pl)) (first
                | with_reducible exact HS1.out _ (Below.refl _ _).drew
                | with_reducible exact HS1.out _ hbp'
                | with_reducible exact HS2.out _ _ _ _ (by assumption)
                | fail) (first
                | (go_at_call 27; refine (withoutR0 (PB k) (S k).pl (S k).pl (S k).ref _ (HELK.out _ (by assumption))).mono ?_; rintro e w5 ⟨vp, rfl, hpl, hpw, hbp⟩; rw [← HKE.out] at hpl; have hbp' : Below wq.heap.size wq w5 := (Below.refl wq.heap.size wq).drew.trans hbp; obtain ⟨pao, pcap, hvp⟩ := hpl.shape; subst hvp; have HPL : Hid _ := hpl; have HPW : Hid _ := hpw; obtain ⟨v0, v1, v2, f0, f1, f2⟩ := HKV.out _ hbp; clear hpl hpw))
              have hbq : Below wr.heap.size wr w5 := HQB.out.trans (((Below.refl wq.heap.size wq).drew.trans hbp).mono (by omega))
              have n1 : KeptTo w5 (fun b => (b ≠ hb ∧ b ≠ w.heap.size ∧ Old gf gs ns PB w.heap.size b) ∧ b ≠ w3.heap.size) w3.heap.size ns k S (fun j => kept (in2 of ix Q j) (S j).pl) := HKT.out.below hbq
              have n2 : ListIn w5 (fun b => (b ≠ hb ∧ b ≠ w.heap.size ∧ Old gf gs ns PB w.heap.size b) ∧ b ≠ w3.heap.size) (.slice pao (kept (in2 of ix Q k) (S k).pl).length pcap) 3 (kept (in2 of ix Q k) (S k).pl) (refL (S k).ref) := ListIn.of HPL.out (fun b o l c e _ => by
                rcases HPW.out b o l c e with h | h
                · subst h; have := HZ2.out; exact ⟨⟨by omega, by omega, Or.inr (Or.inr (Or.inl ⟨k, hlt2, rfl⟩))⟩, by omega⟩
                · have h' : wq.heap.size ≤ b := h
                  have := HZ2.out; exact ⟨⟨by omega, by omega, Or.inr (Or.inr (Or.inr (by omega)))⟩, by omega⟩)
              have n3 := n1.put (fun h => h.2 rfl) hlt2 (.string (S k).id) (.string (S k).name) n2
              rw [three_set] at n3
              have n4 : Below w3.heap.size w4 (((w5.setCell ⟨w3.heap.size, k * 3, none⟩ (.string (S k).id)).setCell ⟨w3.heap.size, k * 3 + 1, none⟩ (.string (S k).name)).setCell ⟨w3.heap.size, k * 3 + 2, none⟩ (.slice pao (kept (in2 of ix Q k) (S k).pl).length pcap)) :=
                (((HBK.out.trans (hbq.mono (by omega))).setCell (by exact Nat.le_refl _) _).setCell (by exact Nat.le_refl _) _).setCell (by exact Nat.le_refl _) _
              have HN3 : Hid _ := n3
              have HN4 : Hid _ := n4
              clear n1 n2 n3 n4 hbq hbp v0 v1 v2 f0 f1 f2
              go_wp2
              go_roundw
              case rel => exact ⟨k + 1, by omega, by go_num, HN3.out, HN4.out⟩
              case measure => simp [intOf]; omega
            · skip
              have hcp : 0 < cnt2 of Q k := by omega
              have HCP : Hid (0 < cnt2 of Q k) := hcp
              rw [(gv k hlt2).2 hcp] at mk
              have HSET : Hid (SetAt w4 (Bm k) (cnt2 of Q k) (in2 of ix Q k)) := (hgo.sets k hlt2 hcp).2
              have hBm : Bm k < w3.heap.size := hgb k hlt2 hcp
              have HCN : Hid ((S k).pl = cnt2 of Q k + ((S k).pl - cnt2 of Q k)) := by have := cnt2_kept (pl := fun j => (S j).pl) HPI.out HP1.out k Q hQ; show (S k).pl = _; omega
              clear gv gw hc0 hcp
              have HPLK : Hid ((S k).pl ≤ 1048576) := HLP.out k hlt2
              clear hgo hgb
              go_wp2
              obtain ⟨wq, hwq⟩ : ∃ wq, wq = wr.alloc (.cells #[.string (S k).id, .string (S k).name, .slice (some ⟨PB k, 0, none⟩) (S k).pl (S k).pl] 65) := ⟨_, rfl⟩
              rw [← hwq]
              have HQR : Hid (Row wq wr.heap.size 3 (fun m => [Value.string (S k).id, .string (S k).name, .slice (some ⟨PB k, 0, none⟩) (S k).pl (S k).pl].getD m (.bool false))) := by rw [hwq]; exact Row.here wr [_, _, _] 65
              have HQB : Hid (Below wr.heap.size wr wq) := by rw [hwq]; exact (Below.refl _ _).alloc (Nat.le_refl _) _
              have hzq : wq.heap.size = wr.heap.size + 1 := by rw [hwq]; simp
              clear hwq t0 t1 t2
              have q6 := (HQB.out.cell (by exact hbr)).trans h6
              have qm := (HQB.out.cell (by exact hwdr)).trans mk
              have S1 : ∀ W, Below wq.heap.size wq W → (fun W => Below w3.heap.size wq W ∧ W.cell? ⟨hb, 6, none⟩ = some (.slice (some ⟨w3.heap.size, 0, none⟩) ns ns) ∧ W.cell? ⟨wd.heap.size, k, none⟩ = some (.map (some (Bm k))) ∧ W.cell? ⟨wr.heap.size, 0, none⟩ = some (.string (S k).id) ∧ W.cell? ⟨wr.heap.size, 1, none⟩ = some (.string (S k).name) ∧ W.cell? ⟨wr.heap.size, 2, none⟩ = some (.slice (some ⟨PB k, 0, none⟩) (S k).pl (S k).pl)) W := fun W hw =>
                ⟨hw.mono (by omega), (hw.cell (by show hb < _; omega)).trans q6, (hw.cell (by show wd.heap.size < _; omega)).trans qm, (hw.cell (by show wr.heap.size < _; omega)).trans (HQR.out.val 0 (by omega)), (hw.cell (by show wr.heap.size < _; omega)).trans (HQR.out.val 1 (by omega)), (hw.cell (by show wr.heap.size < _; omega)).trans (HQR.out.val 2 (by omega))⟩
              have S2 : ∀ W x y z, (fun W => Below w3.heap.size wq W ∧ W.cell? ⟨hb, 6, none⟩ = some (.slice (some ⟨w3.heap.size, 0, none⟩) ns ns) ∧ W.cell? ⟨wd.heap.size, k, none⟩ = some (.map (some (Bm k))) ∧ W.cell? ⟨wr.heap.size, 0, none⟩ = some (.string (S k).id) ∧ W.cell? ⟨wr.heap.size, 1, none⟩ = some (.string (S k).name) ∧ W.cell? ⟨wr.heap.size, 2, none⟩ = some (.slice (some ⟨PB k, 0, none⟩) (S k).pl (S k).pl)) W → (fun W => Below w3.heap.size wq W ∧ W.cell? ⟨hb, 6, none⟩ = some (.slice (some ⟨w3.heap.size, 0, none⟩) ns ns) ∧ W.cell? ⟨wd.heap.size, k, none⟩ = some (.map (some (Bm k))) ∧ W.cell? ⟨wr.heap.size, 0, none⟩ = some (.string (S k).id) ∧ W.cell? ⟨wr.heap.size, 1, none⟩ = some (.string (S k).name) ∧ W.cell? ⟨wr.heap.size, 2, none⟩ = some (.slice (some ⟨PB k, 0, none⟩) (S k).pl (S k).pl)) (((W.setCell ⟨w3.heap.size, k * 3, none⟩ x).setCell ⟨w3.heap.size, k * 3 + 1, none⟩ y).setCell ⟨w3.heap.size, k * 3 + 2, none⟩ z) := fun W x y z h =>
                ⟨((h.1.setCell (by exact Nat.le_refl _) _).setCell (by exact Nat.le_refl _) _).setCell (by exact Nat.le_refl _) _, cell_three h.2.1 (by show hb ≠ _; omega) .., cell_three h.2.2.1 (by show wd.heap.size ≠ _; omega) .., cell_three h.2.2.2.1 (by show wr.heap.size ≠ _; omega) .., cell_three h.2.2.2.2.1 (by show wr.heap.size ≠ _; omega) .., cell_three h.2.2.2.2.2 (by show wr.heap.size ≠ _; omega) ..⟩
              have ELK : ∀ W, (fun W => Below w3.heap.size wq W ∧ W.cell? ⟨hb, 6, none⟩ = some (.slice (some ⟨w3.heap.size, 0, none⟩) ns ns) ∧ W.cell? ⟨wd.heap.size, k, none⟩ = some (.map (some (Bm k))) ∧ W.cell? ⟨wr.heap.size, 0, none⟩ = some (.string (S k).id) ∧ W.cell? ⟨wr.heap.size, 1, none⟩ = some (.string (S k).name) ∧ W.cell? ⟨wr.heap.size, 2, none⟩ = some (.slice (some ⟨PB k, 0, none⟩) (S k).pl (S k).pl)) W → ElemsTo W (PB k) (S k).pl 3 (S k).pl (refL (S k).ref) := fun W h => (HEL.out.below HQB.out (by omega)).below h.1 (by omega)
              have SEK : ∀ W, (fun W => Below w3.heap.size wq W ∧ W.cell? ⟨hb, 6, none⟩ = some (.slice (some ⟨w3.heap.size, 0, none⟩) ns ns) ∧ W.cell? ⟨wd.heap.size, k, none⟩ = some (.map (some (Bm k))) ∧ W.cell? ⟨wr.heap.size, 0, none⟩ = some (.string (S k).id) ∧ W.cell? ⟨wr.heap.size, 1, none⟩ = some (.string (S k).name) ∧ W.cell? ⟨wr.heap.size, 2, none⟩ = some (.slice (some ⟨PB k, 0, none⟩) (S k).pl (S k).pl)) W → SetAt W (Bm k) (cnt2 of Q k) (in2 of ix Q k) := fun W h => ((HSET.out.below HBK.out hBm).below HQB.out (by omega)).below h.1 hBm
              have HSEK : Hid _ := SEK
              clear SEK
              have HS1 : Hid _ := S1
              have HS2 : Hid _ := S2
              have HELK : Hid _ := ELK
              have HKV : Hid (∀ W, Below wq.drew.heap.size wq.drew W → W.cell? ⟨w3.heap.size, k * 3, none⟩ = some u0 ∧ W.cell? ⟨w3.heap.size, k * 3 + 1, none⟩ = some u1 ∧ W.cell? ⟨w3.heap.size, k * 3 + 2, none⟩ = some u2 ∧ W.frozen? ⟨w3.heap.size, k * 3, none⟩ = false ∧ W.frozen? ⟨w3.heap.size, k * 3 + 1, none⟩ = false ∧ W.frozen? ⟨w3.heap.size, k * 3 + 2, none⟩ = false) := fun W hw =>
                have r := (HKR.out.below HQB.out (by omega)).below ((Below.refl wq.heap.size wq).drew.trans hw) (by omega)
                ⟨(r.val _ (by omega)).trans (by rw [HE0.out]), (r.val _ (by omega)).trans (by rw [HE1.out]), (r.val _ (by omega)).trans (by rw [HE2.out]), r.open_ _, r.open_ _, r.open_ _⟩
              clear S1 S2 ELK q6 qm h6 mk
              go_region_held3 (fun W => Below w3.heap.size wq W ∧ W.cell? ⟨hb, 6, none⟩ = some (.slice (some ⟨w3.heap.size, 0, none⟩) ns ns) ∧ W.cell? ⟨wd.heap.size, k, none⟩ = some (.map (some (Bm k))) ∧ W.cell? ⟨wr.heap.size, 0, none⟩ = some (.string (S k).id) ∧ W.cell? ⟨wr.heap.size, 1, none⟩ = some (.string (S k).name) ∧ W.cell? ⟨wr.heap.size, 2, none⟩ = some (.slice (some ⟨PB k, 0, none⟩) (S k).pl (S k).pl)) (first
                | with_reducible exact HS1.out _ (Below.refl _ _).drew
                | with_reducible exact HS1.out _ hbp'
                | with_reducible exact HS2.out _ _ _ _ (by assumption)
                | fail) (first
                | (go_at_call 27; refine (withoutRW (PB k) (S k).pl (S k).pl (Bm k) (cnt2 of Q k) ((S k).pl - cnt2 of Q k) (S k).ref (in2 of ix Q k) _ (HELK.out _ (by assumption)) (HSEK.out _ (by assumption)) HPLK.out HCN.out (fun h => absurd h (Nat.ne_of_gt HCP.out))).mono ?_; rintro e w5 ⟨vp, rfl, hpl, hpw, hbp⟩; have hbp' : Below wq.heap.size wq w5 := (Below.refl wq.heap.size wq).drew.trans hbp; obtain ⟨pao, pcap, hvp⟩ := hpl.shape; subst hvp; have HPL : Hid _ := hpl; have HPW : Hid _ := hpw; obtain ⟨v0, v1, v2, f0, f1, f2⟩ := HKV.out _ hbp; clear hpl hpw))
              have hbq : Below wr.heap.size wr w5 := HQB.out.trans (((Below.refl wq.heap.size wq).drew.trans hbp).mono (by omega))
              have n1 : KeptTo w5 (fun b => (b ≠ hb ∧ b ≠ w.heap.size ∧ Old gf gs ns PB w.heap.size b) ∧ b ≠ w3.heap.size) w3.heap.size ns k S (fun j => kept (in2 of ix Q j) (S j).pl) := HKT.out.below hbq
              have n2 : ListIn w5 (fun b => (b ≠ hb ∧ b ≠ w.heap.size ∧ Old gf gs ns PB w.heap.size b) ∧ b ≠ w3.heap.size) (.slice pao (kept (in2 of ix Q k) (S k).pl).length pcap) 3 (kept (in2 of ix Q k) (S k).pl) (refL (S k).ref) := ListIn.of HPL.out (fun b o l c e _ => by
                rcases HPW.out b o l c e with h | h
                · subst h; have := HZ2.out; exact ⟨⟨by omega, by omega, Or.inr (Or.inr (Or.inl ⟨k, hlt2, rfl⟩))⟩, by omega⟩
                · have h' : wq.heap.size ≤ b := h
                  have := HZ2.out; exact ⟨⟨by omega, by omega, Or.inr (Or.inr (Or.inr (by omega)))⟩, by omega⟩)
              have n3 := n1.put (fun h => h.2 rfl) hlt2 (.string (S k).id) (.string (S k).name) n2
              rw [three_set] at n3
              have n4 : Below w3.heap.size w4 (((w5.setCell ⟨w3.heap.size, k * 3, none⟩ (.string (S k).id)).setCell ⟨w3.heap.size, k * 3 + 1, none⟩ (.string (S k).name)).setCell ⟨w3.heap.size, k * 3 + 2, none⟩ (.slice pao (kept (in2 of ix Q k) (S k).pl).length pcap)) :=
                (((HBK.out.trans (hbq.mono (by omega))).setCell (by exact Nat.le_refl _) _).setCell (by exact Nat.le_refl _) _).setCell (by exact Nat.le_refl _) _
              have HN3 : Hid _ := n3
              have HN4 : Hid _ := n4
              clear n1 n2 n3 n4 hbq hbp v0 v1 v2 f0 f1 f2
              go_wp2
              go_roundw
              case rel => exact ⟨k + 1, by omega, by go_num, HN3.out, HN4.out⟩
              case measure => simp [intOf]; omega
          · have hkn : ¬ (k : Int) < ns := by omega
            have hn' : ns = k := by omega
            rw [← hn'] at HKT
            clear hn'
            go_wp2
            go_meet
            case rel =>
              refine ⟨w3.heap.size, HR4.out.below HBK.out (by omega), HKT.out.mono (fun b h _ => h.1), by omega, by omega, Or.inr (by omega), ?_, ?_⟩
              · exact (HL4.out.belowB HBK.out (fun b h => h.2)).mono (fun b h _ => h.1)
              · exact HB4.out.trans (HBK.out.mono z3')
  case first =>
    have m1 : w1.heap.size + 1 < w2.heap.size := by omega
    have m2 : c < w2.heap.size := by omega
    have m3 : w.heap.size + 1 < w2.heap.size := by omega
    have SK : ∀ W, Below w2.heap.size w2 W → (fun W => Below w2.heap.size w2 W ∧ W.cell? ⟨w1.heap.size + 1, 0, none⟩ = some (.int .i64 E) ∧ W.cell? ⟨w1.heap.size + 1, 1, none⟩ = some (.int .i64 F) ∧ W.cell? ⟨c, 12, none⟩ = some (.slice fa nf fcap) ∧
     W.cell? ⟨w.heap.size + 1, 0, none⟩ = some (.string ByteArray.empty) ∧ W.cell? ⟨w.heap.size + 1, 1, none⟩ = some (.string { data := #[] }) ∧ W.cell? ⟨w.heap.size + 1, 2, none⟩ = some (.string { data := #[] }) ∧ W.cell? ⟨w.heap.size + 1, 3, none⟩ = some (.map none) ∧
     W.cell? ⟨w.heap.size + 1, 4, none⟩ = some (.slice (some ⟨gf, 0, none⟩) nf nf) ∧ W.cell? ⟨w.heap.size + 1, 5, none⟩ = some (.slice (some ⟨gr, 0, none⟩) nr nr) ∧ W.cell? ⟨w.heap.size + 1, 6, none⟩ = some (.slice (some ⟨gs, 0, none⟩) ns ns)) W := fun W hb =>
      ⟨hb, (hb.cell (by exact m1)).trans t0, (hb.cell (by exact m1)).trans t1, (hb.cell (by exact m2)).trans j12, (hb.cell (by exact m3)).trans j0, (hb.cell (by exact m3)).trans j1, (hb.cell (by exact m3)).trans j2, (hb.cell (by exact m3)).trans j3, (hb.cell (by exact m3)).trans j4, (hb.cell (by exact m3)).trans j5, (hb.cell (by exact m3)).trans j6⟩
    have SB : ∀ W, (fun W => Below w2.heap.size w2 W ∧ W.cell? ⟨w1.heap.size + 1, 0, none⟩ = some (.int .i64 E) ∧ W.cell? ⟨w1.heap.size + 1, 1, none⟩ = some (.int .i64 F) ∧ W.cell? ⟨c, 12, none⟩ = some (.slice fa nf fcap) ∧
     W.cell? ⟨w.heap.size + 1, 0, none⟩ = some (.string ByteArray.empty) ∧ W.cell? ⟨w.heap.size + 1, 1, none⟩ = some (.string { data := #[] }) ∧ W.cell? ⟨w.heap.size + 1, 2, none⟩ = some (.string { data := #[] }) ∧ W.cell? ⟨w.heap.size + 1, 3, none⟩ = some (.map none) ∧
     W.cell? ⟨w.heap.size + 1, 4, none⟩ = some (.slice (some ⟨gf, 0, none⟩) nf nf) ∧ W.cell? ⟨w.heap.size + 1, 5, none⟩ = some (.slice (some ⟨gr, 0, none⟩) nr nr) ∧ W.cell? ⟨w.heap.size + 1, 6, none⟩ = some (.slice (some ⟨gs, 0, none⟩) ns ns)) W → Below w2.heap.size w2 W := fun W h => h.1
    have CK : ∀ W, (fun W => Below w2.heap.size w2 W ∧ W.cell? ⟨w1.heap.size + 1, 0, none⟩ = some (.int .i64 E) ∧ W.cell? ⟨w1.heap.size + 1, 1, none⟩ = some (.int .i64 F) ∧ W.cell? ⟨c, 12, none⟩ = some (.slice fa nf fcap) ∧
     W.cell? ⟨w.heap.size + 1, 0, none⟩ = some (.string ByteArray.empty) ∧ W.cell? ⟨w.heap.size + 1, 1, none⟩ = some (.string { data := #[] }) ∧ W.cell? ⟨w.heap.size + 1, 2, none⟩ = some (.string { data := #[] }) ∧ W.cell? ⟨w.heap.size + 1, 3, none⟩ = some (.map none) ∧
     W.cell? ⟨w.heap.size + 1, 4, none⟩ = some (.slice (some ⟨gf, 0, none⟩) nf nf) ∧ W.cell? ⟨w.heap.size + 1, 5, none⟩ = some (.slice (some ⟨gr, 0, none⟩) nr nr) ∧ W.cell? ⟨w.heap.size + 1, 6, none⟩ = some (.slice (some ⟨gs, 0, none⟩) ns ns)) W → CellsAt W fa F (fun j => .int .i64 (fo j)) := fun W hb => by
      rcases (HO.out.below (B2.out.trans (hb.1.mono (by omega)))) with h | ⟨b, off, ha, hbw, hc⟩
      · exact Or.inl (by omega)
      · exact Or.inr ⟨b, off, ha, hbw, fun j hj => hc j (by omega)⟩
    have EK : ∀ W, (fun W => Below w2.heap.size w2 W ∧ W.cell? ⟨w1.heap.size + 1, 0, none⟩ = some (.int .i64 E) ∧ W.cell? ⟨w1.heap.size + 1, 1, none⟩ = some (.int .i64 F) ∧ W.cell? ⟨c, 12, none⟩ = some (.slice fa nf fcap) ∧
     W.cell? ⟨w.heap.size + 1, 0, none⟩ = some (.string ByteArray.empty) ∧ W.cell? ⟨w.heap.size + 1, 1, none⟩ = some (.string { data := #[] }) ∧ W.cell? ⟨w.heap.size + 1, 2, none⟩ = some (.string { data := #[] }) ∧ W.cell? ⟨w.heap.size + 1, 3, none⟩ = some (.map none) ∧
     W.cell? ⟨w.heap.size + 1, 4, none⟩ = some (.slice (some ⟨gf, 0, none⟩) nf nf) ∧ W.cell? ⟨w.heap.size + 1, 5, none⟩ = some (.slice (some ⟨gr, 0, none⟩) nr nr) ∧ W.cell? ⟨w.heap.size + 1, 6, none⟩ = some (.slice (some ⟨gs, 0, none⟩) ns ns)) W → ElemsTo W gf nf 12 nf (fun j => factL (T j)) := fun W hb => HF.out.below (B2.out.trans (hb.1.mono (by omega))) HF.out.lt
    have HIN' : Hid (∀ p < F, 0 ≤ fo p ∧ fo p ≤ 1048576) := fun p hp => by have := HIN.out p (by omega); omega
    have HONE' : Hid (∀ p < F, ∀ q < p, fo q ≠ fo p) := fun p hp => HONE.out p (by omega)
    have hF1 : F ≤ 1048576 := by omega
    have hd : nf = F + (nf - F) := by omega
    have HD : Hid (nf = F + (nf - F)) := hd
    have h00 : Hid (F = 0 → ∀ i < nf, inPre fo F i = false) := fun h i _ => by rw [h]; rfl
    clear hd
    have HSK : Hid _ := SK
    have HSB : Hid _ := SB
    have HCK : Hid _ := CK
    have HEK : Hid _ := EK
    have hFc : (F : Int) ≤ fcap := by omega
    obtain ⟨ro, hro⟩ : ∃ ro, ro = if nr = E then 0 else E * 11 := ⟨_, rfl⟩
    have hs2 : ∀ W : World, (Instr.slice 34 (.slice (some ⟨gr, 0, none⟩) nr nr) (some (.int .i64 E)) none none).run Try.prog W = .ok (.slice (some ⟨gr, ro, none⟩) (nr - E) (nr - E)) W := by
      rw [hro]; exact slice_rec gr nr E (by omega)
    have HRO : Hid _ := hro
    have HZ2 : Hid _ := hz2
    clear hro hz2
    clear SK SB CK EK
    go_region_held3 (fun W => Below w2.heap.size w2 W ∧ W.cell? ⟨w1.heap.size + 1, 0, none⟩ = some (.int .i64 E) ∧ W.cell? ⟨w1.heap.size + 1, 1, none⟩ = some (.int .i64 F) ∧ W.cell? ⟨c, 12, none⟩ = some (.slice fa nf fcap) ∧
     W.cell? ⟨w.heap.size + 1, 0, none⟩ = some (.string ByteArray.empty) ∧ W.cell? ⟨w.heap.size + 1, 1, none⟩ = some (.string { data := #[] }) ∧ W.cell? ⟨w.heap.size + 1, 2, none⟩ = some (.string { data := #[] }) ∧ W.cell? ⟨w.heap.size + 1, 3, none⟩ = some (.map none) ∧
     W.cell? ⟨w.heap.size + 1, 4, none⟩ = some (.slice (some ⟨gf, 0, none⟩) nf nf) ∧ W.cell? ⟨w.heap.size + 1, 5, none⟩ = some (.slice (some ⟨gr, 0, none⟩) nr nr) ∧ W.cell? ⟨w.heap.size + 1, 6, none⟩ = some (.slice (some ⟨gs, 0, none⟩) ns ns)) ((refine HSK.out _ ?_; first
      | with_reducible exact hB24
      | with_reducible exact (hB24.alloc hB24.size _)
      | with_reducible exact below_nine hB24 hqb _ _ _ _ _ _ _ _ _
      | with_reducible exact hB25
      | with_reducible exact (hB25.alloc hB25.size _)
      | with_reducible exact (Below.refl _ _).drew
      | with_reducible exact ((Below.refl _ _).alloc (Nat.le_refl _) _).drew
      | fail)) (first
      | (go_at_call 25; refine (placesOfW fa F fcap fo _ (HCK.out _ (by assumption)) hF1 HIN'.out HONE'.out).mono ?_; rintro e w' ⟨rfl, hset, hbl⟩; (try simp only [World.size_alloc, World.drew] at hset); have hB25 := keepB (HSB.out _ (by assumption)) (Nat.le_refl _) hbl; try with_reducible (have hrow0 := (Row.here w2 [.string { data := #[] }, .string { data := #[] }, .string { data := #[] }, .map none, .slice none 0 0, .slice none 0 0, .slice none 0 0, .pointer none, .bool false] 38).drew.below hbl (by simp [World.drew]); have hqa : w2.heap.size ≤ w2.heap.size := Nat.le_refl _))
      | (go_at_call 24; refine (withoutFW gf nf nf _ F (nf - F) T (inPre fo F) _ (HEK.out _ (by assumption)) (by first | with_reducible exact hset | with_reducible exact hset.below ((Below.refl _ _).alloc (Nat.le_refl _) _) hset.lt) lf HD.out h00.out).mono ?_; rintro e w'' ⟨vf, rfl, ⟨ao, cap, rfl, hlist⟩, hwh, hbf⟩; have hB24 := keepB (HSB.out _ (by assumption)) (Nat.le_refl _) hbf; have HLI : Hid _ := hlist; have HWH : Hid _ := hwh; clear hlist hwh; (first | with_reducible (have hrow := hrow0.below hbf hrow0.lt; have hqb := hqa) | with_reducible (have hrow := (Row.here w' [.string { data := #[] }, .string { data := #[] }, .string { data := #[] }, .map none, .slice none 0 0, .slice none 0 0, .slice none 0 0, .pointer none, .bool false] 38).below hbf (by simp); have hqb : w2.heap.size ≤ w'.heap.size := hB25.size) | skip); try (have y0 := hrow.val 0 (by simp); have y1 := hrow.val 1 (by simp); have y2 := hrow.val 2 (by simp); have y3 := hrow.val 3 (by simp); have y4 := hrow.val 4 (by simp); have y5 := hrow.val 5 (by simp); have y6 := hrow.val 6 (by simp); have y7 := hrow.val 7 (by simp); have y8 := hrow.val 8 (by simp); have z0 := hrow.open_ 0; have z1 := hrow.open_ 1; have z2 := hrow.open_ 2; have z3 := hrow.open_ 3; have z4 := hrow.open_ 4; have z5 := hrow.open_ 5; have z6 := hrow.open_ 6; have z7 := hrow.open_ 7; have z8 := hrow.open_ 8; simp only [List.getD_cons_zero, List.getD_cons_succ] at y0 y1 y2 y3 y4 y5 y6 y7 y8; have HROW : Hid _ := hrow; clear hrow)))
    all_goals go_wp2
    all_goals go_meet
    all_goals rw [show recV gr nr E = .slice (some ⟨gr, ro, none⟩) (nr - E) (nr - E) by rw [HRO.out]; rfl]
    all_goals have hgfw : gf < w.heap.size := HF.out.lt
    all_goals have hz2 : w2.heap.size = w1.heap.size + 2 := HZ2.out
    · refine ⟨w''.heap.size, _, rfl, Row.here w'' (hL (.slice ao (kept (inPre fo F) nf).length cap) (.slice (some ⟨gr, ro, none⟩) (nr - E) (nr - E)) (.slice (some ⟨gs, 0, none⟩) ns ns) (.pointer (some ⟨w1.heap.size, 0, none⟩)) (.bool false)) 38, ?_, hB24.alloc hB24.size _, hB24.size⟩
      exact (ListIn.of (P := fun b => b ≠ w''.heap.size ∧ b ≠ w.heap.size ∧ Old gf gs ns PB w.heap.size b) ⟨ao, cap, rfl, HLI.out⟩ (fun b o l c e hb => by
          have hz := hB25.size
          rcases HWH.out b o l c e with h | h
          · subst h; exact ⟨by omega, by omega, Or.inl rfl⟩
          · have h' : w'.heap.size ≤ b := h; exact ⟨by omega, by omega, Or.inr (Or.inr (Or.inr (by omega)))⟩)).below ((Below.refl _ _).alloc (Nat.le_refl _) _)
    · rw [← hL_set]
      refine ⟨w'.heap.size, _, rfl, hL_row HROW.out _ _ _ _ _, ?_, below_setCells hB25.size _ _ hB24, hB25.size⟩
      exact (ListIn.of (P := fun b => b ≠ w'.heap.size ∧ b ≠ w.heap.size ∧ Old gf gs ns PB w.heap.size b) ⟨ao, cap, rfl, HLI.out⟩ (fun b o l c e hb => by
          have hz := hB25.size
          rcases HWH.out b o l c e with h | h
          · subst h; exact ⟨by omega, by omega, Or.inl rfl⟩
          · rw [World.size_alloc] at h; exact ⟨by omega, by omega, Or.inr (Or.inr (Or.inr (by omega)))⟩)).far (fun h => h.1 rfl) _ _
    · rw [← hL_set]
      refine ⟨w2.heap.size, _, rfl, hL_row HROW.out _ _ _ _ _, ?_, below_setCells (Nat.le_refl _) _ _ hB24, Nat.le_refl _⟩
      have hz9 : w2.heap.size + 1 ≤ w'.heap.size := by have := hbl.size; simpa [World.drew] using this
      exact (ListIn.of (P := fun b => b ≠ w2.heap.size ∧ b ≠ w.heap.size ∧ Old gf gs ns PB w.heap.size b) ⟨ao, cap, rfl, HLI.out⟩ (fun b o l c e hb => by
          have hz := hB25.size
          rcases HWH.out b o l c e with h | h
          · subst h; exact ⟨by omega, by omega, Or.inl rfl⟩
          · have h' : w'.heap.size ≤ b := h; exact ⟨by omega, by omega, Or.inr (Or.inr (Or.inr (by omega)))⟩)).far (fun h => h.1 rfl) _ _
end Go.Proofs.Qxb6615139a
