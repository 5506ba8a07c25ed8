/- The walk of the law. -/
import Derived.Test.Qxb6615139aPrem
import Derived.Test.Qxb6615139aZzLeave
import Derived.Test.Qxb6615139aCons
import Derived.Laws.CopyOwn
import Derived.Deep.CutRange
import Derived.BigQuiet
namespace Go.Proofs.Qxb6615139a
open Go.RowKit

theorem size3 : (Try.prog.info? 3).map (·.size) = some 1 := by kernel_rfl
def intL (f : Nat → Int) (n : Nat) : List Value := (List.range n).map fun j => .int .i64 (f j)
theorem intL_length (f : Nat → Int) (n : Nat) : (intL f n).length = n := by simp [intL]
theorem intL_get (f : Nat → Int) (n j : Nat) (h : j < n) : (intL f n)[j]? = some (.int .i64 (f j)) := by
  unfold intL; rw [List.getElem?_map, List.getElem?_range h]; rfl
theorem intL_one (f : Nat → Int) (n : Nat) : ∀ v ∈ intL f n, v.oneCell' = true := by
  intro v hv; unfold intL at hv; obtain ⟨m, _, rfl⟩ := List.mem_map.1 hv; rfl
theorem copied {w : World} {g len : Nat} {t : TypeId} {cur : List Value} (f : Nat → Int) (h : w.heap[g]? = some (.cells (splice cur 0 (intL f len)).toArray t (0, 0))) :
    CellsAt w (some ⟨g, 0, none⟩) len (fun j => .int .i64 (f j)) := by
  refine Or.inr ⟨g, 0, rfl, ?_, fun j hj => ?_⟩
  · rcases Nat.lt_or_ge g w.heap.size with hlt | hge
    · exact hlt
    · rw [Array.getElem?_eq_none hge] at h; cases h
  · have e : (splice cur 0 (intL f len))[j]? = some (.int .i64 (f j)) := by
      unfold splice
      rw [List.take_zero, List.nil_append, List.getElem?_append_left (by rw [intL_length]; exact hj)]
      exact intL_get f len j hj
    simp [World.cell?, h, e]

theorem bytes_inj {a b : ByteArray} (h : a.toList = b.toList) : a = b := by
  rw [ByteArray.toList_eq, ByteArray.toList_eq] at h
  cases a; cases b
  simp only at h
  rw [Array.toList_inj] at h
  rw [h]
theorem str_eql_ne {a b : ByteArray} (h : a ≠ b) (W : World) : (binOp .eql 9 (.string a) (.string b)).run Try.prog W = .ok (.bool false) W := by
  have : ¬ a.toList = b.toList := fun e => h (bytes_inj e)
  simp [go_sem, this]
set_option maxRecDepth 10000 in
theorem ref_eql_ne {a0 a1 a2 c0 c1 c2 : ByteArray} (h : ¬ (a0 = c0 ∧ a1 = c1 ∧ a2 = c2)) (W : World) : (binOp .eql 54 (.agg #[.string a0, .string a1, .string a2]) (.agg #[.string c0, .string c1, .string c2])).run Try.prog W = .ok (.bool false) W := by
  simp [go_sem]
  intro e0 e1 e2
  exact h ⟨bytes_inj e0, bytes_inj e1, bytes_inj e2⟩
theorem ListAt.at_ {w : World} {ao : Option Addr} {l c m p : Nat} {is : List Nat} {L : Nat → List Value} (h : ListAt w (.slice ao l c) m is L) (hp : p < is.length) : ∃ b off, ao = some ⟨b, off, none⟩ ∧ w.rangeAt b (off + p * m) (L is[p]) := by
  obtain ⟨ao', cap, hv, h⟩ := h
  injection hv with e1 e2 e3
  subst e1
  rcases h with h | ⟨b, off, ha, _, hc⟩
  · rw [h] at hp; simp at hp
  · exact ⟨b, off, ha, hc p hp⟩

set_option maxRecDepth 100000 in
set_option maxHeartbeats 16000000 in
theorem lawW (ro fo_ so oo po : Option Addr) (nr nf ns no np cr cf cs co cp : Nat) (b1 b2 b3 n m : Int) (over : Bool) (I : Nat → Int) (T : Nat → ByteArray) (S : Nat → Scn) (fo of ix : Nat → Int) (w : World)
    (hr : CellsAt w ro nr (fun j => .int .i64 (I j))) (hf : CellsAt w fo_ nf (fun j => .string (T j))) (hs : ScenesAt w so ns S) (hfo : CellsAt w oo no (fun j => .int .i64 (fo j))) (hp : PairsAt w po np of ix)
    (hnil : oo = none → no = 0 ∧ co = 0)
    (l1 : nr ≤ 140737488355328) (l2 : nf ≤ 140737488355328) (l3 : ns ≤ 140737488355328) (l4 : no ≤ 140737488355328) (l5 : np ≤ 140737488355328) :
    Calls Try.prog 3 #[.slice ro nr cr, .slice fo_ nf cf, .slice so ns cs, .int .i64 b1, .int .i64 b2, .int .i64 b3, .slice oo no co, .slice po np cp, .int .i64 n, .int .i64 m, .bool over] w fun e w' =>
      e = .returned (.bool true) ∧ Below w.heap.size w w' := by
  have q1 := fun (w : World) (a : Option Addr) n c => run_neq_slice_nil_any (P := Try.prog) w 25 3 a n c 0 0 Try.underlying25
  have HR : Hid (CellsAt w ro nr (fun j => .int .i64 (I j))) := hr
  have HF : Hid (CellsAt w fo_ nf (fun j => .string (T j))) := hf
  have HS : Hid (ScenesAt w so ns S) := hs
  have HO : Hid (CellsAt w oo no (fun j => .int .i64 (fo j))) := hfo
  have HP : Hid (PairsAt w po np of ix) := hp
  have HNI : Hid (oo = none → no = 0 ∧ co = 0) := hnil
  clear hr hf hs hfo hp hnil
  go_enter Try.func3, Try.ntmps3
  go_wp2_with fail
  refine (zzLeave ro fo_ so oo po nr nf ns no np cr cf cs co cp b1 b2 b3 n m over T S _ HF.out HS.out l1 l2 l3 l4 l5).mono ?_
  rintro e w1 ⟨⟨β, rfl, hβ⟩, rfl⟩
  cases β
  · clear hβ
    go_wp2_with fail
    go_ret
    exact ⟨rfl, Below.refl _ _⟩
  obtain ⟨k1, k2, k3, k4, k5, k6⟩ := hβ rfl
  have HLP : Hid (∀ j < ns, (S j).pl ≤ 1048576) := k4
  clear hβ k4 l1 l2 l3 l4 l5
  go_wp2_with fail
  refine (leaveBytesW ro fo_ so oo po nr nf ns no np cr cf cs co cp T S _ HF.out HS.out k1 k2 k3 k5 k6 HLP.out).mono ?_
  rintro e w1 ⟨⟨z, rfl⟩, hb1⟩
  have HB1 : Hid (Below w.heap.size w w1) := hb1
  clear hb1
  by_cases hz : 1048576 < z
  · go_wp2_with fail
    go_ret
    exact ⟨rfl, HB1.out⟩
  have i1 : (nr : Int) ≤ 1048576 := by omega
  go_wp2_with fail
  refine (premiseW nr fo_ so oo po nf ns no np cf cs co cp b1 b2 b3 m S fo of ix _ (HS.out.below HB1.out) (HO.out.below HB1.out) (HP.out.below HB1.out) (by omega) i1 k2 k3 HLP.out k6).mono ?_
  rintro e w2 ⟨⟨β, rfl, hβ⟩, hb2⟩
  have HB2 : Hid (Below w.heap.size w w2) := HB1.out.trans (hb2.mono HB1.out.size)
  clear hb2 HB1
  cases β
  · clear hβ
    go_wp2_with fail
    go_ret
    exact ⟨rfl, HB2.out⟩
  have HPR : Hid (Prem nr nf ns no np S b1 b2 b3 fo of ix m) := hβ rfl
  clear hβ
  by_cases hn0 : n < 0
  · go_wp2_with fail
    go_ret
    exact ⟨rfl, HB2.out⟩
  by_cases hnm : m < n
  · go_wp2_with fail
    go_ret
    exact ⟨rfl, HB2.out⟩
  obtain ⟨N, hN⟩ := Int.eq_ofNat_of_zero_le (show 0 ≤ n by omega)
  obtain ⟨M, hM⟩ := Int.eq_ofNat_of_zero_le HPR.out.hn.1
  subst hN hM
  have hno : no = nf := HPR.out.hno
  subst hno
  go_upto_if 79 with (fail)
  go_cut [6] from 39 (fun s6 wc => ∃ fa fcap, s6 = .slice fa no fcap ∧ no ≤ fcap ∧ CellsAt wc fa no (fun j => .int .i64 (fo j)) ∧ Below w.heap.size w wc)
  case rest =>
    obtain ⟨fa, fcap, hs6, hfc, hfa, hbc⟩ := hcut
    subst hs6
    obtain ⟨w3, hw3⟩ : ∃ w3, w3 = wc := ⟨_, rfl⟩
    subst hw3
    have HFA : Hid (CellsAt w3 fa no (fun j => .int .i64 (fo j))) := hfa
    have HB3 : Hid (Below w.heap.size w w3) := hbc
    clear hfa hbc HB2 HNI HO q1
    go_wp2_with fail
    refine (buildW ro fo_ so nr no ns cr cf cs I T S _ (HR.out.below HB3.out) (HF.out.below HB3.out) (HS.out.below HB3.out) k1 k2 k3 HLP.out).mono ?_
    rintro e w4 ⟨rfl, hrec, hfac, ⟨PB, hsc⟩, hb4⟩
    obtain ⟨gr, hgr⟩ : ∃ gr, gr = w3.heap.size + 1 + 1 := ⟨_, rfl⟩
    obtain ⟨gf, hgf⟩ : ∃ gf, gf = w3.heap.size + 3 := ⟨_, rfl⟩
    obtain ⟨gs, hgs⟩ : ∃ gs, gs = w3.heap.size + 4 := ⟨_, rfl⟩
    rw [← hgr] at hrec ⊢
    rw [← hgf] at hfac ⊢
    rw [← hgs] at hsc ⊢
    clear hgr hgf hgs
    have HREC : Hid (ElemsTo w4 gr nr 11 nr (fun j => entL (I j))) := hrec
    have HFAC : Hid (ElemsTo w4 gf no 12 no (fun j => factL (T j))) := hfac
    have HSC : Hid (ScTo w4 gs ns ns S PB) := hsc
    have HB4 : Hid (Below w.heap.size w w4) := HB3.out.trans (hb4.mono HB3.out.size)
    have HFA4 : Hid (CellsAt w4 fa no (fun j => .int .i64 (fo j))) := HFA.out.below hb4
    clear hrec hfac hsc hb4 HFA
    obtain ⟨w5, hw5⟩ : ∃ w5, w5 = ((w4.alloc (.cells (cL (.slice (some ⟨gf, 0, none⟩) no no) (.slice (some ⟨gr, 0, none⟩) nr nr) (.slice (some ⟨gs, 0, none⟩) ns ns)).toArray 38)).alloc (.cells [.int .i64 b1, .int .i64 b2, .int .i64 b3].toArray 41)) := ⟨_, rfl⟩
    have hw5' := hw5
    unfold cL at hw5' ⊢
    go_wp2_with fail
    rw [← hw5']
    clear hw5'
    have z5 : w5.heap.size = w4.heap.size + 2 := by rw [hw5]; simp
    have RC : Hid (Row w5 w4.heap.size 9 (fun m => (cL (.slice (some ⟨gf, 0, none⟩) no no) (.slice (some ⟨gr, 0, none⟩) nr nr) (.slice (some ⟨gs, 0, none⟩) ns ns)).getD m (.bool false))) := by
      rw [hw5]; exact (Row.here w4 (cL (.slice (some ⟨gf, 0, none⟩) no no) (.slice (some ⟨gr, 0, none⟩) nr nr) (.slice (some ⟨gs, 0, none⟩) ns ns)) 38).alloc _
    have RB : Hid (Row w5 (w4.heap.size + 1) 3 (fun m => [Value.int .i64 b1, .int .i64 b2, .int .i64 b3].getD m (.bool false))) := by
      rw [hw5]
      have := Row.here (w4.alloc (.cells (cL (.slice (some ⟨gf, 0, none⟩) no no) (.slice (some ⟨gr, 0, none⟩) nr nr) (.slice (some ⟨gs, 0, none⟩) ns ns)).toArray 38)) [Value.int .i64 b1, .int .i64 b2, .int .i64 b3] 41
      rw [World.size_alloc] at this
      exact this
    have HB5 : Hid (Below w4.heap.size w4 w5) := by
      rw [hw5]; exact ((Below.refl w4.heap.size w4).alloc (Nat.le_refl _) _).alloc (by simp) _
    clear hw5
    refine (splitW po np cp of ix _ (HP.out.below (HB4.out.trans (HB5.out.mono HB4.out.size))) k6).mono ?_
    rintro e w6 ⟨rfl, hof, hix, hb6⟩
    obtain ⟨ga1, hga1⟩ : ∃ g, g = w5.heap.size := ⟨_, rfl⟩
    obtain ⟨ga2, hga2⟩ : ∃ g, g = w5.heap.size + 1 := ⟨_, rfl⟩
    rw [← hga2] at hix ⊢
    rw [← hga1] at hof ⊢
    clear hga1 hga2
    have HOF : Hid (CellsAt w6 (some ⟨ga1, 0, none⟩) np (fun j => .int .i64 (of j))) := hof
    have HIX : Hid (CellsAt w6 (some ⟨ga2, 0, none⟩) np (fun j => .int .i64 (ix j))) := hix
    have hb46 : Below w4.heap.size w4 w6 := HB5.out.trans (hb6.mono HB5.out.size)
    have HB46 : Hid (Below w4.heap.size w4 w6) := hb46
    have RC6 : Hid (Row w6 w4.heap.size 9 (fun m => (cL (.slice (some ⟨gf, 0, none⟩) no no) (.slice (some ⟨gr, 0, none⟩) nr nr) (.slice (some ⟨gs, 0, none⟩) ns ns)).getD m (.bool false))) := RC.out.below hb6 (by omega)
    have RB6 : Hid (Row w6 (w4.heap.size + 1) 3 (fun m => [Value.int .i64 b1, .int .i64 b2, .int .i64 b3].getD m (.bool false))) := RB.out.below hb6 (by omega)
    have HZ6 : Hid (w4.heap.size + 2 ≤ w6.heap.size) := by have := hb6.size; show _ ≤ _; omega
    clear hof hix hb46 hb6 RC RB HB5 z5
    have rows : ∀ W, Below w6.heap.size w6 W → W.cell? ⟨w4.heap.size, 0, none⟩ = some (.string ByteArray.empty) ∧ W.cell? ⟨w4.heap.size, 1, none⟩ = some (.string { data := #[] }) ∧ W.cell? ⟨w4.heap.size, 2, none⟩ = some (.string { data := #[] }) ∧ W.cell? ⟨w4.heap.size, 3, none⟩ = some (.map none) ∧
        W.cell? ⟨w4.heap.size, 4, none⟩ = some (.slice (some ⟨gf, 0, none⟩) no no) ∧ W.cell? ⟨w4.heap.size, 5, none⟩ = some (.slice (some ⟨gr, 0, none⟩) nr nr) ∧ W.cell? ⟨w4.heap.size, 6, none⟩ = some (.slice (some ⟨gs, 0, none⟩) ns ns) ∧ W.cell? ⟨w4.heap.size, 7, none⟩ = some (.pointer none) ∧ W.cell? ⟨w4.heap.size, 8, none⟩ = some (.bool false) ∧
        W.cell? ⟨w4.heap.size + 1, 0, none⟩ = some (.int .i64 b1) ∧ W.cell? ⟨w4.heap.size + 1, 1, none⟩ = some (.int .i64 b2) ∧ W.cell? ⟨w4.heap.size + 1, 2, none⟩ = some (.int .i64 b3) := fun W hb => by
      have r1 := RC6.out.below hb (by have := HZ6.out; omega)
      have r2 := RB6.out.below hb (by have := HZ6.out; omega)
      exact ⟨r1.val 0 (by omega), r1.val 1 (by omega), r1.val 2 (by omega), r1.val 3 (by omega), r1.val 4 (by omega), r1.val 5 (by omega), r1.val 6 (by omega), r1.val 7 (by omega), r1.val 8 (by omega), r2.val 0 (by omega), r2.val 1 (by omega), r2.val 2 (by omega)⟩
    have HROWS : Hid _ := rows
    clear rows
    obtain ⟨c0, c1, c2, c3, c4, c5, c6, c7, c8, e0, e1, e2⟩ := HROWS.out w6 (Below.refl _ _)
    have hMb : (M : Int) ≤ nr + no + np := by have := HPR.out.hn.2; have := HPR.out.hnp; omega
    have hNM : N ≤ M := by omega
    obtain ⟨x1, x2⟩ := HPR.out.hb1
    obtain ⟨x3, x4⟩ := HPR.out.hb2
    obtain ⟨x5, x6⟩ := HPR.out.hb3
    have HQn : Hid (amQ nr no N ≤ np) := (am_le (by omega)).2.2
    have HQm : Hid (amQ nr no M ≤ np) := (am_le (by omega)).2.2
    have ZL : ∀ (W : World) (X : Nat), X ≤ M → Below w6.heap.size w6 W → Calls Try.prog 11 #[.agg (cL (.slice (some ⟨gf, 0, none⟩) no no) (.slice (some ⟨gr, 0, none⟩) nr nr) (.slice (some ⟨gs, 0, none⟩) ns ns)).toArray, .agg #[.int .i64 b1, .int .i64 b2, .int .i64 b3], .slice fa no fcap, .slice (some ⟨ga1, 0, none⟩) np np, .slice (some ⟨ga2, 0, none⟩) np np, .int .i64 X, .bool over] W
        (HeldAns (fun _ => True) gr nr no ns (amE nr X) (amF nr no X) (amQ nr no X) b1 b2 b3 T S fo of ix W) := fun W X hX hb =>
      zzLeaveW gf gr gs no nr ns np fcap np np X _ _ _ fa (some ⟨ga1, 0, none⟩) (some ⟨ga2, 0, none⟩) b1 b2 b3 T S PB fo of ix over W
        (HFAC.out.below (HB46.out.trans (hb.mono (by have := HZ6.out; omega))) HFAC.out.lt) (HSC.out.below (HB46.out.trans (hb.mono (by have := HZ6.out; omega)))) (HFA4.out.below (HB46.out.trans (hb.mono (by have := HZ6.out; omega)))) (HOF.out.below hb) (HIX.out.below hb)
        hfc HPR.out.fIn HPR.out.fOne k2 k1 x1 x2 x3 x4 x5 x6 (by omega) k3 HLP.out k6 HPR.out.pIn HPR.out.pOne ((am_le (by omega)).2.2) (am_cases nr no X)
    have HZL : Hid _ := ZL
    clear ZL
    go_wp2_with fail
    refine (HZL.out _ N hNM (Below.refl _ _)).mono ?_
    rintro e w7 ⟨vA, rfl, ⟨fvA, gA, ptA, obA, hvA, hfA, hsA, -, hoA, -⟩, hbA⟩
    have HLFA : Hid (ListAt w7 fvA 12 (kept (inPre fo (amF nr no N)) no) (fun j => factL (T j))) := hfA.list
    have HSFA : Hid (KeptTo w7 (fun _ => True) gA ns ns S (fun j => kept (in2 of ix (amQ nr no N) j) (S j).pl)) := hsA
    have HOFA : Hid (OmAt w7 ptA (b1 + amE nr N) (b2 + amF nr no N) (b3 + amQ nr no N)) := hoA
    obtain ⟨faoA, fcpA, hfvA⟩ := hfA.list.shape
    obtain ⟨flA, hflA⟩ : ∃ fl, fl = (kept (inPre fo (amF nr no N)) no).length := ⟨_, rfl⟩
    rw [← hflA] at hfvA
    obtain ⟨roA, hroA⟩ : ∃ ro, ro = if nr = amE nr N then 0 else amE nr N * 11 := ⟨_, rfl⟩
    obtain ⟨rlA, hrlA⟩ : ∃ rl, rl = nr - amE nr N := ⟨_, rfl⟩
    have hrcA : recV gr nr (amE nr N) = .slice (some ⟨gr, roA, none⟩) rlA rlA := by rw [hroA, hrlA]; rfl
    rw [hrcA, hfvA] at hvA
    rw [hfvA] at HLFA
    subst hvA
    have HFLA : Hid (flA = (kept (inPre fo (amF nr no N)) no).length) := hflA
    have HROA : Hid (roA = if nr = amE nr N then 0 else amE nr N * 11) := hroA
    have HRLA : Hid (rlA = nr - amE nr N) := hrlA
    clear hflA hroA hrlA hrcA hfA hsA hoA hfvA
    clear c0 c1 c2 c3 c4 c5 c6 c7 c8 e0 e1 e2
    obtain ⟨c0, c1, c2, c3, c4, c5, c6, c7, c8, e0, e1, e2⟩ := HROWS.out w7 hbA
    obtain ⟨w8, hw8⟩ : ∃ w8, w8 = w7.alloc (.cells (hL (.slice faoA flA fcpA) (.slice (some ⟨gr, roA, none⟩) rlA rlA) (.slice (some ⟨gA, 0, none⟩) ns ns) (.pointer ptA) (.bool obA)).toArray 38) := ⟨_, rfl⟩
    have hw8' := hw8
    have HB8 : Hid (Below w7.heap.size w7 w8) := by rw [hw8]; exact (Below.refl _ _).alloc (Nat.le_refl _) _
    have HB68 : Hid (Below w6.heap.size w6 w8) := hbA.trans (HB8.out.mono hbA.size)
    have RA8 : Hid (Row w8 w7.heap.size 9 (fun m => (hL (.slice faoA flA fcpA) (.slice (some ⟨gr, roA, none⟩) rlA rlA) (.slice (some ⟨gA, 0, none⟩) ns ns) (.pointer ptA) (.bool obA)).getD m (.bool false))) := by
      rw [hw8]; exact Row.here w7 (hL (.slice faoA flA fcpA) (.slice (some ⟨gr, roA, none⟩) rlA rlA) (.slice (some ⟨gA, 0, none⟩) ns ns) (.pointer ptA) (.bool obA)) 38
    have z8 : w8.heap.size = w7.heap.size + 1 := by rw [hw8]; simp
    clear hw8
    have HZ8 : Hid (w8.heap.size = w7.heap.size + 1) := z8
    have HZ7 : Hid (w4.heap.size + 2 ≤ w7.heap.size) := by have := HZ6.out; have := hbA.size; show _ ≤ _; omega
    have s1 : w4.heap.size < w7.heap.size := by have := HZ7.out; omega
    have s2 : w4.heap.size + 1 < w7.heap.size := by have := HZ7.out; omega
    clear z8
    unfold hL at hw8' ⊢
    go_wp2_with fail
    rw [← hw8']
    clear hw8'
    refine (HZL.out _ M (Nat.le_refl _) HB68.out).mono ?_
    rintro e w9 ⟨vB, rfl, ⟨fvB, gB, ptB, obB, hvB, hfB, hsB, -, hoB, -⟩, hbB⟩
    have HLFB : Hid (ListAt w9 fvB 12 (kept (inPre fo (amF nr no M)) no) (fun j => factL (T j))) := hfB.list
    have HSFB : Hid (KeptTo w9 (fun _ => True) gB ns ns S (fun j => kept (in2 of ix (amQ nr no M) j) (S j).pl)) := hsB
    have HOFB : Hid (OmAt w9 ptB (b1 + amE nr M) (b2 + amF nr no M) (b3 + amQ nr no M)) := hoB
    obtain ⟨faoB, fcpB, hfvB⟩ := hfB.list.shape
    obtain ⟨flB, hflB⟩ : ∃ fl, fl = (kept (inPre fo (amF nr no M)) no).length := ⟨_, rfl⟩
    rw [← hflB] at hfvB
    obtain ⟨roB, hroB⟩ : ∃ ro, ro = if nr = amE nr M then 0 else amE nr M * 11 := ⟨_, rfl⟩
    obtain ⟨rlB, hrlB⟩ : ∃ rl, rl = nr - amE nr M := ⟨_, rfl⟩
    have hrcB : recV gr nr (amE nr M) = .slice (some ⟨gr, roB, none⟩) rlB rlB := by rw [hroB, hrlB]; rfl
    rw [hrcB, hfvB] at hvB
    rw [hfvB] at HLFB
    subst hvB
    have HFLB : Hid (flB = (kept (inPre fo (amF nr no M)) no).length) := hflB
    have HROB : Hid (roB = if nr = amE nr M then 0 else amE nr M * 11) := hroB
    have HRLB : Hid (rlB = nr - amE nr M) := hrlB
    clear hflB hroB hrlB hrcB hfB hsB hoB hfvB
    have HB89 : Hid (Below w8.heap.size w8 w9) := hbB
    have HB69 : Hid (Below w6.heap.size w6 w9) := HB68.out.trans (hbB.mono HB68.out.size)
    have HBWA : Hid (Below w.heap.size w w7) := HB4.out.trans ((HB46.out.trans (hbA.mono (by have := HZ6.out; omega))).mono HB4.out.size)
    have HBWB : Hid (Below w.heap.size w w9) := HBWA.out.trans ((HB8.out.trans (hbB.mono HB8.out.size)).mono HBWA.out.size)
    have hbA' : Below w7.heap.size w7 w9 := HB8.out.trans (hbB.mono HB8.out.size)
    have HA79 : Hid (Below w7.heap.size w7 w9) := hbA'
    have hZ9 : w8.heap.size ≤ w9.heap.size := hbB.size
    clear hbA hbB hbA' c0 c1 c2 c3 c4 c5 c6 c7 c8 e0 e1 e2
    have CA : ∀ W, Below w7.heap.size w7 W → Calls Try.prog 12 #[.agg (hL (.slice faoA flA fcpA) (.slice (some ⟨gr, roA, none⟩) rlA rlA) (.slice (some ⟨gA, 0, none⟩) ns ns) (.pointer ptA) (.bool obA)).toArray, .int .i64 nr, .int .i64 no, .slice so ns cs, .agg #[.int .i64 b1, .int .i64 b2, .int .i64 b3], .int .i64 N] W fun e w' => e = .returned (.bool true) ∧ Below W.heap.size W w' := fun W hb =>
      conservesW gr roA rlA flA gA ns nr no N (amE nr N) (amF nr no N) (amQ nr no N) cs faoA so fcpA ptA obA b1 b2 b3 S (fun j => kept (in2 of ix (amQ nr no N) j) (S j).pl) (fun _ => True) W
        (HS.out.below (HBWA.out.trans (hb.mono HBWA.out.size))) (HSFA.out.below hb) (HOFA.out.below hb) (fun j hj => Nat.le_trans (kept_len _ _) (HLP.out j hj))
        (by have := (am_le (np := np) (show N ≤ nr + no + np by omega)).1; have := HRLA.out; omega)
        (by have := kept_pre HPR.out.fIn HPR.out.fOne (amF nr no N) (am_le (np := np) (show N ≤ nr + no + np by omega)).2.1; have := HFLA.out; omega)
        (by rw [sumPl_sumN]; exact kept_present HPR.out.pIn HPR.out.pOne _ (am_le (show N ≤ nr + no + np by omega)).2.2)
        (am_sum nr no N).symm k2 k1 x1 x2 x3 x4 x5 x6 k3 HLP.out
    have HCA : Hid _ := CA
    clear CA
    have CB : ∀ W, Below w9.heap.size w9 W → Calls Try.prog 12 #[.agg (hL (.slice faoB flB fcpB) (.slice (some ⟨gr, roB, none⟩) rlB rlB) (.slice (some ⟨gB, 0, none⟩) ns ns) (.pointer ptB) (.bool obB)).toArray, .int .i64 nr, .int .i64 no, .slice so ns cs, .agg #[.int .i64 b1, .int .i64 b2, .int .i64 b3], .int .i64 M] W fun e w' => e = .returned (.bool true) ∧ Below W.heap.size W w' := fun W hb =>
      conservesW gr roB rlB flB gB ns nr no M (amE nr M) (amF nr no M) (amQ nr no M) cs faoB so fcpB ptB obB b1 b2 b3 S (fun j => kept (in2 of ix (amQ nr no M) j) (S j).pl) (fun _ => True) W
        (HS.out.below (HBWB.out.trans (hb.mono HBWB.out.size))) (HSFB.out.below hb) (HOFB.out.below hb) (fun j hj => Nat.le_trans (kept_len _ _) (HLP.out j hj))
        (by have := (am_le (np := np) (show M ≤ nr + no + np by omega)).1; have := HRLB.out; omega)
        (by have := kept_pre HPR.out.fIn HPR.out.fOne (amF nr no M) (am_le (np := np) (show M ≤ nr + no + np by omega)).2.1; have := HFLB.out; omega)
        (by rw [sumPl_sumN]; exact kept_present HPR.out.pIn HPR.out.pOne _ (am_le (show M ≤ nr + no + np by omega)).2.2)
        (am_sum nr no M).symm k2 k1 x1 x2 x3 x4 x5 x6 k3 HLP.out
    have HCB : Hid _ := CB
    clear CB
    obtain ⟨w10, hw10⟩ : ∃ w10, w10 = w9.alloc (.cells (hL (.slice faoB flB fcpB) (.slice (some ⟨gr, roB, none⟩) rlB rlB) (.slice (some ⟨gB, 0, none⟩) ns ns) (.pointer ptB) (.bool obB)).toArray 38) := ⟨_, rfl⟩
    have hw10' := hw10
    have HB10 : Hid (Below w9.heap.size w9 w10) := by rw [hw10]; exact (Below.refl _ _).alloc (Nat.le_refl _) _
    have RB10 : Hid (Row w10 w9.heap.size 9 (fun m => (hL (.slice faoB flB fcpB) (.slice (some ⟨gr, roB, none⟩) rlB rlB) (.slice (some ⟨gB, 0, none⟩) ns ns) (.pointer ptB) (.bool obB)).getD m (.bool false))) := by
      rw [hw10]; exact Row.here w9 (hL (.slice faoB flB fcpB) (.slice (some ⟨gr, roB, none⟩) rlB rlB) (.slice (some ⟨gB, 0, none⟩) ns ns) (.pointer ptB) (.bool obB)) 38
    have RA10 : Hid (Row w10 w7.heap.size 9 (fun m => (hL (.slice faoA flA fcpA) (.slice (some ⟨gr, roA, none⟩) rlA rlA) (.slice (some ⟨gA, 0, none⟩) ns ns) (.pointer ptA) (.bool obA)).getD m (.bool false))) := (RA8.out.below HB89.out (by have := HZ8.out; omega)).below HB10.out (by have := HZ8.out; omega)
    have z10 : w10.heap.size = w9.heap.size + 1 := by rw [hw10]; simp
    clear hw10
    have HZ10 : Hid (w10.heap.size = w9.heap.size + 1) := z10
    have hz79 : w7.heap.size < w9.heap.size := by have := HZ8.out; omega
    have hz49 : w4.heap.size + 1 < w9.heap.size := by omega
    clear z10
    obtain ⟨-, -, -, -, -, -, -, -, -, e0, e1, e2⟩ := HROWS.out w9 HB69.out
    have ra := RA8.out.below HB89.out (by have := HZ8.out; omega)
    have a0 : w9.cell? ⟨w7.heap.size, 0, none⟩ = some (.string ByteArray.empty) := ra.val 0 (by omega)
    have a1 : w9.cell? ⟨w7.heap.size, 1, none⟩ = some (.string { data := #[] }) := ra.val 1 (by omega)
    have a2 : w9.cell? ⟨w7.heap.size, 2, none⟩ = some (.string { data := #[] }) := ra.val 2 (by omega)
    have a3 : w9.cell? ⟨w7.heap.size, 3, none⟩ = some (.map none) := ra.val 3 (by omega)
    have a4 : w9.cell? ⟨w7.heap.size, 4, none⟩ = some (.slice faoA flA fcpA) := ra.val 4 (by omega)
    have a5 : w9.cell? ⟨w7.heap.size, 5, none⟩ = some (.slice (some ⟨gr, roA, none⟩) rlA rlA) := ra.val 5 (by omega)
    have a6 : w9.cell? ⟨w7.heap.size, 6, none⟩ = some (.slice (some ⟨gA, 0, none⟩) ns ns) := ra.val 6 (by omega)
    have a7 : w9.cell? ⟨w7.heap.size, 7, none⟩ = some (.pointer ptA) := ra.val 7 (by omega)
    have a8 : w9.cell? ⟨w7.heap.size, 8, none⟩ = some (.bool obA) := ra.val 8 (by omega)
    clear ra
    unfold hL at hw10' ⊢
    go_wp2_with fail
    rw [← hw10']
    clear hw10'
    refine (HCA.out _ (HA79.out.trans (HB10.out.mono (by omega)))).mono ?_
    rintro e w11 ⟨rfl, hb11⟩
    clear a0 a1 a2 a3 a4 a5 a6 a7 a8 e0 e1 e2
    obtain ⟨-, -, -, -, -, -, -, -, -, e0, e1, e2⟩ := HROWS.out w11 (HB69.out.trans ((HB10.out.trans (hb11.mono HB10.out.size)).mono HB69.out.size))
    have rb := RB10.out.below hb11 (by have := HZ10.out; omega)
    have a0 : w11.cell? ⟨w9.heap.size, 0, none⟩ = some (.string ByteArray.empty) := rb.val 0 (by omega)
    have a1 : w11.cell? ⟨w9.heap.size, 1, none⟩ = some (.string { data := #[] }) := rb.val 1 (by omega)
    have a2 : w11.cell? ⟨w9.heap.size, 2, none⟩ = some (.string { data := #[] }) := rb.val 2 (by omega)
    have a3 : w11.cell? ⟨w9.heap.size, 3, none⟩ = some (.map none) := rb.val 3 (by omega)
    have a4 : w11.cell? ⟨w9.heap.size, 4, none⟩ = some (.slice faoB flB fcpB) := rb.val 4 (by omega)
    have a5 : w11.cell? ⟨w9.heap.size, 5, none⟩ = some (.slice (some ⟨gr, roB, none⟩) rlB rlB) := rb.val 5 (by omega)
    have a6 : w11.cell? ⟨w9.heap.size, 6, none⟩ = some (.slice (some ⟨gB, 0, none⟩) ns ns) := rb.val 6 (by omega)
    have a7 : w11.cell? ⟨w9.heap.size, 7, none⟩ = some (.pointer ptB) := rb.val 7 (by omega)
    have a8 : w11.cell? ⟨w9.heap.size, 8, none⟩ = some (.bool obB) := rb.val 8 (by omega)
    clear rb
    have HB9B : Hid (Below w9.heap.size w9 w11) := HB10.out.trans (hb11.mono HB10.out.size)
    go_wp2_with fail
    refine (HCB.out _ HB9B.out).mono ?_
    rintro e w12 ⟨rfl, hb12⟩
    clear a0 a1 a2 a3 a4 a5 a6 a7 a8 e0 e1 e2
    have HB12 : Hid (Below w9.heap.size w9 w12) := HB9B.out.trans (hb12.mono HB9B.out.size)
    have ra := (RA10.out.below hb11 (by have := HZ10.out; omega)).below hb12 (by have := hb11.size; have := HZ10.out; omega)
    have rb := (RB10.out.below hb11 (by have := HZ10.out; omega)).below hb12 (by have := hb11.size; have := HZ10.out; omega)
    have a4 : w12.cell? ⟨w7.heap.size, 4, none⟩ = some (.slice faoA flA fcpA) := ra.val 4 (by omega)
    have a5 : w12.cell? ⟨w7.heap.size, 5, none⟩ = some (.slice (some ⟨gr, roA, none⟩) rlA rlA) := ra.val 5 (by omega)
    have a6 : w12.cell? ⟨w7.heap.size, 6, none⟩ = some (.slice (some ⟨gA, 0, none⟩) ns ns) := ra.val 6 (by omega)
    have d4 : w12.cell? ⟨w9.heap.size, 4, none⟩ = some (.slice faoB flB fcpB) := rb.val 4 (by omega)
    have d5 : w12.cell? ⟨w9.heap.size, 5, none⟩ = some (.slice (some ⟨gr, roB, none⟩) rlB rlB) := rb.val 5 (by omega)
    have d6 : w12.cell? ⟨w9.heap.size, 6, none⟩ = some (.slice (some ⟨gB, 0, none⟩) ns ns) := rb.val 6 (by omega)
    have A4 : Hid _ := a4
    have A5 : Hid _ := a5
    have A6 : Hid _ := a6
    have D4 : Hid _ := d4
    have D5 : Hid _ := d5
    have D6 : Hid _ := d6
    have HBW : Hid (Below w.heap.size w w12) := HBWB.out.trans (HB12.out.mono HBWB.out.size)
    have HREC12 : Hid (ElemsTo w12 gr nr 11 nr (fun j => entL (I j))) := HREC.out.below ((HB46.out.trans (HB69.out.mono (by have := HZ6.out; omega))).trans (HB12.out.mono (by omega))) HREC.out.lt
    have HLA12 : Hid (ListAt w12 (.slice faoA flA fcpA) 12 (kept (inPre fo (amF nr no N)) no) (fun j => factL (T j))) := (HLFA.out.below HA79.out).below HB12.out
    have HLB12 : Hid (ListAt w12 (.slice faoB flB fcpB) 12 (kept (inPre fo (amF nr no M)) no) (fun j => factL (T j))) := HLFB.out.below HB12.out
    have HSA12 : Hid (KeptTo w12 (fun _ => True) gA ns ns S (fun j => kept (in2 of ix (amQ nr no N) j) (S j).pl)) := (HSFA.out.below HA79.out).below HB12.out
    have HSB12 : Hid (KeptTo w12 (fun _ => True) gB ns ns S (fun j => kept (in2 of ix (amQ nr no M) j) (S j).pl)) := HSFB.out.below HB12.out
    have hAm := am_mono (nr := nr) (nf := no) hNM
    have HAM : Hid (amE nr N ≤ amE nr M ∧ amF nr no N ≤ amF nr no M ∧ amQ nr no N ≤ amQ nr no M) := hAm
    have hrr : rlB ≤ rlA := by have := HRLA.out; have := HRLB.out; omega
    obtain ⟨dd, hdd⟩ : ∃ dd, dd = rlA - rlB := ⟨_, rfl⟩
    have HDD : Hid (dd = rlA - rlB) := hdd
    have hddI : (rlA : Int) - rlB = dd := by omega
    have hrrI : (rlB : Int) ≤ rlA := by omega
    have hrAI : (rlA : Int) ≤ 1048576 := by have := HRLA.out; omega
    have hflA : (flA : Int) ≤ 1048576 := by have := HFLA.out; have := kept_len (inPre fo (amF nr no N)) no; omega
    have hflB : (flB : Int) ≤ 1048576 := by have := HFLB.out; have := kept_len (inPre fo (amF nr no M)) no; omega
    clear hAm hdd ra rb hb11 hb12 HROWS HZL HCA HCB HSFA HSFB HLFA HLFB HOFA HOFB RA8 RA10 RB10 HB10 HB9B HB12 HA79 HB89 HB69 HB68 HB46 HB8 HBWA HBWB HREC HFAC HSC HFA4 HOF HIX RC6 RB6 HZ6 HZ7 HZ8 HZ10 hMb x1 x2 x3 x4 x5 x6 HQn HQm HB4 HB3 s1 s2 hz79 hz49 hZ9
    go_wp2
    go_loopw [31] (fun i wr => ∃ k : Nat, k ≤ rlB ∧ i = .int .i64 k ∧ ∃ q, wr = w12.drewN q) (fun i _ => rlB - (intOf i).toNat)
    case atStart => exact ⟨0, by omega, rfl, 0, rfl⟩
    case round =>
      obtain ⟨k, hk, rfl, q, rfl⟩ := hrel
      by_cases hlt : k < rlB
      · have hlti : (k : Int) < rlB := by omega
        have hddk : (dd : Int) + k < rlA := by omega
        have hEB : amE nr M + k < nr := by have := HRLB.out; omega
        have rng := HREC12.out.range (j := amE nr M + k) (fun _ => rfl) hEB (Nat.le_refl _)
        have p0 := rng 0 _ rfl
        have p1 := p0
        rw [show (amE nr M + k) * 11 + 0 = roA + (dd + k) * 11 by
          have h1 := HROA.out; have h2 := HRLA.out; have h3 := HRLB.out; have h4 := HDD.out; have h5 := HAM.out
          rw [if_neg (by omega)] at h1; omega] at p0
        rw [show (amE nr M + k) * 11 + 0 = roB + k * 11 by
          have h1 := HROB.out; have h3 := HRLB.out
          rw [if_neg (by omega)] at h1; omega] at p1
        clear rng hEB
        go_wp2
        go_quiet (fail)
        go_wp2
        go_roundw
        case rel => exact ⟨k + 1, by omega, by go_num, _, rfl⟩
        case measure => simp [intOf]; omega
      · have hkn : ¬ (k : Int) < rlB := by omega
        go_wp2
        clear a5 d5 hddI hrrI hrAI hrr A5 D5 hkn HREC12 HROA HROB HRLA HRLB HDD hk
        go_loopw [32, 33] (fun p i wr => ∃ j pp : Nat, pp ≤ flB ∧ j ≤ flA ∧ i = .int .i64 j ∧ p = .int .i64 pp ∧ (((kept (inPre fo (amF nr no M)) no).map T).drop pp).Sublist (((kept (inPre fo (amF nr no N)) no).map T).drop j) ∧ ∃ q, wr = w12.drewN q) (fun _ i _ => flA - (intOf i).toNat)
        case atStart => exact ⟨0, 0, by omega, by omega, rfl, rfl, (kept_mono (inPre_mono HAM.out.2.1) no).map T, _, rfl⟩
        case round =>
          obtain ⟨j, pp, hpp, hj, rfl, rfl, hsub, q2, rfl⟩ := hrel
          have HSUB : Hid ((((kept (inPre fo (amF nr no M)) no).map T).drop pp).Sublist (((kept (inPre fo (amF nr no N)) no).map T).drop j)) := hsub
          clear hsub
          by_cases hlt : j < flA ∧ pp < flB
          · obtain ⟨hl1, hl2⟩ := hlt
            have hl1I : (j : Int) < flA := by omega
            have hl2I : (pp : Int) < flB := by omega
            have hlA : j < (kept (inPre fo (amF nr no N)) no).length := by rw [← HFLA.out]; exact hl1
            have hlB : pp < (kept (inPre fo (amF nr no M)) no).length := by rw [← HFLB.out]; exact hl2
            obtain ⟨bA, offA, haA, hcA⟩ := HLA12.out.at_ hlA
            obtain ⟨bB, offB, haB, hcB⟩ := HLB12.out.at_ hlB
            subst haA haB
            have p0 : w12.cell? ⟨bA, offA + j * 12, none⟩ = some (.string (T (kept (inPre fo (amF nr no N)) no)[j])) := hcA 0 _ rfl
            have p1 : w12.cell? ⟨bB, offB + pp * 12, none⟩ = some (.string (T (kept (inPre fo (amF nr no M)) no)[pp])) := hcB 0 _ rfl
            have HHIT : Hid (T (kept (inPre fo (amF nr no N)) no)[j] = T (kept (inPre fo (amF nr no M)) no)[pp] → (((kept (inPre fo (amF nr no M)) no).map T).drop (pp + 1)).Sublist (((kept (inPre fo (amF nr no N)) no).map T).drop (j + 1))) := fun h => drop_hit HSUB.out (by simpa using hlA) (by simpa using hlB) (by simpa using h)
            have HMIS : Hid (T (kept (inPre fo (amF nr no N)) no)[j] ≠ T (kept (inPre fo (amF nr no M)) no)[pp] → (((kept (inPre fo (amF nr no M)) no).map T).drop pp).Sublist (((kept (inPre fo (amF nr no N)) no).map T).drop (j + 1))) := fun h => drop_miss HSUB.out (by simpa using hlA) (by simpa using hlB) (by simpa using h)
            clear hcA hcB
            by_cases heq : T (kept (inPre fo (amF nr no N)) no)[j] = T (kept (inPre fo (amF nr no M)) no)[pp]
            · have HN : Hid _ := HHIT.out heq
              rw [heq] at p0
              generalize T (kept (inPre fo (amF nr no M)) no)[pp] = tx at p0 p1
              clear heq HHIT HMIS
              go_wp2
              go_quiet (fail)
              go_wp2
              go_roundw
              case rel => exact ⟨j + 1, pp + 1, by omega, by omega, by go_num, by go_num, HN.out, _, rfl⟩
              case measure => simp [intOf]; omega
            · have HN : Hid _ := HMIS.out heq
              generalize T (kept (inPre fo (amF nr no N)) no)[j] = ta at p0 heq
              generalize T (kept (inPre fo (amF nr no M)) no)[pp] = tb at p1 heq
              have hbq := str_eql_ne heq
              have hdl : ¬ ta.toList = tb.toList := fun e => heq (bytes_inj e)
              have hbl : (ta.toList == tb.toList) = false := by rw [beq_eq_false_iff_ne]; exact hdl
              clear heq
              clear HHIT HMIS
              go_wp2
              go_quiet (fail)
              go_wp2
              go_roundw
              case rel => exact ⟨j + 1, pp, by omega, by omega, by go_num, rfl, HN.out, _, rfl⟩
              case measure => simp [intOf]; omega
          · have hend : pp = flB := by
              rw [HFLB.out]
              have := drop_end HSUB.out (by rw [List.length_map, ← HFLB.out]; exact hpp) (by rw [List.length_map, List.length_map, ← HFLA.out, ← HFLB.out]; omega)
              simpa using this
            subst hend
            clear hlt
            by_cases hl1 : j < flA
            · have hl1I : (j : Int) < flA := by omega
              go_wp2
              clear a4 d4 A4 D4 HLA12 HLB12 HFLA HFLB HSUB hflA hflB hl1I
              go_loopw [34] (fun i wr => ∃ s : Nat, s ≤ ns ∧ i = .int .i64 s ∧ ∃ q, wr = w12.drewN q) (fun i _ => ns - (intOf i).toNat)
              case atStart => exact ⟨0, by omega, rfl, _, rfl⟩
              case round =>
                obtain ⟨s, hs, rfl, q3, rfl⟩ := hrel
                by_cases hlt : s < ns
                · have hlti : (s : Int) < ns := by omega
                  obtain ⟨VA, rA, hA⟩ := HSA12.out
                  obtain ⟨VB, rB, hB⟩ := HSB12.out
                  obtain ⟨paA, pcA, hshA⟩ := (hA s hlt).list.shape
                  obtain ⟨paB, pcB, hshB⟩ := (hB s hlt).list.shape
                  have hLA := (hA s hlt).list
                  have hLB := (hB s hlt).list
                  rw [hshA] at hLA
                  rw [hshB] at hLB
                  have pA := rA.val (s * 3 + 2) (by omega)
                  have pB := rB.val (s * 3 + 2) (by omega)
                  rw [hshA] at pA
                  rw [hshB] at pB
                  obtain ⟨lA, hlA⟩ : ∃ l, l = (kept (in2 of ix (amQ nr no N) s) (S s).pl).length := ⟨_, rfl⟩
                  obtain ⟨lB, hlB⟩ : ∃ l, l = (kept (in2 of ix (amQ nr no M) s) (S s).pl).length := ⟨_, rfl⟩
                  have hplA : (lA : Int) ≤ 1048576 := by have := kept_len (in2 of ix (amQ nr no N) s) (S s).pl; have := HLP.out s hlt; omega
                  have hplB : (lB : Int) ≤ 1048576 := by have := kept_len (in2 of ix (amQ nr no M) s) (S s).pl; have := HLP.out s hlt; omega
                  rw [← hlA] at hLA pA
                  rw [← hlB] at hLB pB
                  have HLA4 : Hid (ListAt w12 (.slice paA lA pcA) 3 (kept (in2 of ix (amQ nr no N) s) (S s).pl) (refL (S s).ref)) := hLA
                  have HLB4 : Hid (ListAt w12 (.slice paB lB pcB) 3 (kept (in2 of ix (amQ nr no M) s) (S s).pl) (refL (S s).ref)) := hLB
                  have HEA : Hid (lA = (kept (in2 of ix (amQ nr no N) s) (S s).pl).length) := hlA
                  have HEB : Hid (lB = (kept (in2 of ix (amQ nr no M) s) (S s).pl).length) := hlB
                  clear rA rB hA hB hshA hshB hLA hLB hlA hlB
                  go_wp2
                  clear pA pB
                  go_loopw [37, 38] (fun p i wr => ∃ j pp : Nat, pp ≤ lB ∧ j ≤ lA ∧ i = .int .i64 j ∧ p = .int .i64 pp ∧ (((kept (in2 of ix (amQ nr no M) s) (S s).pl).map (fun i => ((S s).ref i 0, (S s).ref i 1, (S s).ref i 2))).drop pp).Sublist (((kept (in2 of ix (amQ nr no N) s) (S s).pl).map (fun i => ((S s).ref i 0, (S s).ref i 1, (S s).ref i 2))).drop j) ∧ ∃ q, wr = w12.drewN q) (fun _ i _ => lA - (intOf i).toNat)
                  case atStart => exact ⟨0, 0, by omega, by omega, rfl, rfl, (kept_mono (in2_mono HAM.out.2.2 s) (S s).pl).map _, _, rfl⟩
                  case round =>
                    obtain ⟨j, pp, hpp, hj, rfl, rfl, hsub, q4, rfl⟩ := hrel
                    have HSUB : Hid ((((kept (in2 of ix (amQ nr no M) s) (S s).pl).map (fun i => ((S s).ref i 0, (S s).ref i 1, (S s).ref i 2))).drop pp).Sublist (((kept (in2 of ix (amQ nr no N) s) (S s).pl).map (fun i => ((S s).ref i 0, (S s).ref i 1, (S s).ref i 2))).drop j)) := hsub
                    clear hsub
                    by_cases hlt4 : j < lA ∧ pp < lB
                    · obtain ⟨hl1, hl2⟩ := hlt4
                      have hl1I : (j : Int) < lA := by omega
                      have hl2I : (pp : Int) < lB := by omega
                      have hlA : j < (kept (in2 of ix (amQ nr no N) s) (S s).pl).length := by rw [← HEA.out]; exact hl1
                      have hlB : pp < (kept (in2 of ix (amQ nr no M) s) (S s).pl).length := by rw [← HEB.out]; exact hl2
                      obtain ⟨bA, offA, haA, hcA⟩ := HLA4.out.at_ hlA
                      obtain ⟨bB, offB, haB, hcB⟩ := HLB4.out.at_ hlB
                      subst haA haB
                      have p0 : w12.cell? ⟨bA, offA + j * 3, none⟩ = some (.string ((S s).ref (kept (in2 of ix (amQ nr no N) s) (S s).pl)[j] 0)) := hcA 0 _ rfl
                      have p1 : w12.cell? ⟨bA, offA + j * 3 + 1, none⟩ = some (.string ((S s).ref (kept (in2 of ix (amQ nr no N) s) (S s).pl)[j] 1)) := hcA 1 _ rfl
                      have p2 : w12.cell? ⟨bA, offA + j * 3 + 2, none⟩ = some (.string ((S s).ref (kept (in2 of ix (amQ nr no N) s) (S s).pl)[j] 2)) := hcA 2 _ rfl
                      have p3 : w12.cell? ⟨bB, offB + pp * 3, none⟩ = some (.string ((S s).ref (kept (in2 of ix (amQ nr no M) s) (S s).pl)[pp] 0)) := hcB 0 _ rfl
                      have p4 : w12.cell? ⟨bB, offB + pp * 3 + 1, none⟩ = some (.string ((S s).ref (kept (in2 of ix (amQ nr no M) s) (S s).pl)[pp] 1)) := hcB 1 _ rfl
                      have p5 : w12.cell? ⟨bB, offB + pp * 3 + 2, none⟩ = some (.string ((S s).ref (kept (in2 of ix (amQ nr no M) s) (S s).pl)[pp] 2)) := hcB 2 _ rfl
                      have hhit : (S s).ref (kept (in2 of ix (amQ nr no N) s) (S s).pl)[j] 0 = (S s).ref (kept (in2 of ix (amQ nr no M) s) (S s).pl)[pp] 0 → (S s).ref (kept (in2 of ix (amQ nr no N) s) (S s).pl)[j] 1 = (S s).ref (kept (in2 of ix (amQ nr no M) s) (S s).pl)[pp] 1 → (S s).ref (kept (in2 of ix (amQ nr no N) s) (S s).pl)[j] 2 = (S s).ref (kept (in2 of ix (amQ nr no M) s) (S s).pl)[pp] 2 → (((kept (in2 of ix (amQ nr no M) s) (S s).pl).map (fun i => ((S s).ref i 0, (S s).ref i 1, (S s).ref i 2))).drop (pp + 1)).Sublist (((kept (in2 of ix (amQ nr no N) s) (S s).pl).map (fun i => ((S s).ref i 0, (S s).ref i 1, (S s).ref i 2))).drop (j + 1)) := fun h0 h1 h2 => drop_hit HSUB.out (by simpa using hlA) (by simpa using hlB) (by simp [h0, h1, h2])
                      have hmis : ¬ ((S s).ref (kept (in2 of ix (amQ nr no N) s) (S s).pl)[j] 0 = (S s).ref (kept (in2 of ix (amQ nr no M) s) (S s).pl)[pp] 0 ∧ (S s).ref (kept (in2 of ix (amQ nr no N) s) (S s).pl)[j] 1 = (S s).ref (kept (in2 of ix (amQ nr no M) s) (S s).pl)[pp] 1 ∧ (S s).ref (kept (in2 of ix (amQ nr no N) s) (S s).pl)[j] 2 = (S s).ref (kept (in2 of ix (amQ nr no M) s) (S s).pl)[pp] 2) → (((kept (in2 of ix (amQ nr no M) s) (S s).pl).map (fun i => ((S s).ref i 0, (S s).ref i 1, (S s).ref i 2))).drop pp).Sublist (((kept (in2 of ix (amQ nr no N) s) (S s).pl).map (fun i => ((S s).ref i 0, (S s).ref i 1, (S s).ref i 2))).drop (j + 1)) := fun h => drop_miss HSUB.out (by simpa using hlA) (by simpa using hlB) (by simpa using h)
                      clear hcA hcB
                      generalize (S s).ref (kept (in2 of ix (amQ nr no N) s) (S s).pl)[j] 0 = a0 at p0 hhit hmis
                      generalize (S s).ref (kept (in2 of ix (amQ nr no N) s) (S s).pl)[j] 1 = a1 at p1 hhit hmis
                      generalize (S s).ref (kept (in2 of ix (amQ nr no N) s) (S s).pl)[j] 2 = a2 at p2 hhit hmis
                      generalize (S s).ref (kept (in2 of ix (amQ nr no M) s) (S s).pl)[pp] 0 = c0 at p3 hhit hmis
                      generalize (S s).ref (kept (in2 of ix (amQ nr no M) s) (S s).pl)[pp] 1 = c1 at p4 hhit hmis
                      generalize (S s).ref (kept (in2 of ix (amQ nr no M) s) (S s).pl)[pp] 2 = c2 at p5 hhit hmis
                      by_cases heq : a0 = c0 ∧ a1 = c1 ∧ a2 = c2
                      · obtain ⟨rfl, rfl, rfl⟩ := heq
                        have HN : Hid _ := hhit rfl rfl rfl
                        clear hhit hmis
                        go_wp2
                        go_quiet (fail)
                        go_wp2
                        go_roundw
                        case rel => exact ⟨j + 1, pp + 1, by omega, by omega, by go_num, by go_num, HN.out, _, rfl⟩
                        case measure => simp [intOf]; omega
                      · have HN : Hid _ := hmis heq
                        clear hhit hmis
                        have hbq := ref_eql_ne heq
                        clear heq
                        go_wp2
                        go_quiet (fail)
                        go_wp2
                        go_roundw
                        case rel => exact ⟨j + 1, pp, by omega, by omega, by go_num, rfl, HN.out, _, rfl⟩
                        case measure => simp [intOf]; omega
                    · have hend : pp = lB := by
                        rw [HEB.out]
                        have := drop_end HSUB.out (by rw [List.length_map, ← HEB.out]; exact hpp) (by rw [List.length_map, List.length_map, ← HEA.out, ← HEB.out]; omega)
                        simpa using this
                      subst hend
                      clear hlt4
                      by_cases hl1 : j < lA
                      · have hl1I : (j : Int) < lA := by omega
                        go_wp2
                        go_roundw
                        case rel => exact ⟨s + 1, by omega, by go_num, _, rfl⟩
                        case measure => simp [intOf]; omega
                      · have hl1I : ¬ (j : Int) < lA := by omega
                        go_wp2
                        go_roundw
                        case rel => exact ⟨s + 1, by omega, by go_num, _, rfl⟩
                        case measure => simp [intOf]; omega
                · have hkn : ¬ (s : Int) < ns := by omega
                  go_wp2
                  go_ret
                  exact ⟨rfl, below_drewN HBW.out _⟩
            · have hl1I : ¬ (j : Int) < flA := by omega
              go_wp2
              clear a4 d4 A4 D4 HLA12 HLB12 HFLA HFLB HSUB hflA hflB hl1I
              go_loopw [34] (fun i wr => ∃ s : Nat, s ≤ ns ∧ i = .int .i64 s ∧ ∃ q, wr = w12.drewN q) (fun i _ => ns - (intOf i).toNat)
              case atStart => exact ⟨0, by omega, rfl, _, rfl⟩
              case round =>
                obtain ⟨s, hs, rfl, q3, rfl⟩ := hrel
                by_cases hlt : s < ns
                · have hlti : (s : Int) < ns := by omega
                  obtain ⟨VA, rA, hA⟩ := HSA12.out
                  obtain ⟨VB, rB, hB⟩ := HSB12.out
                  obtain ⟨paA, pcA, hshA⟩ := (hA s hlt).list.shape
                  obtain ⟨paB, pcB, hshB⟩ := (hB s hlt).list.shape
                  have hLA := (hA s hlt).list
                  have hLB := (hB s hlt).list
                  rw [hshA] at hLA
                  rw [hshB] at hLB
                  have pA := rA.val (s * 3 + 2) (by omega)
                  have pB := rB.val (s * 3 + 2) (by omega)
                  rw [hshA] at pA
                  rw [hshB] at pB
                  obtain ⟨lA, hlA⟩ : ∃ l, l = (kept (in2 of ix (amQ nr no N) s) (S s).pl).length := ⟨_, rfl⟩
                  obtain ⟨lB, hlB⟩ : ∃ l, l = (kept (in2 of ix (amQ nr no M) s) (S s).pl).length := ⟨_, rfl⟩
                  have hplA : (lA : Int) ≤ 1048576 := by have := kept_len (in2 of ix (amQ nr no N) s) (S s).pl; have := HLP.out s hlt; omega
                  have hplB : (lB : Int) ≤ 1048576 := by have := kept_len (in2 of ix (amQ nr no M) s) (S s).pl; have := HLP.out s hlt; omega
                  rw [← hlA] at hLA pA
                  rw [← hlB] at hLB pB
                  have HLA4 : Hid (ListAt w12 (.slice paA lA pcA) 3 (kept (in2 of ix (amQ nr no N) s) (S s).pl) (refL (S s).ref)) := hLA
                  have HLB4 : Hid (ListAt w12 (.slice paB lB pcB) 3 (kept (in2 of ix (amQ nr no M) s) (S s).pl) (refL (S s).ref)) := hLB
                  have HEA : Hid (lA = (kept (in2 of ix (amQ nr no N) s) (S s).pl).length) := hlA
                  have HEB : Hid (lB = (kept (in2 of ix (amQ nr no M) s) (S s).pl).length) := hlB
                  clear rA rB hA hB hshA hshB hLA hLB hlA hlB
                  go_wp2
                  clear pA pB
                  go_loopw [37, 38] (fun p i wr => ∃ j pp : Nat, pp ≤ lB ∧ j ≤ lA ∧ i = .int .i64 j ∧ p = .int .i64 pp ∧ (((kept (in2 of ix (amQ nr no M) s) (S s).pl).map (fun i => ((S s).ref i 0, (S s).ref i 1, (S s).ref i 2))).drop pp).Sublist (((kept (in2 of ix (amQ nr no N) s) (S s).pl).map (fun i => ((S s).ref i 0, (S s).ref i 1, (S s).ref i 2))).drop j) ∧ ∃ q, wr = w12.drewN q) (fun _ i _ => lA - (intOf i).toNat)
                  case atStart => exact ⟨0, 0, by omega, by omega, rfl, rfl, (kept_mono (in2_mono HAM.out.2.2 s) (S s).pl).map _, _, rfl⟩
                  case round =>
                    obtain ⟨j, pp, hpp, hj, rfl, rfl, hsub, q4, rfl⟩ := hrel
                    have HSUB : Hid ((((kept (in2 of ix (amQ nr no M) s) (S s).pl).map (fun i => ((S s).ref i 0, (S s).ref i 1, (S s).ref i 2))).drop pp).Sublist (((kept (in2 of ix (amQ nr no N) s) (S s).pl).map (fun i => ((S s).ref i 0, (S s).ref i 1, (S s).ref i 2))).drop j)) := hsub
                    clear hsub
                    by_cases hlt4 : j < lA ∧ pp < lB
                    · obtain ⟨hl1, hl2⟩ := hlt4
                      have hl1I : (j : Int) < lA := by omega
                      have hl2I : (pp : Int) < lB := by omega
                      have hlA : j < (kept (in2 of ix (amQ nr no N) s) (S s).pl).length := by rw [← HEA.out]; exact hl1
                      have hlB : pp < (kept (in2 of ix (amQ nr no M) s) (S s).pl).length := by rw [← HEB.out]; exact hl2
                      obtain ⟨bA, offA, haA, hcA⟩ := HLA4.out.at_ hlA
                      obtain ⟨bB, offB, haB, hcB⟩ := HLB4.out.at_ hlB
                      subst haA haB
                      have p0 : w12.cell? ⟨bA, offA + j * 3, none⟩ = some (.string ((S s).ref (kept (in2 of ix (amQ nr no N) s) (S s).pl)[j] 0)) := hcA 0 _ rfl
                      have p1 : w12.cell? ⟨bA, offA + j * 3 + 1, none⟩ = some (.string ((S s).ref (kept (in2 of ix (amQ nr no N) s) (S s).pl)[j] 1)) := hcA 1 _ rfl
                      have p2 : w12.cell? ⟨bA, offA + j * 3 + 2, none⟩ = some (.string ((S s).ref (kept (in2 of ix (amQ nr no N) s) (S s).pl)[j] 2)) := hcA 2 _ rfl
                      have p3 : w12.cell? ⟨bB, offB + pp * 3, none⟩ = some (.string ((S s).ref (kept (in2 of ix (amQ nr no M) s) (S s).pl)[pp] 0)) := hcB 0 _ rfl
                      have p4 : w12.cell? ⟨bB, offB + pp * 3 + 1, none⟩ = some (.string ((S s).ref (kept (in2 of ix (amQ nr no M) s) (S s).pl)[pp] 1)) := hcB 1 _ rfl
                      have p5 : w12.cell? ⟨bB, offB + pp * 3 + 2, none⟩ = some (.string ((S s).ref (kept (in2 of ix (amQ nr no M) s) (S s).pl)[pp] 2)) := hcB 2 _ rfl
                      have hhit : (S s).ref (kept (in2 of ix (amQ nr no N) s) (S s).pl)[j] 0 = (S s).ref (kept (in2 of ix (amQ nr no M) s) (S s).pl)[pp] 0 → (S s).ref (kept (in2 of ix (amQ nr no N) s) (S s).pl)[j] 1 = (S s).ref (kept (in2 of ix (amQ nr no M) s) (S s).pl)[pp] 1 → (S s).ref (kept (in2 of ix (amQ nr no N) s) (S s).pl)[j] 2 = (S s).ref (kept (in2 of ix (amQ nr no M) s) (S s).pl)[pp] 2 → (((kept (in2 of ix (amQ nr no M) s) (S s).pl).map (fun i => ((S s).ref i 0, (S s).ref i 1, (S s).ref i 2))).drop (pp + 1)).Sublist (((kept (in2 of ix (amQ nr no N) s) (S s).pl).map (fun i => ((S s).ref i 0, (S s).ref i 1, (S s).ref i 2))).drop (j + 1)) := fun h0 h1 h2 => drop_hit HSUB.out (by simpa using hlA) (by simpa using hlB) (by simp [h0, h1, h2])
                      have hmis : ¬ ((S s).ref (kept (in2 of ix (amQ nr no N) s) (S s).pl)[j] 0 = (S s).ref (kept (in2 of ix (amQ nr no M) s) (S s).pl)[pp] 0 ∧ (S s).ref (kept (in2 of ix (amQ nr no N) s) (S s).pl)[j] 1 = (S s).ref (kept (in2 of ix (amQ nr no M) s) (S s).pl)[pp] 1 ∧ (S s).ref (kept (in2 of ix (amQ nr no N) s) (S s).pl)[j] 2 = (S s).ref (kept (in2 of ix (amQ nr no M) s) (S s).pl)[pp] 2) → (((kept (in2 of ix (amQ nr no M) s) (S s).pl).map (fun i => ((S s).ref i 0, (S s).ref i 1, (S s).ref i 2))).drop pp).Sublist (((kept (in2 of ix (amQ nr no N) s) (S s).pl).map (fun i => ((S s).ref i 0, (S s).ref i 1, (S s).ref i 2))).drop (j + 1)) := fun h => drop_miss HSUB.out (by simpa using hlA) (by simpa using hlB) (by simpa using h)
                      clear hcA hcB
                      generalize (S s).ref (kept (in2 of ix (amQ nr no N) s) (S s).pl)[j] 0 = a0 at p0 hhit hmis
                      generalize (S s).ref (kept (in2 of ix (amQ nr no N) s) (S s).pl)[j] 1 = a1 at p1 hhit hmis
                      generalize (S s).ref (kept (in2 of ix (amQ nr no N) s) (S s).pl)[j] 2 = a2 at p2 hhit hmis
                      generalize (S s).ref (kept (in2 of ix (amQ nr no M) s) (S s).pl)[pp] 0 = c0 at p3 hhit hmis
                      generalize (S s).ref (kept (in2 of ix (amQ nr no M) s) (S s).pl)[pp] 1 = c1 at p4 hhit hmis
                      generalize (S s).ref (kept (in2 of ix (amQ nr no M) s) (S s).pl)[pp] 2 = c2 at p5 hhit hmis
                      by_cases heq : a0 = c0 ∧ a1 = c1 ∧ a2 = c2
                      · obtain ⟨rfl, rfl, rfl⟩ := heq
                        have HN : Hid _ := hhit rfl rfl rfl
                        clear hhit hmis
                        go_wp2
                        go_quiet (fail)
                        go_wp2
                        go_roundw
                        case rel => exact ⟨j + 1, pp + 1, by omega, by omega, by go_num, by go_num, HN.out, _, rfl⟩
                        case measure => simp [intOf]; omega
                      · have HN : Hid _ := hmis heq
                        clear hhit hmis
                        have hbq := ref_eql_ne heq
                        clear heq
                        go_wp2
                        go_quiet (fail)
                        go_wp2
                        go_roundw
                        case rel => exact ⟨j + 1, pp, by omega, by omega, by go_num, rfl, HN.out, _, rfl⟩
                        case measure => simp [intOf]; omega
                    · have hend : pp = lB := by
                        rw [HEB.out]
                        have := drop_end HSUB.out (by rw [List.length_map, ← HEB.out]; exact hpp) (by rw [List.length_map, List.length_map, ← HEA.out, ← HEB.out]; omega)
                        simpa using this
                      subst hend
                      clear hlt4
                      by_cases hl1 : j < lA
                      · have hl1I : (j : Int) < lA := by omega
                        go_wp2
                        go_roundw
                        case rel => exact ⟨s + 1, by omega, by go_num, _, rfl⟩
                        case measure => simp [intOf]; omega
                      · have hl1I : ¬ (j : Int) < lA := by omega
                        go_wp2
                        go_roundw
                        case rel => exact ⟨s + 1, by omega, by go_num, _, rfl⟩
                        case measure => simp [intOf]; omega
                · have hkn : ¬ (s : Int) < ns := by omega
                  go_wp2
                  go_ret
                  exact ⟨rfl, below_drewN HBW.out _⟩
  case first =>
    cases oo with
    | none =>
      obtain ⟨h0, h1⟩ := HNI.out rfl
      subst h0 h1
      go_wp2_with fail
      go_meet
      case rel => exact ⟨none, 0, rfl, Nat.le_refl _, Or.inl rfl, HB2.out⟩
    | some a =>
      have hmk := make25 no k2
      have HG0 : Hid ((w2.alloc (.cells (madeCells #[.int .i64 0] no) 3)).heap[w2.heap.size]? = some (.cells (madeCells #[.int .i64 0] no).toList.toArray 3 (0, 0))) := by
        show _ = _
        rw [Array.toArray_toList]; exact (MapKept.heap_alloc w2 _).1
      have HB0 : Hid (Below w2.heap.size w2 (w2.alloc (.cells (madeCells #[.int .i64 0] no) 3))) := (Below.refl _ _).alloc (Nat.le_refl _) _
      go_wp2_with (refine wpList_copy_splice rfl _ _ 25 25 rfl 3 Try.underlying25 size3 _ _ _ _ _ _ rfl rfl w2.heap.size 0 _ 3 HG0.out (intL fo no) ?hn ?hpos ?hfit (intL_one fo no) w2.heap.size w2 HB0.out (Nat.le_refl _) ?_)
      case hn => rw [intL_length]; simp
      case hpos =>
        intro hp
        rw [intL_length] at hp
        rcases (HO.out.below HB2.out) with h0 | ⟨b, off, ha, hbw, hc⟩
        · omega
        · injection ha with ha
          subst ha
          intro j v hj
          have hjl : j < no := by
            have := (List.getElem?_eq_some_iff.1 hj).1
            rw [intL_length] at this; exact this
          rw [intL_get fo no j hjl] at hj
          rw [← hj, Addr.add_mid, World.cell?_alloc_lt _ _ _ (by exact hbw)]
          exact hc j hjl
      case hfit => rw [intL_length]; simp [madeCells]
      intro w3 HG3 hB3
      go_wp2_with fail
      go_meet
      case rel => exact ⟨_, no, rfl, Nat.le_refl _, copied fo HG3.out, HB2.out.trans (hB3.mono HB2.out.size)⟩
end Go.Proofs.Qxb6615139a
