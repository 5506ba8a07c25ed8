/- The walk of presentLastFirst. -/
import Derived.Test.Qxb6615139aPos
import Derived.Test.Qxb6615139aSlSt
import Derived.Maps.AppendAt
import Derived.OwnWalk
import Derived.Laws.EntriesVeiled
namespace Go.Proofs.Qxb6615139a
open Go.RowKit

def pairV (z : Nat × Nat) : List Value := [.int .i64 z.1, .int .i64 z.2]
theorem flat2 : ∀ (L : List (Nat × Nat)) (k : Nat), k < L.length → (L.flatMap pairV)[k * 2]? = some (.int .i64 (L.getD k (0, 0)).1) ∧ (L.flatMap pairV)[k * 2 + 1]? = some (.int .i64 (L.getD k (0, 0)).2)
  | a :: L, 0, _ => by simp [pairV]
  | a :: L, k + 1, hk => by
    have := flat2 L k (by simpa using hk)
    rw [List.flatMap_cons]
    simp only [pairV, List.cons_append, List.nil_append, show (k + 1) * 2 = k * 2 + 1 + 1 by omega, List.getElem?_cons_succ, List.getD_cons_succ]
    exact this
theorem own_shape {w : World} {B m n : Nat} {e : TypeId} {v : Value} {xs : List Value} (h : w.ownsRow B e m v n xs) : ∃ p c, v = .slice p n c := by
  rcases h.2 with ⟨rfl, rfl⟩ | ⟨g, cap, cur, rfl, _⟩
  · exact ⟨_, _, rfl⟩
  · exact ⟨_, _, rfl⟩
theorem own_form {w : World} {B m n : Nat} {e : TypeId} {v : Value} {xs : List Value} (h : w.ownsRow B e m v n xs) (hn : 0 < n) : ∃ g c, v = .slice (some ⟨g, 0, none⟩) n c ∧ B ≤ g ∧ g < w.heap.size := by
  rcases h.2 with ⟨_, h0⟩ | ⟨g, cap, cur, hv, hb, hg, _⟩
  · omega
  · exact ⟨g, cap, hv, hb, (Array.getElem?_eq_some_iff.1 hg).1⟩
theorem own_prs {w : World} {B g n cap : Nat} {L : List (Nat × Nat)} (h : w.ownsRow B 85 2 (.slice (some ⟨g, 0, none⟩) n cap) n (L.flatMap pairV)) (hn : n = L.length) :
    Prs w g n (fun k => ((L.getD k (0, 0)).1 : Int)) (fun k => ((L.getD k (0, 0)).2 : Int)) := by
  subst hn
  refine ⟨fun m => (L.flatMap pairV).getD m (.bool false), ?_, fun j hj => ?_⟩
  · rcases h.2 with ⟨h0, _⟩ | ⟨g', cap', cur, hv, hb, hg, _⟩
    · cases h0
    · cases hv
      refine ⟨(Array.getElem?_eq_some_iff.1 hg).1, fun m hm => ?_, fun m => by simp [World.frozen?, hg]⟩
      have hl : m < (L.flatMap pairV).length := by rw [h.1]; exact hm
      have := h.cells (g := g) rfl m _ (List.getElem?_eq_getElem hl)
      rw [Addr.add_mid, Nat.zero_add] at this
      rw [this, List.getD, List.getElem?_eq_getElem hl]
      rfl
  · obtain ⟨h1, h2⟩ := flat2 L j hj
    simp only [List.getD, h1, h2, Option.getD_some, and_self]

/-- The order as it grows: c's box, the variable, its row. -/
structure Grow (w W : World) (f r s vv : Value) (L : List (Nat × Nat)) : Prop where
  below : Below w.heap.size w W
  box : Row W w.heap.size 9 (fun m => (cL f r s).getD m (.bool false))
  var : Row W (w.heap.size + 1) 1 (fun _ => vv)
  own : W.ownsRow (w.heap.size + 2) 85 2 vv L.length (L.flatMap pairV)
  size : w.heap.size + 2 ≤ W.heap.size
theorem Grow.start (w : World) (f r s : Value) : Grow w ((w.alloc (.cells (cL f r s).toArray 38)).alloc (.cells #[.slice none 0 0] 83)) f r s (.slice none 0 0) [] := by
  refine ⟨((Below.refl _ _).alloc (Nat.le_refl _) _).alloc (by simp) _, (Row.here' w (cL f r s) 38).alloc _, ?_, World.ownsRow_nil _ _ _ _, by simp⟩
  have := Row.here' (w.alloc (.cells (cL f r s).toArray 38)) [.slice none 0 0] 83
  rw [World.size_alloc] at this
  exact this.ext (fun m hm => by have : m = 0 := by simpa using hm
                                 subst this; rfl)
theorem Grow.alloc {w W : World} {f r s vv : Value} {L : List (Nat × Nat)} (h : Grow w W f r s vv L) (o : Obj) : Grow w (W.alloc o) f r s vv L :=
  ⟨h.below.alloc h.below.size _, h.box.alloc o, h.var.alloc o, h.own.alloc o, by have := h.size; simp only [World.size_alloc]; omega⟩
theorem Grow.step {w W W1 : World} {f r s vv v' : Value} {L : List (Nat × Nat)} {z : Nat × Nat} (h : Grow w W f r s vv L) (hb : Below (w.heap.size + 2) W W1)
    (ho : W1.ownsRow (w.heap.size + 2) 85 2 v' (L.length + 1) (L.flatMap pairV ++ pairV z)) : Grow w (W1.setCell ⟨w.heap.size + 1, 0, none⟩ v') f r s v' (L ++ [z]) := by
  refine ⟨(h.below.trans (hb.mono (by omega))).setCell (by show w.heap.size ≤ w.heap.size + 1; omega) _, (h.box.below hb (by omega)).far (by show w.heap.size + 1 ≠ w.heap.size; omega) _,
    ((h.var.below hb (by omega)).put (m := 0) (by omega) v').ext (fun m hm => by rw [if_pos (by omega)]), ?_, by have := h.size; have := hb.size; simp only [World.size_setCell]; omega⟩
  have := ownsRow_setCell_below ho (a := ⟨w.heap.size + 1, 0, none⟩) (by show w.heap.size + 1 < _; omega) v'
  simpa [List.flatMap_append] using this

theorem sumPl_mono (S : Nat → Scn) {a b : Nat} (h : a ≤ b) : sumPl S a ≤ sumPl S b := by
  induction b with
  | zero => have : a = 0 := by omega
            subst this; exact Nat.le_refl _
  | succ b ih =>
    by_cases e : a = b + 1
    · subst e; exact Nat.le_refl _
    · have := ih (by omega)
      simp only [sumPl]; omega

theorem news_at2 (W : World) (cs : List Value) (t : TypeId) (g : Nat) (hg : g = W.heap.size) : ∀ j u, cs[j]? = some u → (W.alloc (.cells cs.toArray t)).cell? ((⟨g, 0, none⟩ : Addr).add j) = some u := by
  intro j u hu
  rw [Addr.add_mid, Nat.zero_add, World.cell?_alloc_at _ _ _ _ hg]
  simpa using hu

/-- What presentLastFirst answers. -/
def PresAns (w : World) (S : Nat → Scn) (ns : Nat) (e : Ending) (w' : World) : Prop :=
  ∃ ao cap t, e = .returned (.slice ao (sumPl S ns) cap) ∧ OneOrder S ns t ∧ PairsAt w' ao (sumPl S ns) (fun k => (posX S ns (t k) : Int)) (fun k => (posY S ns (t k) : Int)) ∧ Below w.heap.size w w'

set_option maxRecDepth 100000 in
set_option maxHeartbeats 8000000 in
theorem presW_of (hLess : ∀ w0 g cap rc oc cb gs ns S PB, Bound w0 g cap rc oc cb gs ns S PB → LessOk (sortK w0 g cap rc oc S ns))
    (gs ns fn fc rn rc : Nat) (fo ro : Option Addr) (S : Nat → Scn) (PB : Nat → Nat) (w : World) (hsc : ScTo w gs ns ns S PB) (l1 : ns ≤ 1048576) (ls : sumPl S ns ≤ 1048576) :
    Calls Try.prog 22 #[.agg (cL (.slice fo fn fc) (.slice ro rn rc) (.slice (some ⟨gs, 0, none⟩) ns ns)).toArray] w (PresAns w S ns) := by
  have HLess : Hid _ := hLess
  have HSC : Hid (ScTo w gs ns ns S PB) := hsc
  have HLS : Hid (sumPl S ns ≤ 1048576) := ls
  have L1 : (ns : Int) ≤ 1048576 := by omega
  clear hLess hsc ls l1
  unfold cL
  go_enter Try.func22, Try.ntmps22
  go_wp2
  go_loopw [11] (fun i wr => ∃ (k : Nat) (vv : Value), k ≤ ns ∧ i = .int .i64 k ∧ Grow w wr (.slice fo fn fc) (.slice ro rn rc) (.slice (some ⟨gs, 0, none⟩) ns ns) vv (posL S k)) (fun i _ => ns - (intOf i).toNat)
  case atStart => exact ⟨0, _, by omega, rfl, Grow.start w _ _ _⟩
  case round =>
    obtain ⟨k, vv, hk, rfl, hg⟩ := hrel
    have HG : Hid (Grow w wr (.slice fo fn fc) (.slice ro rn rc) (.slice (some ⟨gs, 0, none⟩) ns ns) vv (posL S k)) := hg
    clear hg
    by_cases hlt : k < ns
    · have hlti : (k : Int) < ns := by omega
      obtain ⟨⟨V, hr, hv⟩, h2⟩ := HSC.out
      have hgs := hr.lt
      have c0 := (HG.out.below.cell (by exact hgs)).trans (hr.val (k * 3) (by omega))
      have c1 := (HG.out.below.cell (by exact hgs)).trans (hr.val (k * 3 + 1) (by omega))
      have c2 := (HG.out.below.cell (by exact hgs)).trans (hr.val (k * 3 + 2) (by omega))
      rw [(hv k hlt).1] at c0
      rw [(hv k hlt).2.1] at c1
      rw [(hv k hlt).2.2] at c2
      have hsum : sumPl S (k + 1) ≤ sumPl S ns := sumPl_mono S (by omega)
      have hpl : (S k).pl ≤ 1048576 := by have := HLS.out; simp only [sumPl] at hsum; omega
      have hplI : ((S k).pl : Int) ≤ 1048576 := by omega
      have HSM : Hid (sumPl S k + (S k).pl ≤ 1048576) := by have := HLS.out; show _ ≤ _; simp only [sumPl] at hsum; omega
      have hgw : w.heap.size + 2 ≤ wr.heap.size := HG.out.size
      clear hr hv h2 hsum hpl
      go_wp2
      go_loopw [19] (fun i wx => ∃ (q : Nat) (vq : Value), q ≤ (S k).pl ∧ i = .int .i64 q ∧ Grow w wx (.slice fo fn fc) (.slice ro rn rc) (.slice (some ⟨gs, 0, none⟩) ns ns) vq (posL S k ++ (List.range q).map (fun i => (k, i)))) (fun i _ => (S k).pl - (intOf i).toNat)
      case atStart => exact ⟨0, vv, by omega, rfl, by simpa using HG.out.alloc _⟩
      case round =>
        clear HG hgw c0 c1 c2 hgs
        obtain ⟨q, vq, hq, rfl, hg⟩ := hrel
        by_cases hltq : q < (S k).pl
        · have hqI : (q : Int) < (S k).pl := by omega
          obtain ⟨LL, hLL⟩ : ∃ LL, LL = posL S k ++ (List.range q).map (fun i => (k, i)) := ⟨_, rfl⟩
          have HLL : Hid (LL ++ [(k, q)] = posL S k ++ (List.range (q + 1)).map (fun i => (k, i))) := by
            show _ = _
            rw [hLL, List.range_succ, List.map_append, ← List.append_assoc]; rfl
          have hll : LL.length ≤ 1048576 := by have := HSM.out; rw [hLL, List.length_append, posL_len, List.length_map, List.length_range]; omega
          rw [← hLL] at hg
          have HG : Hid (Grow w wr (.slice fo fn fc) (.slice ro rn rc) (.slice (some ⟨gs, 0, none⟩) ns ns) vq LL) := hg
          have hgw : w.heap.size + 2 ≤ wr.heap.size := hg.size
          have v0 := hg.var.val 0 (by omega)
          clear hg hLL
          obtain ⟨pq, cq, hvq⟩ := own_shape HG.out.own
          subst hvq
          obtain ⟨i0, hi0, hz0, hz1, hz2⟩ := info_parts (P := Try.prog) (e := 85) (z := .agg #[.int .i64 0, .int .i64 0]) (size := 2) (bytes := 16) (by kernel_rfl)
          have HI0 : Hid (Try.prog.info? 85 = some i0) := hi0
          have HZ0 : Hid _ := hz0
          have HZ1 : Hid _ := hz1
          have HZ2 : Hid _ := hz2
          clear hi0 hz0 hz1 hz2
          go_wp2_with (at_builtin; refine wpList_append_own_at _ rfl _ _ 83 rfl (w.heap.size + 2) 85 i0 _ 2 16 Try.underlying83 HI0.out HZ0.out HZ1.out HZ2.out rfl (by decide) (.slice pq LL.length cq) LL.length (LL.flatMap pairV) rfl (HG.out.own.alloc _) ⟨wr.heap.size, 0, none⟩ 1 1 (pairV (k, q)) rfl rfl (news_at2 _ (pairV (k, q)) 85 _ rfl) (by simp [pairV, Value.oneCell']) (by unfold maxLen; omega) (by omega) (by simp only [World.size_alloc]; omega) ?_; intro v' w1 hown' hgrow hnil hat; obtain ⟨p', c', hv'⟩ := own_shape hown'; subst hv'; have hbw := ((Below.refl (w.heap.size + 2) wr).alloc hgw _).grown hgrow (by simp only [World.size_alloc]; omega) (fun j hj => (HG.out.own.lt j hj).1); have HGN : Hid _ := HG.out.step hbw hown'; have u0 := (HG.out.var.below hbw (by omega)).val 0 (by omega); have u1 := (HG.out.var.below hbw (by omega)).open_ 0; clear hown' hgrow hnil hat hbw)
          go_roundw
          case rel => exact ⟨q + 1, _, by omega, by go_num, by rw [← HLL.out]; exact HGN.out⟩
          case measure => simp [intOf]; omega
        · have hqI : ¬ (q : Int) < (S k).pl := by omega
          have hqe : (S k).pl = q := by omega
          have HG : Hid (Grow w wr (.slice fo fn fc) (.slice ro rn rc) (.slice (some ⟨gs, 0, none⟩) ns ns) vq (posL S (k + 1))) := by
            show Grow _ _ _ _ _ _ _
            simp only [posL]
            rw [hqe]; exact hg
          clear hg
          go_wp2
          go_roundw
          case rel => exact ⟨k + 1, vq, by omega, by go_num, HG.out⟩
          case measure => simp [intOf]; omega
    · have hkn : ¬ (k : Int) < ns := by omega
      have hn' : ns = k := by omega
      have HG' : Hid (Grow w wr (.slice fo fn fc) (.slice ro rn rc) (.slice (some ⟨gs, 0, none⟩) ns ns) vv (posL S ns)) := by
        show Grow _ _ _ _ _ _ _
        rw [hn']; rw [← hn']; exact hn' ▸ HG.out
      have hgw : w.heap.size + 2 ≤ wr.heap.size := HG'.out.size
      obtain ⟨p, c, hvv⟩ := own_shape HG'.out.own
      rw [posL_len] at hvv
      subst hvv
      clear HG hn' hk
      have v0 : wr.cell? ⟨w.heap.size + 1, 0, none⟩ = some (.slice p (sumPl S ns) c) := HG'.out.var.val 0 (by omega)
      have hlt1 : w.heap.size + 1 < wr.heap.size := by omega
      clear hgw
      obtain ⟨n, hn⟩ : ∃ n, n = sumPl S ns := ⟨_, rfl⟩
      have HN : Hid (n = sumPl S ns) := hn
      rw [← hn] at v0
      clear hn
      go_wp2_with fail
      obtain ⟨w5, hw5⟩ : ∃ w5, w5 = wr.alloc (.cells #[.func (.func 28) #[] #[.pointer (some ⟨w.heap.size, 0, none⟩)]] 98) := ⟨_, rfl⟩
      rw [← hw5]
      have G5 := HG'.out.alloc (.cells #[.func (.func 28) #[] #[.pointer (some ⟨w.heap.size, 0, none⟩)]] 98)
      have R5 := Row.here' wr [.func (.func 28) #[] #[.pointer (some ⟨w.heap.size, 0, none⟩)]] 98
      have z5 : w5.heap.size = wr.heap.size + 1 := by rw [hw5, World.size_alloc]
      have v5 : w5.cell? ⟨w.heap.size + 1, 0, none⟩ = some (.slice p n c) := by have := G5.var.val 0 (by omega); rw [hw5, this, HN.out]
      rw [← hw5] at G5
      have c5 : w5.cell? ⟨wr.heap.size, 0, none⟩ = some (.func (.func 28) #[] #[.pointer (some ⟨w.heap.size, 0, none⟩)]) := by rw [hw5]; exact R5.val 0 (by simp)
      have HG5 : Hid (Grow w w5 (.slice fo fn fc) (.slice ro rn rc) (.slice (some ⟨gs, 0, none⟩) ns ns) (.slice p (sumPl S ns) c) (posL S ns)) := G5
      have form : 0 < n → ∃ g, p = some ⟨g, 0, none⟩ ∧ w.heap.size + 2 ≤ g ∧ g < wr.heap.size ∧ Prs w5 g n (fun k => (posX S ns k : Int)) (fun k => (posY S ns k : Int)) := fun h0 => by
        obtain ⟨g, cap, hv, hg1, hg2⟩ := own_form HG'.out.own (by rw [posL_len, ← HN.out]; exact h0)
        injection hv with e1 _ _
        refine ⟨g, e1, hg1, hg2, ?_⟩
        have h1 := HG5.out.own
        rw [e1] at h1
        rw [posL_len, ← HN.out] at h1
        exact own_prs h1 (by rw [posL_len, HN.out])
      have HF : Hid _ := form
      clear hw5 G5 R5 form HG'
      by_cases h2 : 2 ≤ n
      · obtain ⟨g, hp, hg1, hg2, hprs⟩ := HF.out (by omega)
        subst hp
        have hn := HN.out
        subst hn
        have hB : Bound w5 g c wr.heap.size (w.heap.size + 1) w.heap.size gs ns S PB := by
          refine ⟨c5, v5, HG5.out.box.val 6 (by omega), HSC.out.below HG5.out.below, by omega, by omega, by omega, by omega, by omega, by omega, ?_, fun j hj => ?_⟩
          · obtain ⟨⟨V, hr, _⟩, _⟩ := HSC.out
            have := hr.lt; omega
          · have := (HSC.out.2 j hj).2.1; omega
        refine (sliceStableW (sortK w5 g c wr.heap.size (w.heap.size + 1) S ns) HLS.out h2 (HLess.out _ _ _ _ _ _ _ _ _ _ hB) (ltP_swo S ns) w5 ⟨Kp.refl _ _, hprs, fun p hp => hp⟩).mono ?_
        rintro e w6 ⟨rfl, hk, t, hat, hprm, hsrt⟩
        have hk' : Kp g w5 w6 := hk
        have v6 := (hk'.cell (p := ⟨w.heap.size + 1, 0, none⟩) (by show w.heap.size + 1 < _; omega) (by show w.heap.size + 1 ≠ g; omega)).trans v5
        have HFIN : Hid (PresAns w S ns (.returned (.slice (some ⟨g, 0, none⟩) (sumPl S ns) c)) w6) := by
          refine ⟨_, c, t, rfl, OneOrder.of_sorted hprm hsrt, Or.inr ⟨g, 0, rfl, hat.row.lt, fun j hj => ?_⟩, HG5.out.below.trans (hk'.below (by omega) (by omega))⟩
          have := hat.row.cells hj
          rw [Nat.zero_add]
          exact this
        clear hat hprm hsrt hk hk' hB hprs
        go_wp2_with fail
        go_ret
        exact HFIN.out
      · refine (sliceStableTiny p n c (by omega) _ _ w5).mono ?_
        rintro e w6 ⟨rfl, hb⟩
        have v6 := (hb.cell (p := ⟨w.heap.size + 1, 0, none⟩) (by show w.heap.size + 1 < _; omega)).trans v5
        have HFIN : Hid (PresAns w S ns (.returned (.slice p n c)) w6) := by
          refine ⟨p, c, id, by rw [HN.out], OneOrder.tiny (by rw [← HN.out]; omega), ?_, HG5.out.below.trans (hb.mono (by omega))⟩
          by_cases h0 : n = 0
          · exact Or.inl (by rw [← HN.out]; exact h0)
          · obtain ⟨g, hp, hg1, hg2, hprs⟩ := HF.out (by omega)
            refine Or.inr ⟨g, 0, hp, by have := hb.size; omega, fun j hj => ?_⟩
            have := (hprs.below hb).cells (by rw [HN.out]; exact hj)
            rw [Nat.zero_add]
            exact this
        clear hb HF
        go_wp2_with fail
        go_ret
        exact HFIN.out
end Go.Proofs.Qxb6615139a
