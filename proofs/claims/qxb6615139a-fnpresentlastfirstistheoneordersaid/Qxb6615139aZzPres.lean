/- The walk of ZZPresentLastFirst. -/
import Derived.Test.Qxb6615139aPres
import Derived.Test.Qxb6615139aSplit
namespace Go.Proofs.Qxb6615139a
open Go.RowKit

/-- What ZZPresentLastFirst answers. -/
def ZzPresAns (w : World) (S : Nat → Scn) (ns : Nat) (e : Ending) (w' : World) : Prop :=
  ∃ g1 g2 t, e = .returned (.tuple #[.slice (some ⟨g1, 0, none⟩) (sumPl S ns) (sumPl S ns), .slice (some ⟨g2, 0, none⟩) (sumPl S ns) (sumPl S ns)]) ∧ OneOrder S ns t ∧
    CellsAt w' (some ⟨g1, 0, none⟩) (sumPl S ns) (fun k => .int .i64 (posX S ns (t k) : Int)) ∧ CellsAt w' (some ⟨g2, 0, none⟩) (sumPl S ns) (fun k => .int .i64 (posY S ns (t k) : Int)) ∧ Below w.heap.size w w'

set_option maxRecDepth 100000 in
set_option maxHeartbeats 8000000 in
theorem zzPresW_of (gs ns fn fc rn rc : Nat) (fo ro : Option Addr) (S : Nat → Scn) (w : World) (ls : sumPl S ns ≤ 1048576)
    (hP : ∀ W, Below w.heap.size w W → Calls Try.prog 22 #[.agg (cL (.slice fo fn fc) (.slice ro rn rc) (.slice (some ⟨gs, 0, none⟩) ns ns)).toArray] W (PresAns W S ns)) :
    Calls Try.prog 15 #[.agg (cL (.slice fo fn fc) (.slice ro rn rc) (.slice (some ⟨gs, 0, none⟩) ns ns)).toArray] w (ZzPresAns w S ns) := by
  have HP : Hid _ := hP
  have hnI : (sumPl S ns : Int) ≤ 1048576 := by omega
  obtain ⟨n, hn⟩ : ∃ n, n = sumPl S ns := ⟨_, rfl⟩
  have HN : Hid (n = sumPl S ns) := hn
  have hmk := make25 n (by omega)
  rw [← hn] at hnI
  clear hP hn ls
  unfold cL
  go_enter Try.func15, Try.ntmps15
  go_wp2_with fail
  refine (HP.out _ ((Below.refl _ _).alloc (Nat.le_refl _) _)).mono ?_
  rintro e w1 ⟨ao, cap, t, rfl, hone, hprs, hb⟩
  rw [← HN.out] at hprs ⊢
  have HPR : Hid (PairsAt w1 ao n (fun k => (posX S ns (t k) : Int)) (fun k => (posY S ns (t k) : Int))) := hprs
  have HONE : Hid (OneOrder S ns t) := hone
  have HB1 : Hid (Below w.heap.size w w1) := (((Below.refl _ _).alloc (Nat.le_refl _) _).trans (hb.mono (by simp)))
  clear hprs hone hb HP
  have hz1 : w.heap.size ≤ w1.heap.size := HB1.out.size
  go_wp2
  clear hmk
  go_loopw [19] (fun i wr => ∃ k : Nat, k ≤ n ∧ i = .int .i64 k ∧ IntsTo wr w1.heap.size n k (fun k => (posX S ns (t k) : Int)) ∧ IntsTo wr (w1.heap.size + 1) n k (fun k => (posY S ns (t k) : Int)) ∧ Below w1.heap.size w1 wr) (fun i _ => n - (intOf i).toNat)
  case atStart =>
    refine ⟨0, by omega, rfl, (IntsTo.made w1 n _).alloc _, ?_, ((Below.refl _ _).alloc (Nat.le_refl _) _).alloc (by simp) _⟩
    have := IntsTo.made (w1.alloc (.cells (madeCells #[.int .i64 0] n) 3)) n (fun k => (posY S ns (t k) : Int))
    simpa using this
  case round =>
    obtain ⟨k, hk, rfl, h1, h2, hb⟩ := hrel
    have H1 : Hid (IntsTo wr w1.heap.size n k (fun k => (posX S ns (t k) : Int))) := h1
    have H2 : Hid (IntsTo wr (w1.heap.size + 1) n k (fun k => (posY S ns (t k) : Int))) := h2
    have HB : Hid (Below w1.heap.size w1 wr) := hb
    clear h1 h2 hb
    by_cases hlt : k < n
    · have hlti : (k : Int) < n := by omega
      obtain ⟨b, off, ha, hbw, hc⟩ := pair_at HPR.out (by omega)
      subst ha
      have p0 := (HB.out.cell (by exact hbw)).trans (hc k hlt).1
      have p1 := (HB.out.cell (by exact hbw)).trans (hc k hlt).2
      obtain ⟨V1, r1, _⟩ := H1.out
      obtain ⟨V2, r2, _⟩ := H2.out
      have v1 := r1.val k hlt
      have v2 := r2.val k hlt
      have z1 := r1.open_ k
      have z2 := r2.open_ k
      have zl1 := r1.lt
      have zl2 := r2.lt
      have hne : b ≠ w1.heap.size := by omega
      have hne' : w1.heap.size ≠ b := by omega
      have HN1 : Hid (IntsTo (((wr.setCell ⟨w1.heap.size, k, none⟩ (.int .i64 (posX S ns (t k)))).setCell ⟨w1.heap.size + 1, k, none⟩ (.int .i64 (posY S ns (t k)))).alloc (.cells #[.int .i64 (posX S ns (t k)), .int .i64 (posY S ns (t k))] 85)) w1.heap.size n (k + 1) (fun k => (posX S ns (t k) : Int))) := ((H1.out.put hlt).far (by show w1.heap.size + 1 ≠ w1.heap.size; omega) _).alloc _
      have HN2 : Hid (IntsTo (((wr.setCell ⟨w1.heap.size, k, none⟩ (.int .i64 (posX S ns (t k)))).setCell ⟨w1.heap.size + 1, k, none⟩ (.int .i64 (posY S ns (t k)))).alloc (.cells #[.int .i64 (posX S ns (t k)), .int .i64 (posY S ns (t k))] 85)) (w1.heap.size + 1) n (k + 1) (fun k => (posY S ns (t k) : Int))) := ((H2.out.far (by show w1.heap.size ≠ w1.heap.size + 1; omega) _).put hlt).alloc _
      have HBN : Hid (Below w1.heap.size w1 (((wr.setCell ⟨w1.heap.size, k, none⟩ (.int .i64 (posX S ns (t k)))).setCell ⟨w1.heap.size + 1, k, none⟩ (.int .i64 (posY S ns (t k)))).alloc (.cells #[.int .i64 (posX S ns (t k)), .int .i64 (posY S ns (t k))] 85))) := ((HB.out.setCell (by exact Nat.le_refl _) _).setCell (by exact Nat.le_succ _) _).alloc (by simp only [World.size_setCell]; omega) _
      generalize posX S ns (t k) = x at p0 HN1 HN2 HBN
      generalize posY S ns (t k) = y at p1 HN1 HN2 HBN
      clear hc r1 r2
      go_wp2
      go_roundw
      case rel => exact ⟨k + 1, by omega, by go_num, HN1.out, HN2.out, HBN.out⟩
      case measure => simp [intOf]; omega
    · have hkn : ¬ (k : Int) < n := by omega
      have hn' : n = k := by omega
      subst hn'
      go_wp2
      go_ret2
      refine ⟨w1.heap.size, w1.heap.size + 1, t, ?_, HONE.out, ?_, ?_, HB1.out.trans (HB.out.mono hz1)⟩
      · rw [← HN.out]; rfl
      · rw [← HN.out]; exact H1.out.cells
      · rw [← HN.out]; exact H2.out.cells
end Go.Proofs.Qxb6615139a
