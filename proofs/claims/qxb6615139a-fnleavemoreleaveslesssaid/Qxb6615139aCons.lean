/- The walk of conserves. -/
import Derived.Test.Qxb6615139aLeave
namespace Go.Proofs.Qxb6615139a
open Go.RowKit

theorem sumN_le {f : Nat → Nat} {B : Nat} : ∀ n, (∀ j < n, f j ≤ B) → sumN f n ≤ n * B
  | 0, _ => by simp [sumN]
  | n + 1, h => by have := sumN_le n (fun j hj => h j (by omega)); have := h n (by omega); simp only [sumN, Nat.succ_mul]; omega
theorem sumPl_sumN (S : Nat → Scn) : ∀ n, sumPl S n = sumN (fun j => (S j).pl) n
  | 0 => rfl
  | n + 1 => by simp only [sumPl, sumN]; rw [sumPl_sumN S n]

set_option maxRecDepth 100000 in
set_option maxHeartbeats 8000000 in
theorem conservesW (gr ro rl fl g ns nr nf n E F Q cs : Nat) (fao so : Option Addr) (fcp : Nat) (ptr : Option Addr) (ob : Bool) (b1 b2 b3 : Int) (S : Nat → Scn) (R : Nat → List Nat) (P : Nat → Prop) (w : World)
    (hsc : ScenesAt w so ns S) (hk : KeptTo w P g ns ns S R) (ho : OmAt w ptr (b1 + E) (b2 + F) (b3 + Q)) (hR : ∀ j < ns, (R j).length ≤ 1048576)
    (hrl : nr = rl + E) (hfl : nf = fl + F) (hsum : sumN (fun j => (R j).length) ns + Q = sumPl S ns) (hn : n = E + F + Q)
    (lf : nf ≤ 1048576) (lr : nr ≤ 1048576) (x1 : 0 ≤ b1) (x2 : b1 ≤ 1073741824) (x3 : 0 ≤ b2) (x4 : b2 ≤ 1073741824) (x5 : 0 ≤ b3) (x6 : b3 ≤ 1073741824) (lns : ns ≤ 1048576) (lpl : ∀ j < ns, (S j).pl ≤ 1048576) :
    Calls Try.prog 12 #[.agg (hL (.slice fao fl fcp) (.slice (some ⟨gr, ro, none⟩) rl rl) (.slice (some ⟨g, 0, none⟩) ns ns) (.pointer ptr) (.bool ob)).toArray, .int .i64 nr, .int .i64 nf, .slice so ns cs, .agg #[.int .i64 b1, .int .i64 b2, .int .i64 b3], .int .i64 n] w fun e w' =>
      e = .returned (.bool true) ∧ Below w.heap.size w w' := by
  have HSC : Hid (ScenesAt w so ns S) := hsc
  have HK : Hid (KeptTo w P g ns ns S R) := hk
  have HO : Hid (OmAt w ptr (b1 + E) (b2 + F) (b3 + Q)) := ho
  have HR : Hid (∀ j < ns, (R j).length ≤ 1048576) := hR
  have HRL : Hid (nr = rl + E) := hrl
  have HFL : Hid (nf = fl + F) := hfl
  have HSU : Hid (sumN (fun j => (R j).length) ns + Q = sumPl S ns) := hsum
  have HNN : Hid (n = E + F + Q) := hn
  have HLP : Hid (∀ j < ns, (S j).pl ≤ 1048576) := lpl
  clear hsc hk ho hR hrl hfl hsum hn lpl
  have L1 : (nf : Int) ≤ 1048576 := by omega
  have L2 : (nr : Int) ≤ 1048576 := by omega
  have L3 : (fl : Int) ≤ 1048576 := by have := HFL.out; omega
  have L4 : (rl : Int) ≤ 1048576 := by have := HRL.out; omega
  unfold hL
  go_enter Try.func12, Try.ntmps12
  go_wp2
  obtain ⟨w0, hw0⟩ : ∃ w0, w0 = ((w.alloc (.cells (hL (.slice fao fl fcp) (.slice (some ⟨gr, ro, none⟩) rl rl) (.slice (some ⟨g, 0, none⟩) ns ns) (.pointer ptr) (.bool ob)).toArray 38)).alloc (.cells [.int .i64 b1, .int .i64 b2, .int .i64 b3].toArray 41)) := ⟨_, rfl⟩
  have hw0' := hw0
  unfold hL at hw0'
  rw [← hw0']
  clear hw0'
  have z0 : w0.heap.size = w.heap.size + 2 := by rw [hw0]; simp
  have RC : Hid (Row w0 w.heap.size 9 (fun m => (hL (.slice fao fl fcp) (.slice (some ⟨gr, ro, none⟩) rl rl) (.slice (some ⟨g, 0, none⟩) ns ns) (.pointer ptr) (.bool ob)).getD m (.bool false))) := by
    rw [hw0]; exact (Row.here w (hL (.slice fao fl fcp) (.slice (some ⟨gr, ro, none⟩) rl rl) (.slice (some ⟨g, 0, none⟩) ns ns) (.pointer ptr) (.bool ob)) 38).alloc _
  have RB : Hid (Row w0 (w.heap.size + 1) 3 (fun m => [Value.int .i64 b1, .int .i64 b2, .int .i64 b3].getD m (.bool false))) := by
    rw [hw0]
    have := Row.here (w.alloc (.cells (hL (.slice fao fl fcp) (.slice (some ⟨gr, ro, none⟩) rl rl) (.slice (some ⟨g, 0, none⟩) ns ns) (.pointer ptr) (.bool ob)).toArray 38)) [Value.int .i64 b1, .int .i64 b2, .int .i64 b3] 41
    rw [World.size_alloc] at this
    exact this
  have B0 : Hid (Below w.heap.size w w0) := by
    rw [hw0]
    exact ((Below.refl w.heap.size w).alloc (Nat.le_refl _) _).alloc (by simp) _
  clear hw0
  have c4 : w0.cell? ⟨w.heap.size, 4, none⟩ = some (.slice fao fl fcp) := RC.out.val 4 (by omega)
  have c5 : w0.cell? ⟨w.heap.size, 5, none⟩ = some (.slice (some ⟨gr, ro, none⟩) rl rl) := RC.out.val 5 (by omega)
  have c6 : w0.cell? ⟨w.heap.size, 6, none⟩ = some (.slice (some ⟨g, 0, none⟩) ns ns) := RC.out.val 6 (by omega)
  have c7 : w0.cell? ⟨w.heap.size, 7, none⟩ = some (.pointer ptr) := RC.out.val 7 (by omega)
  have C4 : Hid _ := c4
  have C5 : Hid _ := c5
  have C7 : Hid _ := c7
  clear c4 c5 c7
  go_loopw [13, 14] (fun t i wr => ∃ k : Nat, k ≤ ns ∧ i = .int .i64 k ∧ t = .int .i64 (sumN (fun j => (R j).length) k) ∧ w0 = wr) (fun _ i _ => ns - (intOf i).toNat)
  case atStart => exact ⟨0, by omega, rfl, rfl, rfl⟩
  case round =>
    obtain ⟨k, hk, rfl, rfl, rfl⟩ := hrel
    have hsl := sumN_le (f := fun j => (R j).length) k (fun j hj => HR.out j (by omega))
    have hsI : (sumN (fun j => (R j).length) k : Int) ≤ 1099511627776 := by omega
    by_cases hlt : k < ns
    · have hlti : (k : Int) < ns := by omega
      obtain ⟨V, rv, hv⟩ := HK.out
      obtain ⟨pao, pcap, hsh⟩ := (hv k hlt).list.shape
      have p2 := (B0.out.cell (by exact rv.lt)).trans (rv.val (k * 3 + 2) (by omega))
      rw [hsh] at p2
      have hrI : ((R k).length : Int) ≤ 1048576 := by have := HR.out k hlt; omega
      have hst : (sumN (fun j => (R j).length) (k + 1) : Int) = sumN (fun j => (R j).length) k + (R k).length := by simp only [sumN]; omega
      have HST : Hid _ := hst
      clear rv hv hsh hst hsl
      generalize sumN (fun j => (R j).length) k = sk at *
      go_wp2
      go_roundw
      case rel => exact ⟨k + 1, by omega, by go_num, by rw [HST.out], trivial⟩
      case measure => simp [intOf]; omega
    · have hkn : ¬ (k : Int) < ns := by omega
      have hn' : ns = k := by omega
      rw [← hn'] at hsI ⊢
      have HSI : Hid _ := hsI
      clear hn' hsl hsI
      go_wp2_with fail
      refine (presentCountW so ns cs S _ (HSC.out.below B0.out) lns HLP.out).mono ?_
      rintro e w1 ⟨rfl, rfl⟩
      have hspl := sumPl_le S ns HLP.out
      have hsu := HSU.out
      have hsi := HSI.out
      have hspI : (sumPl S ns : Int) ≤ 1099511627776 := by omega
      clear HSU HSI hspl
      obtain ⟨hp, hhp⟩ : ∃ hp, hp = sumN (fun j => (R j).length) ns := ⟨_, rfl⟩
      obtain ⟨sp, hsp⟩ : ∃ sp, sp = sumPl S ns := ⟨_, rfl⟩
      rw [← hhp] at hsu hsi ⊢
      rw [← hsp] at hsu hspI ⊢
      clear hhp hsp
      have hnI : (n : Int) ≤ 1199511627776 := by have := HNN.out; have := HRL.out; have := HFL.out; omega
      have hcmp : ((rl : Int) + fl + hp != nr + nf + sp - n) = false := by
        rw [bne_eq_false_iff_eq]; have := HNN.out; have := HRL.out; have := HFL.out; omega
      have q1 : (nr : Int) - rl = E := by have := HRL.out; omega
      have q2 : (nf : Int) - fl = F := by have := HFL.out; omega
      have q3 : (sp : Int) - hp = Q := by omega
      have c4 := C4.out
      have c5 := C5.out
      have c7 := C7.out
      have e0 : w0.cell? ⟨w.heap.size + 1, 0, none⟩ = some (.int .i64 b1) := RB.out.val 0 (by omega)
      have e1 : w0.cell? ⟨w.heap.size + 1, 1, none⟩ = some (.int .i64 b2) := RB.out.val 1 (by omega)
      have e2 : w0.cell? ⟨w.heap.size + 1, 2, none⟩ = some (.int .i64 b3) := RB.out.val 2 (by omega)
      have HSU : Hid _ := hsu
      have HZ0 : Hid (w0.heap.size = w.heap.size + 2) := z0
      clear hsu z0
      rcases HO.out with ⟨hptr, a1, a2, a3⟩ | ⟨o, hptr, hrow, hnz⟩
      · have n0 : n = 0 := by have := HNN.out; omega
        have y1 : b1 = 0 := by omega
        have y2 : b2 = 0 := by omega
        have y3 : b3 = 0 := by omega
        have hn0 : (n : Int) = 0 := by omega
        rw [hptr] at c7
        rw [y1] at e0
        rw [y2] at e1
        rw [y3] at e2
        clear HO a1 a2 a3 C7 hptr n0 y1 y2 y3
        go_wp2
        go_ret
        exact ⟨rfl, B0.out⟩
      · have r0 := hrow.below B0.out hrow.lt
        have p0 : w0.cell? ⟨o, 0, none⟩ = some (.int .i64 (b1 + E)) := r0.val 0 (by omega)
        have p1 : w0.cell? ⟨o, 1, none⟩ = some (.int .i64 (b2 + F)) := r0.val 1 (by omega)
        have p2 : w0.cell? ⟨o, 2, none⟩ = some (.int .i64 (b3 + Q)) := r0.val 2 (by omega)
        have s1 : b1 + E - b1 = E := by omega
        have s2 : b2 + F - b2 = F := by omega
        have s3 : b3 + Q - b3 = Q := by omega
        have hEI : (E : Int) ≤ 1048576 := by have := HRL.out; omega
        have hFI : (F : Int) ≤ 1048576 := by have := HFL.out; omega
        have hQI : (Q : Int) ≤ 1099511627776 := by have := HSU.out; omega
        rw [hptr] at c7
        have HNZ : Hid (¬ (b1 + (E : Int) = 0 ∧ b2 + (F : Int) = 0 ∧ b3 + (Q : Int) = 0)) := hnz
        have hz1 : w.heap.size < w0.heap.size := by have := HZ0.out; omega
        have hz2 : w.heap.size + 1 < w0.heap.size := by have := HZ0.out; omega
        have HBE : Hid (∀ o', Below w.heap.size w (w0.alloc o')) := fun o' => B0.out.alloc B0.out.size _
        clear HO C7 hptr hrow r0 hnz
        by_cases g1 : b1 + (E : Int) = 0
        · rw [g1] at p0
          have g1' : (0 : Int) - b1 = E := by omega
          by_cases g2 : b2 + (F : Int) = 0
          · have g2' : (0 : Int) - b2 = F := by omega
            rw [g2] at p1
            have g3 : ((b3 + (Q : Int)) == 0) = false := by
              rw [beq_eq_false_iff_ne]; intro h; exact HNZ.out ⟨g1, g2, h⟩
            clear g1 g2
            go_wp2
            go_ret
            exact ⟨rfl, HBE.out _⟩
          · have g2' : ((b2 + (F : Int)) == 0) = false := by rw [beq_eq_false_iff_ne]; exact g2
            clear g1 g2
            go_wp2
            go_ret
            exact ⟨rfl, HBE.out _⟩
        · have g1' : ((b1 + (E : Int)) == 0) = false := by rw [beq_eq_false_iff_ne]; exact g1
          clear g1
          go_wp2
          go_ret
          exact ⟨rfl, HBE.out _⟩
end Go.Proofs.Qxb6615139a
