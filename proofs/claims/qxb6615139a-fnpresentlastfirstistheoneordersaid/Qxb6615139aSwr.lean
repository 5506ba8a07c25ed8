/- The walk of swapRange. -/
import Derived.Test.Qxb6615139aSrt
namespace Go.Proofs.Qxb6615139a
open Go.RowKit Go.Lib

theorem Row.here' (w : World) (cs : List Value) (t : TypeId) : Row (w.alloc (.cells cs.toArray t)) w.heap.size cs.length (fun m => cs.getD m (.bool false)) :=
  ⟨by simp, fun m hm => by rw [World.cell?_alloc_new]; simp [hm], fun m => by rw [frozen?_alloc_cells]; simp [World.frozen?]⟩
/-- Two ranges of k change places. -/
def swr (s : Nat → Nat) (a b k : Nat) : Nat → Nat := fun p => if a ≤ p ∧ p < a + k then s (p - a + b) else if b ≤ p ∧ p < b + k then s (p - b + a) else s p
theorem swr_step (s : Nat → Nat) {a b i : Nat} (h : a + i < b) : swp (swr s a b i) (a + i) (b + i) = swr s a b (i + 1) := by
  funext p
  simp only [swp, swr]
  repeat' split
  all_goals first | rfl | omega | (congr 1; omega)

set_option maxRecDepth 100000 in
set_option maxHeartbeats 2000000 in
theorem swapRangeW (K : Sx) (hn : K.n ≤ 1048576) (s : Nat → Nat) (a b k : Nat) (hab : a + k ≤ b) (hb : b + k ≤ K.n) (w : World) (h : At K s w) :
    Calls Try.prog 47 #[.agg K.data, .int .i64 a, .int .i64 b, .int .i64 k] w fun e w' => e = .returned (.tuple #[]) ∧ Kp K.g w w' ∧ At K (swr s a b k) w' := by
  have HA : Hid (At K s w) := h
  have hg : K.g < w.heap.size := h.row.lt
  clear h
  have bI : (b : Int) ≤ 1048576 := by omega
  have aI : (a : Int) ≤ 1048576 := by omega
  have kI : (k : Int) ≤ 1048576 := by omega
  obtain ⟨lv, hlv⟩ : ∃ lv, lv = Value.func (.func 30) #[] #[K.l1, K.l2] := ⟨_, rfl⟩
  unfold Sx.data
  rw [← hlv]
  clear hlv
  unfold Sx.sb
  go_enter Try.func47, Try.ntmps47
  go_wp2
  obtain ⟨w1, hw1⟩ : ∃ w1, w1 = w.alloc (.cells [lv, .func (.func 43) #[] #[.slice (some ⟨K.g, 0, none⟩) K.n K.cap, typeHandle Try.prog 85]].toArray 110) := ⟨_, rfl⟩
  rw [← hw1]
  have RB : Hid (Row w1 w.heap.size 2 (fun m => [lv, .func (.func 43) #[] #[.slice (some ⟨K.g, 0, none⟩) K.n K.cap, typeHandle Try.prog 85]].getD m (.bool false))) := by
    rw [hw1]; exact Row.here' w _ 110
  have HA1 : Hid (At K s w1) := by rw [hw1]; exact HA.out.alloc _
  have HK1 : Hid (Kp K.g w w1) := by rw [hw1]; exact (Kp.refl _ _).alloc _
  clear hw1 HA
  have hne : w.heap.size ≠ K.g := by omega
  go_loopw [8] (fun v wr => ∃ i : Nat, i ≤ k ∧ v = .int .i64 i ∧ Kp K.g w1 wr ∧ At K (swr s a b i) wr) (fun v _ => k - (intOf v).toNat)
  case atStart => exact ⟨0, by omega, rfl, Kp.refl _ _, HA1.out.ext (fun p _ => by simp only [swr]; rw [if_neg (by omega), if_neg (by omega)])⟩
  case round =>
    obtain ⟨i, hi, rfl, hkp, hat⟩ := hrel
    have HKP : Hid (Kp K.g w1 wr) := hkp
    have HAT : Hid (At K (swr s a b i) wr) := hat
    have c1 : wr.cell? ⟨w.heap.size, 1, none⟩ = some (.func (.func 43) #[] #[.slice (some ⟨K.g, 0, none⟩) K.n K.cap, typeHandle Try.prog 85]) := (RB.out.kp hkp hne).val 1 (by omega)
    clear hkp hat
    by_cases hlt : i < k
    · have hlti : (i : Int) < k := by omega
      have hs := HAT.out.run_swap (i := a + i) (j := b + i) (by omega) (by omega)
      simp only [Int.natCast_add] at hs
      go_wp2
      go_roundw
      case rel =>
        refine ⟨i + 1, by omega, by go_num, HKP.out.trans (swW_kp K _ _ _ _), ?_⟩
        rw [← swr_step s (by omega)]
        exact HAT.out.swap (by omega) (by omega)
      case measure => simp [intOf]; omega
    · have hkn : ¬ (i : Int) < k := by omega
      have hn' : i = k := by omega
      rw [hn'] at HAT
      clear hn'
      go_wp2
      go_end0
      exact ⟨rfl, HK1.out.trans HKP.out, HAT.out⟩

/-- The ranges [a, m) and [m, b) change places. -/
def rot (s : Nat → Nat) (a m b : Nat) : Nat → Nat := fun p => if a ≤ p ∧ p < a + (b - m) then s (p - a + m) else if a + (b - m) ≤ p ∧ p < b then s (p - (b - m)) else s p
theorem rot_left (s : Nat → Nat) {m i j : Nat} (hi : i ≤ m) (h : j < i) : rot (swr s (m - i) m j) (m - (i - j)) m (m + j) = rot s (m - i) m (m + j) := by
  funext p
  simp only [rot, swr]
  repeat' split
  all_goals first | rfl | omega | (congr 1; omega)
theorem rot_right (s : Nat → Nat) {m i j : Nat} (hi : i ≤ m) (h : i < j) : rot (swr s (m - i) (m + j - i) i) (m - i) m (m + (j - i)) = rot s (m - i) m (m + j) := by
  funext p
  simp only [rot, swr]
  repeat' split
  all_goals first | rfl | omega | (congr 1; omega)
theorem rot_end (s : Nat → Nat) {m i : Nat} (hi : i ≤ m) : swr s (m - i) m i = rot s (m - i) m (m + i) := by
  funext p
  simp only [rot, swr]
  repeat' split
  all_goals first | rfl | omega | (congr 1; omega)

set_option maxRecDepth 100000 in
set_option maxHeartbeats 4000000 in
theorem rotateW (K : Sx) (hn : K.n ≤ 1048576) (s : Nat → Nat) (a m b : Nat) (ham : a < m) (hmb : m < b) (hb : b ≤ K.n) (w : World) (h : At K s w) :
    Calls Try.prog 46 #[.agg K.data, .int .i64 a, .int .i64 m, .int .i64 b] w fun e w' => e = .returned (.tuple #[]) ∧ Kp K.g w w' ∧ At K (rot s a m b) w' := by
  have HA : Hid (At K s w) := h
  have hg : K.g < w.heap.size := h.row.lt
  clear h
  have bI : (b : Int) ≤ 1048576 := by omega
  have mI : (m : Int) < b := by omega
  have aI : (a : Int) < m := by omega
  have d1 : (m : Int) - a = (m - a : Nat) := by omega
  have d2 : (b : Int) - m = (b - m : Nat) := by omega
  unfold Sx.data
  unfold Sx.sb
  go_enter Try.func46, Try.ntmps46
  go_wp2
  obtain ⟨w1, hw1⟩ : ∃ w1, w1 = w.alloc (.cells [.func (.func 30) #[] #[K.l1, K.l2], .func (.func 43) #[] #[.slice (some ⟨K.g, 0, none⟩) K.n K.cap, typeHandle Try.prog 85]].toArray 110) := ⟨_, rfl⟩
  rw [← hw1]
  have RB : Hid (Row w1 w.heap.size 2 (fun m => [.func (.func 30) #[] #[K.l1, K.l2], .func (.func 43) #[] #[.slice (some ⟨K.g, 0, none⟩) K.n K.cap, typeHandle Try.prog 85]].getD m (.bool false))) := by
    rw [hw1]; exact Row.here' w _ 110
  have HA1 : Hid (At K s w1) := by rw [hw1]; exact HA.out.alloc _
  have HK1 : Hid (Kp K.g w w1) := by rw [hw1]; exact (Kp.refl _ _).alloc _
  clear hw1 HA
  have hne : w.heap.size ≠ K.g := by omega
  go_loopw [8, 9] (fun v u wr => ∃ (i j : Nat) (t : Nat → Nat), 0 < i ∧ 0 < j ∧ i ≤ m - a ∧ j ≤ b - m ∧ v = .int .i64 i ∧ u = .int .i64 j ∧ Kp K.g w1 wr ∧ At K t wr ∧ rot t (m - i) m (m + j) = rot s a m b) (fun v u _ => (intOf v).toNat + (intOf u).toNat)
  case atStart => exact ⟨m - a, b - m, s, by omega, by omega, by omega, by omega, rfl, rfl, Kp.refl _ _, HA1.out, by rw [show m - (m - a) = a by omega, show m + (b - m) = b by omega]⟩
  case round =>
    obtain ⟨i, j, t, hi0, hj0, him, hjm, rfl, rfl, hkp, hat, hrot⟩ := hrel
    have HKP : Hid (Kp K.g w1 wr) := hkp
    have HAT : Hid (At K t wr) := hat
    have HRO : Hid (rot t (m - i) m (m + j) = rot s a m b) := hrot
    have c0 : wr.cell? ⟨w.heap.size, 0, none⟩ = some (.func (.func 30) #[] #[K.l1, K.l2]) := (RB.out.kp hkp hne).val 0 (by omega)
    have c1 : wr.cell? ⟨w.heap.size, 1, none⟩ = some (.func (.func 43) #[] #[.slice (some ⟨K.g, 0, none⟩) K.n K.cap, typeHandle Try.prog 85]) := (RB.out.kp hkp hne).val 1 (by omega)
    clear hkp hat hrot
    have e1 : (m : Int) - i = (m - i : Nat) := by omega
    have iI : (i : Int) ≤ 1048576 := by omega
    have jI : (j : Int) ≤ 1048576 := by omega
    have m0 : (m : Int) ≤ 1048576 := by omega
    by_cases hij : i = j
    · subst hij
      go_wp2_with fail
      refine (swapRangeW K hn t (m - i) m i (by omega) (by omega) wr HAT.out).mono ?_
      rintro e w2 ⟨rfl, hk2, ha2⟩
      rw [rot_end t (by omega), HRO.out] at ha2
      have HK2 : Hid _ := hk2
      have HA2 : Hid _ := ha2
      clear hk2 ha2
      go_wp2_with fail
      go_end0
      exact ⟨rfl, HK1.out.trans (HKP.out.trans HK2.out), HA2.out⟩
    · have hij' : ((i : Int) != j) = true := by rw [bne_iff_ne]; omega
      by_cases hgt : j < i
      · have hgI : (j : Int) < i := by omega
        have e4 : (i : Int) - j = (i - j : Nat) := by omega
        go_wp2_with fail
        refine (swapRangeW K hn t (m - i) m j (by omega) (by omega) wr HAT.out).mono ?_
        rintro e w2 ⟨rfl, hk2, ha2⟩
        have HK2 : Hid (Kp K.g wr w2) := hk2
        have HA2 : Hid (At K (swr t (m - i) m j) w2) := ha2
        clear hk2 ha2
        go_wp2_with fail
        go_roundw
        case rel => exact ⟨i - j, j, swr t (m - i) m j, by omega, by omega, by omega, by omega, rfl, rfl, HKP.out.trans HK2.out, HA2.out, (rot_left t (by omega) hgt).trans HRO.out⟩
        case measure => simp [intOf]; omega
      · have hgI : ¬ (j : Int) < i := by omega
        have e3 : (m : Int) + j - i = (m + j - i : Nat) := by omega
        have e4 : (j : Int) - i = (j - i : Nat) := by omega
        go_wp2_with fail
        refine (swapRangeW K hn t (m - i) (m + j - i) i (by omega) (by omega) wr HAT.out).mono ?_
        rintro e w2 ⟨rfl, hk2, ha2⟩
        have HK2 : Hid (Kp K.g wr w2) := hk2
        have HA2 : Hid (At K (swr t (m - i) (m + j - i) i) w2) := ha2
        clear hk2 ha2
        go_wp2_with fail
        go_roundw
        case rel => exact ⟨i, j - i, swr t (m - i) (m + j - i) i, by omega, by omega, by omega, by omega, rfl, rfl, HKP.out.trans HK2.out, HA2.out, (rot_right t (by omega) (by omega)).trans HRO.out⟩
        case measure => simp [intOf]; omega
end Go.Proofs.Qxb6615139a
