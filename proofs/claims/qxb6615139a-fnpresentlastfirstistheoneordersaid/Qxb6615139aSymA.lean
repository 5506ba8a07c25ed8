/- The walk of symMerge where one side is single. -/
import Derived.Test.Qxb6615139aIns
import Derived.Deep.CutRange
namespace Go.Proofs.Qxb6615139a
open Go.RowKit Go.Lib

/-- The element at a goes to k. -/
def mv (s : Nat → Nat) (a k : Nat) : Nat → Nat := fun p => if p = k then s a else if a ≤ p ∧ p < k then s (p + 1) else s p
theorem mv_self (s : Nat → Nat) (a : Nat) : mv s a a = s := by
  funext p
  simp only [mv]
  by_cases c : p = a
  · rw [if_pos c, c]
  · rw [if_neg c, if_neg (by omega)]
theorem mv_step (s : Nat → Nat) {a k : Nat} (h : a ≤ k) : swp (mv s a k) k (k + 1) = mv s a (k + 1) := by
  funext p
  simp only [swp, mv]
  by_cases c1 : p = k
  · rw [if_pos c1, if_neg (by omega), if_neg (by omega), if_neg (by omega), if_pos (by omega), c1]
  · rw [if_neg c1]
    by_cases c2 : p = k + 1
    · rw [if_pos c2, if_pos c2, if_pos trivial]
    · rw [if_neg c2, if_neg c2, if_neg c1]
      by_cases c3 : a ≤ p ∧ p < k
      · rw [if_pos c3, if_pos (by omega)]
      · rw [if_neg c3, if_neg (by omega)]
theorem mv_prm (s : Nat → Nat) {a b k : Nat} (h : a ≤ k) (hb : k < b) : Prm a b s (mv s a k) := by
  refine ⟨fun p => if p = k then a else if a ≤ p ∧ p < k then p + 1 else p, fun p h1 h2 => ?_, fun p hp => ?_, fun p q e => ?_, fun p => ?_⟩
  · simp only; repeat' split
    all_goals omega
  · simp only; repeat' split
    all_goals omega
  · simp only at e
    revert e
    repeat' split
    all_goals omega
  · simp only [mv]
    repeat' split
    all_goals rfl
theorem rot_prm (s : Nat → Nat) {a m b a' b' : Nat} (ham : a ≤ m) (hmb : m ≤ b) (ha : a' ≤ a) (hb : b ≤ b') : Prm a' b' s (rot s a m b) := by
  refine ⟨fun p => if a ≤ p ∧ p < a + (b - m) then p - a + m else if a + (b - m) ≤ p ∧ p < b then p - (b - m) else p, fun p h1 h2 => ?_, fun p hp => ?_, fun p q e => ?_, fun p => ?_⟩
  · simp only; repeat' split
    all_goals omega
  · simp only; repeat' split
    all_goals omega
  · simp only at e
    revert e
    repeat' split
    all_goals omega
  · simp only [rot]
    repeat' split
    all_goals rfl

/-- What symMerge does. -/
def Merges (K : Sx) (N : Nat) : Prop := ∀ (s : Nat → Nat) (a m b : Nat) (w : World), b - a < N → a < m → m < b → b ≤ K.n → Srtd K.lt s a m → Srtd K.lt s m b → (∀ p q, a ≤ p → p < m → m ≤ q → q < b → s p < s q) → At K s w →
  Calls Try.prog 45 #[.agg K.data, .int .i64 a, .int .i64 m, .int .i64 b] w fun e w' => e = .returned (.tuple #[]) ∧ Kp K.g w w' ∧ ∃ t, At K t w' ∧ Prm a b s t ∧ Srtd K.lt t a b

set_option maxRecDepth 100000 in
set_option maxHeartbeats 8000000 in
theorem merge_one (K : Sx) (hn : K.n ≤ 1048576) (hL : LessOk K) (hS : Swo K.lt) (s : Nat → Nat) (a m b : Nat) (w : World) (hm : m = a + 1) (hmb : a + 1 < b) (hb : b ≤ K.n) (hr : Srtd K.lt s (a + 1) b) (hlr : ∀ q, a + 1 ≤ q → q < b → s a < s q) (h : At K s w) :
    Calls Try.prog 45 #[.agg K.data, .int .i64 a, .int .i64 m, .int .i64 b] w fun e w' => e = .returned (.tuple #[]) ∧ Kp K.g w w' ∧ ∃ t, At K t w' ∧ Prm a b s t ∧ Srtd K.lt t a b := by
  have HA : Hid (At K s w) := h
  have HR : Hid (Srtd K.lt s (a + 1) b) := hr
  have HLR : Hid (∀ q, a + 1 ≤ q → q < b → s a < s q) := hlr
  have HL : Hid (LessOk K) := hL
  have HS : Hid (Swo K.lt) := hS
  have hg : K.g < w.heap.size := h.row.lt
  clear h hr hlr hL hS
  have bI : (b : Int) ≤ 1048576 := by omega
  have aI : (a : Int) + 1 < b := by omega
  have d1 : (m : Int) - a = 1 := by omega
  have mI : (m : Int) ≤ 1048576 := by omega
  have HM : Hid (m = a + 1) := hm
  clear hm
  unfold Sx.data
  unfold Sx.sb
  go_enter Try.func45, Try.ntmps45
  go_wp2
  obtain ⟨w1, hw1⟩ : ∃ w1, w1 = w.alloc (.cells [.func (.func 30) #[] #[K.l1, K.l2], .func (.func 43) #[] #[.slice (some ⟨K.g, 0, none⟩) K.n K.cap, typeHandle Try.prog 85]].toArray 110) := ⟨_, rfl⟩
  rw [← hw1]
  have RB : Hid (Row w1 w.heap.size 2 (fun m => [.func (.func 30) #[] #[K.l1, K.l2], .func (.func 43) #[] #[.slice (some ⟨K.g, 0, none⟩) K.n K.cap, typeHandle Try.prog 85]].getD m (.bool false))) := by
    rw [hw1]; exact Row.here' w _ 110
  have HA1 : Hid (At K s w1) := by rw [hw1]; exact HA.out.alloc _
  have HK1 : Hid (Kp K.g w w1) := by rw [hw1]; exact (Kp.refl _ _).alloc _
  clear hw1 HA
  have hne : w.heap.size ≠ K.g := by omega
  go_loopw [8, 9] (fun v u wr => ∃ i j : Nat, a + 1 ≤ i ∧ i ≤ j ∧ j ≤ b ∧ v = .int .i64 i ∧ u = .int .i64 j ∧ Kp K.g w1 wr ∧ At K s wr ∧ (∀ q, a + 1 ≤ q → q < i → K.lt (s q) (s a) = true) ∧ (∀ q, j ≤ q → q < b → K.lt (s q) (s a) = false)) (fun v u _ => (intOf u).toNat - (intOf v).toNat)
  case atStart => exact ⟨m, b, by have := HM.out; omega, by have := HM.out; omega, by omega, rfl, rfl, Kp.refl _ _, HA1.out, fun q _ _ => by have := HM.out; omega, fun q _ _ => by omega⟩
  case round =>
    obtain ⟨i, j, hi, hij, hj, rfl, rfl, hkp, hat, hlo, hhi⟩ := hrel
    have iI : (i : Int) ≤ 1048576 := by omega
    have jI : (j : Int) ≤ 1048576 := by omega
    have HKP : Hid (Kp K.g w1 wr) := hkp
    have HAT : Hid (At K s wr) := hat
    have c0 : wr.cell? ⟨w.heap.size, 0, none⟩ = some (.func (.func 30) #[] #[K.l1, K.l2]) := (RB.out.kp hkp hne).val 0 (by omega)
    clear hkp hat
    by_cases hlt : i < j
    · have hlti : (i : Int) < j := by omega
      obtain ⟨hh, hhh⟩ : ∃ hh : Nat, ((i : Int) + j) / 2 = hh := ⟨(i + j) / 2, by omega⟩
      have h1 : i ≤ hh := by omega
      have h2 : hh < j := by omega
      have hl := HL.out _ wr HAT.out hh a (by omega) (by omega)
      have HLO : Hid (∀ q, a + 1 ≤ q → q < i → K.lt (s q) (s a) = true) := hlo
      have HHI : Hid (∀ q, j ≤ q → q < b → K.lt (s q) (s a) = false) := hhi
      clear hlo hhi
      cases hv : K.lt (s hh) (s a)
      · rw [hv] at hl
        have HV : Hid (K.lt (s hh) (s a) = false) := hv
        clear hv
        go_wp2_with fail
        refine hl.mono ?_
        rintro e w' ⟨rfl, hk', ha'⟩
        have HK' : Hid (Kp K.g w1 w') := HKP.out.trans hk'
        have HA' : Hid (At K s w') := ha'
        clear hk' ha' hl
        go_wp2_with fail
        go_roundw
        case rel =>
          refine ⟨i, hh, hi, h1, by omega, rfl, rfl, HK'.out, HA'.out, HLO.out, fun q q1 q2 => ?_⟩
          by_cases c : q = hh
          · rw [c]; exact HV.out
          · by_cases c2 : j ≤ q
            · exact HHI.out q c2 q2
            · cases d : K.lt (s q) (s a)
              · rfl
              · have : SLT K.lt (s hh) (s q) := HR.out hh q (by omega) (by omega) q2
                have h3 : SLT K.lt (s q) (s a) := Or.inl d
                rcases HS.out.trans this h3 with h4 | ⟨_, h4⟩
                · rw [HV.out] at h4; cases h4
                · have := HLR.out hh (by omega) (by omega); omega
        case measure => simp [intOf]; omega
      · rw [hv] at hl
        have HV : Hid (K.lt (s hh) (s a) = true) := hv
        clear hv
        go_wp2_with fail
        refine hl.mono ?_
        rintro e w' ⟨rfl, hk', ha'⟩
        have HK' : Hid (Kp K.g w1 w') := HKP.out.trans hk'
        have HA' : Hid (At K s w') := ha'
        clear hk' ha' hl
        go_wp2_with fail
        go_roundw
        case rel =>
          refine ⟨hh + 1, j, by omega, by omega, hj, by go_num, rfl, HK'.out, HA'.out, fun q q1 q2 => ?_, HHI.out⟩
          by_cases c : q = hh
          · rw [c]; exact HV.out
          · have h3 : SLT K.lt (s q) (s hh) := HR.out q hh q1 (by omega) (by omega)
            have h4 : SLT K.lt (s hh) (s a) := Or.inl HV.out
            rcases HS.out.trans h3 h4 with h5 | ⟨_, h5⟩
            · exact h5
            · have := HLR.out q q1 (by omega); omega
        case measure => simp [intOf]; omega
    · have hkn : ¬ (i : Int) < j := by omega
      have hij' : j = i := by omega
      rw [hij'] at hhi
      have HLO : Hid (∀ q, a + 1 ≤ q → q < i → K.lt (s q) (s a) = true) := hlo
      have HHI : Hid (∀ q, i ≤ q → q < b → K.lt (s q) (s a) = false) := hhi
      clear hlo hhi hij' c0
      go_wp2_with fail
      go_loopw [11] (fun v wr => ∃ k : Nat, a ≤ k ∧ k ≤ i - 1 ∧ v = .int .i64 k ∧ Kp K.g w1 wr ∧ At K (mv s a k) wr) (fun v _ => i - (intOf v).toNat)
      case atStart => exact ⟨a, by omega, by omega, rfl, HKP.out, by rw [mv_self]; exact HAT.out⟩
      case round =>
        obtain ⟨k, hak, hki, rfl, hkp2, hat2⟩ := hrel
        have HKP2 : Hid (Kp K.g w1 wr) := hkp2
        have HAT2 : Hid (At K (mv s a k) wr) := hat2
        have c1 : wr.cell? ⟨w.heap.size, 1, none⟩ = some (.func (.func 43) #[] #[.slice (some ⟨K.g, 0, none⟩) K.n K.cap, typeHandle Try.prog 85]) := (RB.out.kp hkp2 hne).val 1 (by omega)
        clear hkp2 hat2
        have kI : (k : Int) ≤ 1048576 := by omega
        by_cases hlt2 : k < i - 1
        · have hlt2I : (k : Int) < i - 1 := by omega
          have hs := HAT2.out.run_swap (i := k) (j := k + 1) (by omega) (by omega)
          rw [show (((k + 1 : Nat)) : Int) = (k : Int) + 1 by omega] at hs
          go_wp2_with fail
          go_roundw
          case rel => exact ⟨k + 1, by omega, by omega, by go_num, HKP2.out.trans (swW_kp K _ _ _ _), by rw [← mv_step s hak]; exact HAT2.out.swap (by omega) (by omega)⟩
          case measure => simp [intOf]; omega
        · have hlt2I : ¬ (k : Int) < i - 1 := by omega
          have hk' : k = i - 1 := by omega
          rw [hk'] at HAT2
          clear hk'
          go_wp2_with fail
          refine bodyPost_ret (results_none rfl _ _ _) rfl ?_
          refine ⟨rfl, HK1.out.trans HKP2.out, _, HAT2.out, mv_prm s (by omega) (by omega), ?_⟩
          intro p q hp hpq hq
          simp only [mv]
          by_cases c1 : p = i - 1
          · rw [if_pos c1, if_neg (by omega), if_neg (by omega)]
            exact Or.inr ⟨HHI.out q (by omega) hq, HLR.out q (by omega) hq⟩
          · rw [if_neg c1]
            by_cases c2 : a ≤ p ∧ p < i - 1
            · rw [if_pos c2]
              by_cases c3 : q = i - 1
              · rw [if_pos c3]; exact Or.inl (HLO.out (p + 1) (by omega) (by omega))
              · rw [if_neg c3]
                by_cases c4 : a ≤ q ∧ q < i - 1
                · rw [if_pos c4]; exact HR.out (p + 1) (q + 1) (by omega) (by omega) (by omega)
                · rw [if_neg c4]; exact HR.out (p + 1) q (by omega) (by omega) hq
            · rw [if_neg c2, if_neg (by omega), if_neg (by omega)]
              exact HR.out p q (by omega) hpq hq

set_option maxRecDepth 100000 in
set_option maxHeartbeats 8000000 in
theorem merge_last (K : Sx) (hn : K.n ≤ 1048576) (hL : LessOk K) (hS : Swo K.lt) (s : Nat → Nat) (a m b : Nat) (w : World) (hbm : b = m + 1) (ham : a + 1 < m) (hb : b ≤ K.n) (hl : Srtd K.lt s a m) (hlr : ∀ p, a ≤ p → p < m → s p < s m) (h : At K s w) :
    Calls Try.prog 45 #[.agg K.data, .int .i64 a, .int .i64 m, .int .i64 b] w fun e w' => e = .returned (.tuple #[]) ∧ Kp K.g w w' ∧ ∃ t, At K t w' ∧ Prm a b s t ∧ Srtd K.lt t a b := by
  have HA : Hid (At K s w) := h
  have HLS : Hid (Srtd K.lt s a m) := hl
  have HLR : Hid (∀ p, a ≤ p → p < m → s p < s m) := hlr
  have HL : Hid (LessOk K) := hL
  have HS : Hid (Swo K.lt) := hS
  have hg : K.g < w.heap.size := h.row.lt
  clear h hl hlr hL hS
  have bI : (b : Int) ≤ 1048576 := by omega
  have mI : (m : Int) < b := by omega
  have aI : (a : Int) < m := by omega
  have d1 : ((m : Int) - a == 1) = false := by rw [beq_eq_false_iff_ne]; omega
  have d2 : (b : Int) - m = 1 := by omega
  have hmn : m < K.n := by omega
  have HBM : Hid (b = m + 1) := hbm
  clear hbm
  unfold Sx.data
  unfold Sx.sb
  go_enter Try.func45, Try.ntmps45
  go_wp2
  obtain ⟨w1, hw1⟩ : ∃ w1, w1 = w.alloc (.cells [.func (.func 30) #[] #[K.l1, K.l2], .func (.func 43) #[] #[.slice (some ⟨K.g, 0, none⟩) K.n K.cap, typeHandle Try.prog 85]].toArray 110) := ⟨_, rfl⟩
  rw [← hw1]
  have RB : Hid (Row w1 w.heap.size 2 (fun m => [.func (.func 30) #[] #[K.l1, K.l2], .func (.func 43) #[] #[.slice (some ⟨K.g, 0, none⟩) K.n K.cap, typeHandle Try.prog 85]].getD m (.bool false))) := by
    rw [hw1]; exact Row.here' w _ 110
  have HA1 : Hid (At K s w1) := by rw [hw1]; exact HA.out.alloc _
  have HK1 : Hid (Kp K.g w w1) := by rw [hw1]; exact (Kp.refl _ _).alloc _
  clear hw1 HA
  have hne : w.heap.size ≠ K.g := by omega
  go_loopw [12, 13] (fun v u wr => ∃ i j : Nat, a ≤ i ∧ i ≤ j ∧ j ≤ m ∧ v = .int .i64 i ∧ u = .int .i64 j ∧ Kp K.g w1 wr ∧ At K s wr ∧ (∀ p, a ≤ p → p < i → K.lt (s m) (s p) = false) ∧ (∀ p, j ≤ p → p < m → K.lt (s m) (s p) = true)) (fun v u _ => (intOf u).toNat - (intOf v).toNat)
  case atStart => exact ⟨a, m, by omega, by omega, by omega, rfl, rfl, Kp.refl _ _, HA1.out, fun q _ _ => by omega, fun q _ _ => by omega⟩
  case round =>
    obtain ⟨i, j, hi, hij, hj, rfl, rfl, hkp, hat, hlo, hhi⟩ := hrel
    have iI : (i : Int) ≤ 1048576 := by omega
    have jI : (j : Int) ≤ 1048576 := by omega
    have HKP : Hid (Kp K.g w1 wr) := hkp
    have HAT : Hid (At K s wr) := hat
    have c0 : wr.cell? ⟨w.heap.size, 0, none⟩ = some (.func (.func 30) #[] #[K.l1, K.l2]) := (RB.out.kp hkp hne).val 0 (by omega)
    clear hkp hat
    by_cases hlt : i < j
    · have hlti : (i : Int) < j := by omega
      obtain ⟨hh, hhh⟩ : ∃ hh : Nat, ((i : Int) + j) / 2 = hh := ⟨(i + j) / 2, by omega⟩
      have h1 : i ≤ hh := by omega
      have h2 : hh < j := by omega
      have hl := HL.out _ wr HAT.out m hh (by omega) (by omega)
      have HLO : Hid (∀ p, a ≤ p → p < i → K.lt (s m) (s p) = false) := hlo
      have HHI : Hid (∀ p, j ≤ p → p < m → K.lt (s m) (s p) = true) := hhi
      clear hlo hhi
      cases hv : K.lt (s m) (s hh)
      · rw [hv] at hl
        have HV : Hid (K.lt (s m) (s hh) = false) := hv
        clear hv
        go_wp2_with fail
        refine hl.mono ?_
        rintro e w' ⟨rfl, hk', ha'⟩
        have HK' : Hid (Kp K.g w1 w') := HKP.out.trans hk'
        have HA' : Hid (At K s w') := ha'
        clear hk' ha' hl
        go_wp2_with fail
        go_roundw
        case rel =>
          refine ⟨hh + 1, j, by omega, by omega, hj, by go_num, rfl, HK'.out, HA'.out, fun q q1 q2 => ?_, HHI.out⟩
          by_cases c : q = hh
          · rw [c]; exact HV.out
          · cases d : K.lt (s m) (s q)
            · rfl
            · have h3 : SLT K.lt (s q) (s hh) := HLS.out q hh q1 (by omega) (by omega)
              rcases HS.out.trans (Or.inl d) h3 with h5 | ⟨_, h5⟩
              · rw [HV.out] at h5; cases h5
              · have := HLR.out hh (by omega) (by omega); omega
        case measure => simp [intOf]; omega
      · rw [hv] at hl
        have HV : Hid (K.lt (s m) (s hh) = true) := hv
        clear hv
        go_wp2_with fail
        refine hl.mono ?_
        rintro e w' ⟨rfl, hk', ha'⟩
        have HK' : Hid (Kp K.g w1 w') := HKP.out.trans hk'
        have HA' : Hid (At K s w') := ha'
        clear hk' ha' hl
        go_wp2_with fail
        go_roundw
        case rel =>
          refine ⟨i, hh, hi, h1, by omega, rfl, rfl, HK'.out, HA'.out, HLO.out, fun q q1 q2 => ?_⟩
          by_cases c : q = hh
          · rw [c]; exact HV.out
          · have h3 : SLT K.lt (s hh) (s q) := HLS.out hh q (by omega) (by omega) q2
            rcases HS.out.trans (Or.inl HV.out) h3 with h5 | ⟨_, h5⟩
            · exact h5
            · have := HLR.out q (by omega) q2; omega
        case measure => simp [intOf]; omega
    · have hkn : ¬ (i : Int) < j := by omega
      have hij' : j = i := by omega
      rw [hij'] at hhi
      have HLO : Hid (∀ p, a ≤ p → p < i → K.lt (s m) (s p) = false) := hlo
      have HHI : Hid (∀ p, i ≤ p → p < m → K.lt (s m) (s p) = true) := hhi
      clear hlo hhi hij' c0
      go_wp2_with fail
      go_loopw [15] (fun v wr => ∃ k : Nat, i ≤ k ∧ k ≤ m ∧ v = .int .i64 k ∧ Kp K.g w1 wr ∧ At K (ins s m k) wr) (fun v _ => (intOf v).toNat)
      case atStart => exact ⟨m, by omega, by omega, rfl, HKP.out, by rw [ins_self]; exact HAT.out⟩
      case round =>
        obtain ⟨k, hik, hkm, rfl, hkp2, hat2⟩ := hrel
        have HKP2 : Hid (Kp K.g w1 wr) := hkp2
        have HAT2 : Hid (At K (ins s m k) wr) := hat2
        have c1 : wr.cell? ⟨w.heap.size, 1, none⟩ = some (.func (.func 43) #[] #[.slice (some ⟨K.g, 0, none⟩) K.n K.cap, typeHandle Try.prog 85]) := (RB.out.kp hkp2 hne).val 1 (by omega)
        clear hkp2 hat2
        have kI : (k : Int) ≤ 1048576 := by omega
        by_cases hlt2 : i < k
        · have hlt2I : (i : Int) < k := by omega
          have hs := HAT2.out.run_swap (i := k) (j := k - 1) (by omega) (by omega)
          rw [show (((k - 1 : Nat)) : Int) = (k : Int) - 1 by omega] at hs
          go_wp2_with fail
          go_roundw
          case rel => exact ⟨k - 1, by omega, by omega, by go_num, HKP2.out.trans (swW_kp K _ _ _ _), by rw [← ins_step s (by omega) hkm]; exact HAT2.out.swap (by omega) (by omega)⟩
          case measure => simp [intOf]; omega
        · have hlt2I : ¬ (i : Int) < k := by omega
          have hk' : k = i := by omega
          rw [hk'] at HAT2
          clear hk'
          go_wp2_with fail
          refine bodyPost_ret (results_none rfl _ _ _) rfl ?_
          refine ⟨rfl, HK1.out.trans HKP2.out, _, HAT2.out, ins_prm s hi (by omega) (by omega), ?_⟩
          rw [HBM.out]
          refine ins_srtd HS.out hi (by omega) HLS.out (fun p p1 p2 => HHI.out (p - 1) (by omega) (by omega)) ?_
          by_cases c : i = a
          · exact Or.inl c
          · exact Or.inr (Or.inr ⟨HLO.out (i - 1) (by omega) (by omega), HLR.out (i - 1) (by omega) (by omega)⟩)
end Go.Proofs.Qxb6615139a
