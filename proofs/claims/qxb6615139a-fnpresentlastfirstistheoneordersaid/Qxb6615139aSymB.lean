/- The walk of symMerge. -/
import Derived.Test.Qxb6615139aSymP
import Derived.Deep.CutRange
namespace Go.Proofs.Qxb6615139a
open Go.RowKit Go.Lib

set_option maxRecDepth 100000 in
set_option maxHeartbeats 16000000 in
theorem merge_both (K : Sx) (hn : K.n ≤ 1048576) (hL : LessOk K) (hS : Swo K.lt) (N : Nat) (ih : Merges K N) (s : Nat → Nat) (a m b : Nat) (w : World) (hN : b - a < N + 1) (ham : a + 1 < m) (hmb : m + 1 < b) (hb : b ≤ K.n) (hl : Srtd K.lt s a m) (hr : Srtd K.lt s m b)
    (hlr : ∀ p q, a ≤ p → p < m → m ≤ q → q < b → s p < s q) (h : At K s w) :
    Calls Try.prog 45 #[.agg K.data, .int .i64 a, .int .i64 m, .int .i64 b] w fun e w' => e = .returned (.tuple #[]) ∧ Kp K.g w w' ∧ ∃ t, At K t w' ∧ Prm a b s t ∧ Srtd K.lt t a b := by
  have HA : Hid (At K s w) := h
  have HIH : Hid (Merges K N) := ih
  have HLS : Hid (Srtd K.lt s a m) := hl
  have HRS : Hid (Srtd K.lt s m b) := hr
  have HLR : Hid (∀ p q, a ≤ p → p < m → m ≤ q → q < b → s p < s q) := hlr
  have HL : Hid (LessOk K) := hL
  have HS : Hid (Swo K.lt) := hS
  have hg : K.g < w.heap.size := h.row.lt
  clear h hl hr hlr hL hS ih
  have bI : (b : Int) ≤ 1048576 := by omega
  have mI : (m : Int) < b := by omega
  have aI : (a : Int) < m := by omega
  have d1 : ((m : Int) - a == 1) = false := by rw [beq_eq_false_iff_ne]; omega
  have d2 : ((b : Int) - m == 1) = false := by rw [beq_eq_false_iff_ne]; omega
  obtain ⟨mid, hmid⟩ : ∃ mid : Nat, ((a : Int) + b) / 2 = mid := ⟨(a + b) / 2, by omega⟩
  have g1 : 2 * mid ≤ a + b := by omega
  have g2 : a + b ≤ 2 * mid + 1 := by omega
  have midI : (mid : Int) ≤ 1048576 := by omega
  unfold Sx.data
  unfold Sx.sb
  go_enter Try.func45, Try.ntmps45
  go_upto_if 106 with (fail)
  obtain ⟨w1, hw1⟩ : ∃ w1, w1 = w.alloc (.cells [.func (.func 30) #[] #[K.l1, K.l2], .func (.func 43) #[] #[.slice (some ⟨K.g, 0, none⟩) K.n K.cap, typeHandle Try.prog 85]].toArray 110) := ⟨_, rfl⟩
  rw [← hw1]
  have RB : Hid (Row w1 w.heap.size 2 (fun m => [.func (.func 30) #[] #[K.l1, K.l2], .func (.func 43) #[] #[.slice (some ⟨K.g, 0, none⟩) K.n K.cap, typeHandle Try.prog 85]].getD m (.bool false))) := by
    rw [hw1]; exact Row.here' w _ 110
  have HA1 : Hid (At K s w1) := by rw [hw1]; exact HA.out.alloc _
  have HK1 : Hid (Kp K.g w w1) := by rw [hw1]; exact (Kp.refl _ _).alloc _
  clear hw1 HA
  have hne : w.heap.size ≠ K.g := by omega
  go_cut [18, 19] from 23 (fun v u wc => ∃ lo hi : Nat, v = .int .i64 lo ∧ u = .int .i64 hi ∧ ((mid < m ∧ lo + b = mid + m ∧ hi = mid) ∨ (m ≤ mid ∧ lo = a ∧ hi = m)) ∧ w1 = wc)
  case first =>
    by_cases hgt : mid < m
    · have hgI : (mid : Int) < m := by omega
      have e1 : (mid : Int) + m - b = (mid + m - b : Nat) := by omega
      go_wp2_with fail
      go_meet
      case rel => exact ⟨mid + m - b, mid, rfl, rfl, Or.inl ⟨hgt, by omega, rfl⟩, rfl⟩
    · have hgI : ¬ (mid : Int) < m := by omega
      go_wp2_with fail
      go_meet
      case rel => exact ⟨a, m, rfl, rfl, Or.inr ⟨by omega, rfl, rfl⟩, rfl⟩
  case rest =>
    obtain ⟨lo, hi, hv1, hv2, hlh, hw⟩ := hcut
    subst hv1 hv2 hw
    have HLH : Hid ((mid < m ∧ lo + b = mid + m ∧ hi = mid) ∨ (m ≤ mid ∧ lo = a ∧ hi = m)) := hlh
    have t1 : a ≤ lo := by omega
    have t2 : lo ≤ hi := by omega
    have t3 : hi ≤ m := by omega
    have t4 : mid + m ≤ lo + b := by omega
    have t5 : hi ≤ mid := by omega
    have hiI : (hi : Int) ≤ 1048576 := by omega
    have mI2 : (m : Int) ≤ 1048576 := by omega
    clear hlh
    go_wp2_with fail
    go_loopw [18, 19] (fun v u wr => ∃ i j : Nat, lo ≤ i ∧ i ≤ j ∧ j ≤ hi ∧ v = .int .i64 i ∧ u = .int .i64 j ∧ Kp K.g w1 wr ∧ At K s wr ∧ (i = lo ∨ K.lt (s (mid + m - i)) (s (i - 1)) = false) ∧ (j = hi ∨ K.lt (s (mid + m - j - 1)) (s j) = true)) (fun v u _ => (intOf u).toNat - (intOf v).toNat)
    case atStart => exact ⟨lo, hi, by omega, by omega, by omega, rfl, rfl, Kp.refl _ _, HA1.out, Or.inl rfl, Or.inl rfl⟩
    case round =>
      obtain ⟨i, j, hi1, hij, hj, rfl, rfl, hkp, hat, hlo, hhi⟩ := hrel
      have iI : (i : Int) ≤ 1048576 := by omega
      have jI : (j : Int) ≤ 1048576 := by omega
      have HKP : Hid (Kp K.g w1 wr) := hkp
      have HAT : Hid (At K s wr) := hat
      have HLO : Hid (i = lo ∨ K.lt (s (mid + m - i)) (s (i - 1)) = false) := hlo
      have HHI : Hid (j = hi ∨ K.lt (s (mid + m - j - 1)) (s j) = true) := hhi
      have c0 : wr.cell? ⟨w.heap.size, 0, none⟩ = some (.func (.func 30) #[] #[K.l1, K.l2]) := (RB.out.kp hkp hne).val 0 (by omega)
      have c1 : wr.cell? ⟨w.heap.size, 1, none⟩ = some (.func (.func 43) #[] #[.slice (some ⟨K.g, 0, none⟩) K.n K.cap, typeHandle Try.prog 85]) := (RB.out.kp hkp hne).val 1 (by omega)
      clear hkp hat hlo hhi
      by_cases hlt : i < j
      · have hlti : (i : Int) < j := by omega
        obtain ⟨hh, hhh⟩ : ∃ hh : Nat, ((i : Int) + j) / 2 = hh := ⟨(i + j) / 2, by omega⟩
        have h1 : i ≤ hh := by omega
        have h2 : hh < j := by omega
        have e1 : (mid : Int) + m - 1 - hh = (mid + m - hh - 1 : Nat) := by omega
        have hl := HL.out _ wr HAT.out (mid + m - hh - 1) hh (by omega) (by omega)
        have hhI : (hh : Int) ≤ 1048576 := by omega
        cases hv : K.lt (s (mid + m - hh - 1)) (s hh)
        · rw [hv] at hl
          have HV : Hid (K.lt (s (mid + m - hh - 1)) (s hh) = false) := hv
          clear hv
          go_wp2_with fail
          refine hl.mono ?_
          rintro e w' ⟨rfl, hk', ha'⟩
          have HK' : Hid (Kp K.g w1 w') := HKP.out.trans hk'
          have HA' : Hid (At K s w') := ha'
          clear hk' ha' hl
          go_wp2_with fail
          go_roundw
          case rel => exact ⟨hh + 1, j, by omega, by omega, hj, by go_num, rfl, HK'.out, HA'.out, Or.inr (by rw [show mid + m - (hh + 1) = mid + m - hh - 1 by omega, show hh + 1 - 1 = hh by omega]; exact HV.out), HHI.out⟩
          case measure => simp [intOf]; omega
        · rw [hv] at hl
          have HV : Hid (K.lt (s (mid + m - hh - 1)) (s hh) = true) := hv
          clear hv
          go_wp2_with fail
          refine hl.mono ?_
          rintro e w' ⟨rfl, hk', ha'⟩
          have HK' : Hid (Kp K.g w1 w') := HKP.out.trans hk'
          have HA' : Hid (At K s w') := ha'
          clear hk' ha' hl
          go_wp2_with fail
          go_roundw
          case rel => exact ⟨i, hh, hi1, h1, by omega, rfl, rfl, HK'.out, HA'.out, HLO.out, Or.inr HV.out⟩
          case measure => simp [intOf]; omega
      · have hkn : ¬ (i : Int) < j := by omega
        have hij' : j = i := by omega
        rw [hij'] at HHI
        obtain ⟨en, hen⟩ : ∃ en : Nat, en = mid + m - i := ⟨_, rfl⟩
        have e1 : (mid : Int) + m - i = en := by omega
        have hse : i + en = mid + m := by omega
        have y1 : a ≤ i := by omega
        have y2 : i ≤ m := by omega
        have y3 : m ≤ en := by omega
        have y4 : en ≤ b := by omega
        have HPT : Hid (Parted K.lt (rot s i m en) a mid b i en) := by
          refine parted HS.out hse y1 y2 y3 y4 HLS.out HRS.out HLR.out ?_ ?_
          · rcases HLO.out with h | h
            · have := HLH.out; exact Or.inl (by omega)
            · exact Or.inr (by rw [hen]; exact h)
          · rcases HHI.out with h | h
            · have := HLH.out; exact Or.inl (by omega)
            · exact Or.inr (by rw [hen]; exact h)
        have enI : (en : Int) ≤ 1048576 := by omega
        clear HLO HHI hij' hen
        have HHSE : Hid (i + en = mid + m) := hse
        clear hse
        obtain ⟨w2, hw2⟩ : ∃ w2, w2 = wr := ⟨_, rfl⟩
        subst hw2
        go_upto_region 40 with (fail)
        go_cut [145] from 23 (fun v wc => ∃ β : Bool, v = .bool β ∧ (β = true ↔ (i < m ∧ m < en)) ∧ w2 = wc)
        case first =>
          by_cases k1 : i < m
          · have k1I : (i : Int) < m := by omega
            by_cases k2 : m < en
            · have k2I : (m : Int) < en := by omega
              go_wp2_with fail
              go_meet
              case rel => exact ⟨true, rfl, by simp [k1, k2], rfl⟩
            · have k2I : ¬ (m : Int) < en := by omega
              go_wp2_with fail
              go_meet
              case rel => exact ⟨false, rfl, by simp [k2], rfl⟩
          · have k1I : ¬ (i : Int) < m := by omega
            go_wp2_with fail
            go_meet
            case rel => exact ⟨false, rfl, by simp [k1], rfl⟩
        case rest =>
        obtain ⟨β, hβv, hβ, hwβ⟩ := hcut
        subst hβv hwβ
        have HBE : Hid (β = true ↔ (i < m ∧ m < en)) := hβ
        clear hβ
        go_upto_if 145 with (fail)
        go_cut [] from 23 (fun wc => ∃ t, t = rot s i m en ∧ At K t wc ∧ Kp K.g w1 wc)
        case first =>
          cases β
          · have HNO : Hid (At K (rot s i m en) w2) := by
              rw [rot_none (by have := HBE.out; simp at this; omega) (by omega)]; exact HAT.out
            go_wp2_with fail
            go_meet
            case rel => exact ⟨_, rfl, HNO.out, HKP.out⟩
          · obtain ⟨k1, k2⟩ := HBE.out.1 rfl
            go_wp2_with fail
            refine (rotateW K hn s i m en k1 k2 (by omega) _ HAT.out).mono ?_
            rintro e w' ⟨rfl, hk', ha'⟩
            have HK' : Hid (Kp K.g w1 w') := HKP.out.trans hk'
            have HA' : Hid (At K (rot s i m en) w') := ha'
            clear hk' ha'
            go_wp2_with fail
            go_meet
            case rel => exact ⟨_, rfl, HA'.out, HK'.out⟩
        case rest =>
          clear c0 c1 HAT HKP HBE β
          obtain ⟨t, ht, hat, hkp⟩ := hcut
          rw [ht] at hat
          clear ht t
          obtain ⟨w3, hw3⟩ : ∃ w3, w3 = wc := ⟨_, rfl⟩
          subst hw3
          have HKP : Hid (Kp K.g w1 w3) := hkp
          have HAT : Hid (At K (rot s i m en) w3) := hat
          have c0 : w3.cell? ⟨w.heap.size, 0, none⟩ = some (.func (.func 30) #[] #[K.l1, K.l2]) := (RB.out.kp hkp hne).val 0 (by omega)
          have c1 : w3.cell? ⟨w.heap.size, 1, none⟩ = some (.func (.func 43) #[] #[.slice (some ⟨K.g, 0, none⟩) K.n K.cap, typeHandle Try.prog 85]) := (RB.out.kp hkp hne).val 1 (by omega)
          clear hkp hat
          go_upto_region 42 with (fail)
          go_cut [158] from 23 (fun v wc => ∃ β : Bool, v = .bool β ∧ (β = true ↔ (a < i ∧ i < mid)) ∧ w3 = wc)
          case first =>
            by_cases k1 : a < i
            · have k1I : (a : Int) < i := by omega
              by_cases k2 : i < mid
              · have k2I : (i : Int) < mid := by omega
                go_wp2_with fail
                go_meet
                case rel => exact ⟨true, rfl, by simp [k1, k2], rfl⟩
              · have k2I : ¬ (i : Int) < mid := by omega
                go_wp2_with fail
                go_meet
                case rel => exact ⟨false, rfl, by simp [k2], rfl⟩
            · have k1I : ¬ (a : Int) < i := by omega
              go_wp2_with fail
              go_meet
              case rel => exact ⟨false, rfl, by simp [k1], rfl⟩
          case rest =>
          obtain ⟨β, hβv, hβ, hwβ⟩ := hcut
          subst hβv hwβ
          have HBE : Hid (β = true ↔ (a < i ∧ i < mid)) := hβ
          clear hβ
          go_upto_if 158 with (fail)
          go_cut [] from 23 (fun wc => ∃ t, At K t wc ∧ Kp K.g w1 wc ∧ Prm a mid (rot s i m en) t ∧ Srtd K.lt t a mid)
          case first =>
            cases β
            · have HNO : Hid (Srtd K.lt (rot s i m en) a mid) := one_side HPT.out.r1 HPT.out.r2 (by have := HBE.out; simp at this; omega) y1 (by have := HHSE.out; omega)
              go_wp2_with fail
              go_meet
              case rel => exact ⟨_, HAT.out, HKP.out, Prm.refl _ _ _, HNO.out⟩
            · obtain ⟨k1, k2⟩ := HBE.out.1 rfl
              go_wp2_with fail
              refine (HIH.out (rot s i m en) a i mid _ (by omega) k1 k2 (by omega) HPT.out.r1 HPT.out.r2 HPT.out.l1 HAT.out).mono ?_
              rintro e w' ⟨rfl, hk', t, ha', hp', hs'⟩
              have HK' : Hid (Kp K.g w1 w') := HKP.out.trans hk'
              have HA' : Hid (At K t w' ∧ Prm a mid (rot s i m en) t ∧ Srtd K.lt t a mid) := ⟨ha', hp', hs'⟩
              clear hk' ha' hp' hs'
              go_wp2_with fail
              go_meet
              case rel => exact ⟨t, HA'.out.1, HK'.out, HA'.out.2.1, HA'.out.2.2⟩
          case rest =>
            clear c0 c1 HAT HKP HBE β
            obtain ⟨t, hat, hkp, hprm, hsrt⟩ := hcut
            obtain ⟨w4, hw4⟩ : ∃ w4, w4 = wc := ⟨_, rfl⟩
            subst hw4
            have HKP : Hid (Kp K.g w1 w4) := hkp
            have HAT : Hid (At K t w4) := hat
            have HPM : Hid (Prm a mid (rot s i m en) t) := hprm
            have HSR : Hid (Srtd K.lt t a mid) := hsrt
            have c0 : w4.cell? ⟨w.heap.size, 0, none⟩ = some (.func (.func 30) #[] #[K.l1, K.l2]) := (RB.out.kp hkp hne).val 0 (by omega)
            have c1 : w4.cell? ⟨w.heap.size, 1, none⟩ = some (.func (.func 43) #[] #[.slice (some ⟨K.g, 0, none⟩) K.n K.cap, typeHandle Try.prog 85]) := (RB.out.kp hkp hne).val 1 (by omega)
            clear hkp hat hprm hsrt
            have z1 : a ≤ mid := by omega
            have z2 : mid ≤ b := by omega
            have HR3 : Hid (Srtd K.lt t mid en) := HPT.out.r3.ext (fun p p1 p2 => (HPM.out.out (p := p) (by omega)).symm)
            have HR4 : Hid (Srtd K.lt t en b) := HPT.out.r4.ext (fun p p1 p2 => (HPM.out.out (p := p) (by have := HHSE.out; omega)).symm)
            have HL2 : Hid (∀ p q, mid ≤ p → p < en → en ≤ q → q < b → t p < t q) := fun p q p1 p2 q1 q2 => by
              rw [HPM.out.out (p := p) (by omega), HPM.out.out (p := q) (by omega)]; exact HPT.out.l2 p q p1 p2 q1 q2
            have HFIN : Hid (∀ u, Prm mid b t u → Srtd K.lt u mid b → Prm a b s u ∧ Srtd K.lt u a b) := fun u h1 h2 => by
              have := joined z1 z2 HPT.out.x HPM.out HSR.out h1 h2
              exact ⟨(rot_prm s y2 y3 y1 y4).trans this.1, this.2⟩
            by_cases hrt : mid < en ∧ en < b
            · obtain ⟨k1, k2⟩ := hrt
              have k1I : (mid : Int) < en := by omega
              have k2I : (en : Int) < b := by omega
              go_wp2_with fail
              refine (HIH.out t mid en b _ (by omega) k1 k2 hb HR3.out HR4.out HL2.out HAT.out).mono ?_
              rintro e w' ⟨rfl, hk', u, ha', hp', hs'⟩
              have HK' : Hid (Kp K.g w1 w') := HKP.out.trans hk'
              have HA' : Hid (At K u w' ∧ Prm mid b t u ∧ Srtd K.lt u mid b) := ⟨ha', hp', hs'⟩
              clear hk' ha' hp' hs'
              go_wp2_with fail
              go_end0
              exact ⟨rfl, HK1.out.trans HK'.out, u, HA'.out.1, HFIN.out u HA'.out.2.1 HA'.out.2.2⟩
            · have HNO : Hid (Srtd K.lt t mid b) := by
                by_cases k : mid ≤ en
                · exact one_side HR3.out HR4.out hrt k y4
                · exact HR4.out.sub (by omega) (Nat.le_refl _)
              by_cases k1 : mid < en
              · have k1I : (mid : Int) < en := by omega
                have k2I : ¬ (en : Int) < b := by omega
                go_wp2_with fail
                go_end0
                exact ⟨rfl, HK1.out.trans HKP.out, t, HAT.out, HFIN.out t (Prm.refl _ _ _) HNO.out⟩
              · have k1I : ¬ (mid : Int) < en := by omega
                go_wp2_with fail
                go_end0
                exact ⟨rfl, HK1.out.trans HKP.out, t, HAT.out, HFIN.out t (Prm.refl _ _ _) HNO.out⟩

theorem symMergeW (K : Sx) (hn : K.n ≤ 1048576) (hL : LessOk K) (hS : Swo K.lt) : ∀ N, Merges K N
  | 0 => fun s a m b w h => by omega
  | N + 1 => fun s a m b w hN ham hmb hb hl hr hlr h => by
    by_cases c1 : m = a + 1
    · exact merge_one K hn hL hS s a m b w c1 (by omega) hb (by rw [← c1]; exact hr) (fun q h1 h2 => hlr a q (Nat.le_refl _) ham (by omega) h2) h
    · by_cases c2 : b = m + 1
      · exact merge_last K hn hL hS s a m b w c2 (by omega) hb hl (fun p h1 h2 => hlr p m h1 h2 (Nat.le_refl _) hmb) h
      · exact merge_both K hn hL hS N (symMergeW K hn hL hS N) s a m b w hN (by omega) (by omega) hb hl hr hlr h
end Go.Proofs.Qxb6615139a
