/- The walk of insertionSort. -/
import Derived.Test.Qxb6615139aOrd
namespace Go.Proofs.Qxb6615139a
open Go.RowKit Go.Lib

set_option maxRecDepth 100000 in
set_option maxHeartbeats 4000000 in
theorem insertW (K : Sx) (hn : K.n ≤ 1048576) (hL : LessOk K) (hS : Swo K.lt) (s : Nat → Nat) (a b : Nat) (hab : a ≤ b) (hb : b ≤ K.n) (hinc : ∀ p q, a ≤ p → p < q → q < b → s p < s q) (w : World) (h : At K s w) :
    Calls Try.prog 44 #[.agg K.data, .int .i64 a, .int .i64 b] w fun e w' => e = .returned (.tuple #[]) ∧ Kp K.g w w' ∧ ∃ t, At K t w' ∧ Prm a b s t ∧ Srtd K.lt t a b := by
  have HA : Hid (At K s w) := h
  have HIN : Hid (∀ p q, a ≤ p → p < q → q < b → s p < s q) := hinc
  have HL : Hid (LessOk K) := hL
  have HS : Hid (Swo K.lt) := hS
  have hg : K.g < w.heap.size := h.row.lt
  clear h hinc hL hS
  have bI : (b : Int) ≤ 1048576 := by omega
  have aI : (a : Int) ≤ b := by omega
  unfold Sx.data
  unfold Sx.sb
  go_enter Try.func44, Try.ntmps44
  go_wp2
  obtain ⟨w1, hw1⟩ : ∃ w1, w1 = w.alloc (.cells [.func (.func 30) #[] #[K.l1, K.l2], .func (.func 43) #[] #[.slice (some ⟨K.g, 0, none⟩) K.n K.cap, typeHandle Try.prog 85]].toArray 110) := ⟨_, rfl⟩
  rw [← hw1]
  have RB : Hid (Row w1 w.heap.size 2 (fun m => [.func (.func 30) #[] #[K.l1, K.l2], .func (.func 43) #[] #[.slice (some ⟨K.g, 0, none⟩) K.n K.cap, typeHandle Try.prog 85]].getD m (.bool false))) := by
    rw [hw1]; exact Row.here' w _ 110
  have HA1 : Hid (At K s w1) := by rw [hw1]; exact HA.out.alloc _
  have HK1 : Hid (Kp K.g w w1) := by rw [hw1]; exact (Kp.refl _ _).alloc _
  clear hw1 HA
  have hne : w.heap.size ≠ K.g := by omega
  go_loopw [6] (fun v wr => ∃ (i : Nat) (t : Nat → Nat), a < i ∧ i ≤ b + 1 ∧ v = .int .i64 i ∧ Kp K.g w1 wr ∧ At K t wr ∧ (i ≤ b → Prm a i s t ∧ Srtd K.lt t a i) ∧ (b < i → Prm a b s t ∧ Srtd K.lt t a b)) (fun v _ => b + 1 - (intOf v).toNat)
  case atStart => exact ⟨a + 1, s, by omega, by omega, by go_num, Kp.refl _ _, HA1.out, fun _ => ⟨Prm.refl _ _ _, fun p q _ _ _ => by omega⟩, fun _ => ⟨Prm.refl _ _ _, fun p q _ _ _ => by omega⟩⟩
  case round =>
    obtain ⟨i, t, hai, hib, rfl, hkp, hat, hin, hout⟩ := hrel
    have HKP : Hid (Kp K.g w1 wr) := hkp
    have HAT : Hid (At K t wr) := hat
    have HI : Hid (i ≤ b → Prm a i s t ∧ Srtd K.lt t a i) := hin
    have HO : Hid (b < i → Prm a b s t ∧ Srtd K.lt t a b) := hout
    clear hkp hat hin hout
    by_cases hlt : i < b
    · have hlti : (i : Int) < b := by omega
      obtain ⟨hprm, hsrt⟩ := HI.out (by omega)
      have HPR : Hid (Prm a i s t) := hprm
      have HSR : Hid (Srtd K.lt t a i) := hsrt
      clear hprm hsrt HI HO
      go_wp2
      go_loopw [7] (fun v wq => ∃ j : Nat, a ≤ j ∧ j ≤ i ∧ v = .int .i64 j ∧ Kp K.g w1 wq ∧ At K (ins t i j) wq ∧ ∀ p, j < p → p ≤ i → K.lt (t i) (t (p - 1)) = true) (fun v _ => (intOf v).toNat)
      case atStart => exact ⟨i, by omega, by omega, rfl, HKP.out, by rw [ins_self]; exact HAT.out, fun p _ _ => by omega⟩
      case round =>
        obtain ⟨j, haj, hji, rfl, hkp2, hat2, hlow⟩ := hrel
        have HKP2 : Hid (Kp K.g w1 wr) := hkp2
        have HAT2 : Hid (At K (ins t i j) wr) := hat2
        have HLO : Hid (∀ p, j < p → p ≤ i → K.lt (t i) (t (p - 1)) = true) := hlow
        have c0 : wr.cell? ⟨w.heap.size, 0, none⟩ = some (.func (.func 30) #[] #[K.l1, K.l2]) := (RB.out.kp hkp2 hne).val 0 (by omega)
        have c1 : wr.cell? ⟨w.heap.size, 1, none⟩ = some (.func (.func 43) #[] #[.slice (some ⟨K.g, 0, none⟩) K.n K.cap, typeHandle Try.prog 85]) := (RB.out.kp hkp2 hne).val 1 (by omega)
        clear hkp2 hat2 hlow
        have jI : (j : Int) ≤ 1048576 := by omega
        have HEND : Hid ((j = a ∨ K.lt (t i) (t (j - 1)) = false) → Prm a (i + 1) s (ins t i j) ∧ Srtd K.lt (ins t i j) a (i + 1)) := fun h => by
          refine ⟨(HPR.out.mono (Nat.le_refl _) (by omega)).trans (ins_prm t haj hji (by omega)), ins_srtd HS.out haj hji HSR.out HLO.out ?_⟩
          rcases h with h | h
          · exact Or.inl h
          · by_cases c : j = a
            · exact Or.inl c
            · refine Or.inr (Or.inr ⟨h, ?_⟩)
              obtain ⟨q, q1, q2, q3⟩ := HPR.out.in_ (p := j - 1) (by omega) (by omega)
              rw [q3, HPR.out.out (p := i) (by omega)]
              exact HIN.out q i q1 q2 hlt
        by_cases hja : a < j
        · have hjaI : (a : Int) < j := by omega
          have hl := HL.out _ wr HAT2.out j (j - 1) (by omega) (by omega)
          rw [show (((j - 1 : Nat)) : Int) = (j : Int) - 1 by omega, show ins t i j j = t i by simp [ins], show ins t i j (j - 1) = t (j - 1) by simp only [ins]; rw [if_neg (by omega), if_neg (by omega)]] at hl
          cases hv : K.lt (t i) (t (j - 1))
          · rw [hv] at hl
            go_wp2_with fail
            refine hl.mono ?_
            rintro e w' ⟨rfl, hk', ha'⟩
            have HK' : Hid (Kp K.g wr w') := hk'
            have HA' : Hid (At K (ins t i j) w') := ha'
            clear hk' ha' hl
            go_wp2_with fail
            go_roundw
            case rel => exact ⟨i + 1, ins t i j, by omega, by omega, by go_num, HKP2.out.trans HK'.out, HA'.out, fun _ => HEND.out (Or.inr hv), fun h => by omega⟩
            case measure => simp [intOf]; omega
          · rw [hv] at hl
            go_wp2_with fail
            refine hl.mono ?_
            rintro e w' ⟨rfl, hk', ha'⟩
            have HK' : Hid (Kp K.g w1 w') := HKP2.out.trans hk'
            have HA' : Hid (At K (ins t i j) w') := ha'
            have hs := ha'.run_swap (i := j) (j := j - 1) (by omega) (by omega)
            rw [show (((j - 1 : Nat)) : Int) = (j : Int) - 1 by omega] at hs
            have c1' : w'.cell? ⟨w.heap.size, 1, none⟩ = some (.func (.func 43) #[] #[.slice (some ⟨K.g, 0, none⟩) K.n K.cap, typeHandle Try.prog 85]) := (RB.out.kp HK'.out hne).val 1 (by omega)
            clear hk' ha' hl c0 c1
            have HHV : Hid _ := hv
            clear hv
            go_wp2_with fail
            go_roundw
            case rel =>
              refine ⟨j - 1, by omega, by omega, by go_num, HK'.out.trans (swW_kp K _ _ _ _), ?_, fun p h1 h2 => ?_⟩
              · rw [← ins_step t (by omega) hji]
                exact HA'.out.swap (by omega) (by omega)
              · by_cases c : p = j
                · rw [c]; exact HHV.out
                · exact HLO.out p (by omega) h2
            case measure => simp [intOf]; omega
        · have hjaI : ¬ (a : Int) < j := by omega
          go_wp2_with fail
          go_roundw
          case rel => exact ⟨i + 1, ins t i j, by omega, by omega, by go_num, HKP2.out, HAT2.out, fun _ => HEND.out (Or.inl (by omega)), fun h => by omega⟩
          case measure => simp [intOf]; omega
    · have hkn : ¬ (i : Int) < b := by omega
      go_wp2
      go_end0
      refine ⟨rfl, HK1.out.trans HKP.out, t, HAT.out, ?_⟩
      by_cases c : b < i
      · exact HO.out c
      · have e : i = b := by omega
        rw [← e]; exact HI.out (by omega)
end Go.Proofs.Qxb6615139a
