/- The walk of stable_func. -/
import Derived.Test.Qxb6615139aSymB
import Derived.Deep.CutRange
namespace Go.Proofs.Qxb6615139a
open Go.RowKit Go.Lib

/-- The block at c of length bs is sorted and holds its own. -/
def Good (lt : Nat → Nat → Bool) (n : Nat) (t : Nat → Nat) (bs c : Nat) : Prop := Srtd lt t c (min (c + bs) n) ∧ ∀ p, c ≤ p → p < min (c + bs) n → c ≤ t p ∧ t p < c + bs
theorem Good.keep {lt : Nat → Nat → Bool} {n bs c a b : Nat} {t u : Nat → Nat} (h : Good lt n t bs c) (hp : Prm a b t u) (hd : c + bs ≤ a ∨ b ≤ c) : Good lt n u bs c := by
  have e : ∀ p, c ≤ p → p < min (c + bs) n → u p = t p := fun p h1 h2 => hp.out (by omega)
  exact ⟨h.1.ext (fun p h1 h2 => (e p h1 h2).symm), fun p h1 h2 => by rw [e p h1 h2]; exact h.2 p h1 h2⟩
theorem mult_step {B a c : Nat} (ha : B ∣ a) (hc : B ∣ c) (h : c < a) : c + B ≤ a := by
  obtain ⟨x, rfl⟩ := ha
  obtain ⟨y, rfl⟩ := hc
  have : y < x := Nat.lt_of_mul_lt_mul_left h
  calc B * y + B = B * (y + 1) := by rw [Nat.mul_add, Nat.mul_one]
    _ ≤ B * x := Nat.mul_le_mul_left _ this
/-- Two blocks merged. -/
theorem Good.merged {lt : Nat → Nat → Bool} {n bs a b : Nat} {t u : Nat → Nat} (h1 : Good lt n t bs a) (h2 : Good lt n t bs (a + bs)) (hb : b = min (a + 2 * bs) n) (hp : Prm a b t u) (hs : Srtd lt u a b) : Good lt n u (2 * bs) a := by
  subst hb
  refine ⟨hs, fun p q1 q2 => ?_⟩
  obtain ⟨q, k1, k2, k3⟩ := hp.in_ q1 q2
  rw [k3]
  by_cases c : q < a + bs
  · have := h1.2 q k1 (by omega); omega
  · have := h2.2 q (by omega) (by omega); omega
theorem Good.alone {lt : Nat → Nat → Bool} {n bs a : Nat} {t : Nat → Nat} (h1 : Good lt n t bs a) (h : n ≤ a + bs) : Good lt n t (2 * bs) a := by
  refine ⟨?_, fun p q1 q2 => ?_⟩
  · rw [show min (a + 2 * bs) n = min (a + bs) n by omega]; exact h1.1
  · have := h1.2 p q1 (by omega); omega

set_option maxRecDepth 100000 in
set_option maxHeartbeats 16000000 in
theorem stableW (K : Sx) (hn : K.n ≤ 1048576) (hL : LessOk K) (hS : Swo K.lt) (w : World) (h : At K id w) :
    Calls Try.prog 33 #[.agg K.data, .int .i64 K.n] w fun e w' => e = .returned (.tuple #[]) ∧ Kp K.g w w' ∧ ∃ t, At K t w' ∧ Prm 0 K.n id t ∧ Srtd K.lt t 0 K.n := by
  have HA : Hid (At K id w) := h
  have HL : Hid (LessOk K) := hL
  have HS : Hid (Swo K.lt) := hS
  have hg : K.g < w.heap.size := h.row.lt
  clear h hL hS
  obtain ⟨n, hnn⟩ : ∃ n, n = K.n := ⟨_, rfl⟩
  have HNN : Hid (n = K.n) := hnn
  rw [← hnn]
  have hnle : n ≤ 1048576 := by omega
  have nI : (n : Int) ≤ 1048576 := by omega
  clear hnn
  unfold Sx.data
  unfold Sx.sb
  go_enter Try.func33, Try.ntmps33
  go_wp2
  obtain ⟨w1, hw1⟩ : ∃ w1, w1 = w.alloc (.cells [.func (.func 30) #[] #[K.l1, K.l2], .func (.func 43) #[] #[.slice (some ⟨K.g, 0, none⟩) K.n K.cap, typeHandle Try.prog 85]].toArray 110) := ⟨_, rfl⟩
  rw [← hw1]
  have RB : Hid (Row w1 w.heap.size 2 (fun m => [.func (.func 30) #[] #[K.l1, K.l2], .func (.func 43) #[] #[.slice (some ⟨K.g, 0, none⟩) K.n K.cap, typeHandle Try.prog 85]].getD m (.bool false))) := by
    rw [hw1]; exact Row.here' w _ 110
  have HA1 : Hid (At K id w1) := by rw [hw1]; exact HA.out.alloc _
  have HK1 : Hid (Kp K.g w w1) := by rw [hw1]; exact (Kp.refl _ _).alloc _
  clear hw1 HA
  have hne : w.heap.size ≠ K.g := by omega
  go_loopw [5, 6] (fun v u wr => ∃ (a : Nat) (t : Nat → Nat), 20 ∣ a ∧ a ≤ n ∧ v = .int .i64 a ∧ u = .int .i64 (a + 20 : Nat) ∧ Kp K.g w1 wr ∧ At K t wr ∧ Prm 0 n id t ∧ (∀ p, a ≤ p → t p = p) ∧ ∀ c, 20 ∣ c → c < a → Good K.lt n t 20 c) (fun v _ _ => n + 20 - (intOf v).toNat)
  case atStart => exact ⟨0, id, ⟨0, rfl⟩, by omega, rfl, rfl, Kp.refl _ _, HA1.out, Prm.refl _ _ _, fun p _ => rfl, fun c _ h => by omega⟩
  case round =>
    obtain ⟨a, t, had, han, rfl, rfl, hkp, hat, hpm, hid, hgd⟩ := hrel
    have HAD : Hid (20 ∣ a) := had
    have HKP : Hid (Kp K.g w1 wr) := hkp
    have HAT : Hid (At K t wr) := hat
    have HPM : Hid (Prm 0 n id t) := hpm
    have HID : Hid (∀ p, a ≤ p → t p = p) := hid
    have HGD : Hid (∀ c, 20 ∣ c → c < a → Good K.lt n t 20 c) := hgd
    have c0 : wr.cell? ⟨w.heap.size, 0, none⟩ = some (.func (.func 30) #[] #[K.l1, K.l2]) := (RB.out.kp hkp hne).val 0 (by omega)
    have c1 : wr.cell? ⟨w.heap.size, 1, none⟩ = some (.func (.func 43) #[] #[.slice (some ⟨K.g, 0, none⟩) K.n K.cap, typeHandle Try.prog 85]) := (RB.out.kp hkp hne).val 1 (by omega)
    clear had hkp hat hpm hid hgd
    by_cases hlt : a + 20 ≤ n
    · have hlti : ((a + 20 : Nat) : Int) ≤ n := by omega
      go_wp2_with fail
      refine (insertW K hn HL.out HS.out t a (a + 20) (by omega) (by have := HNN.out; omega) (fun p q p1 pq q1 => by rw [HID.out p p1, HID.out q (by omega)]; exact pq) _ HAT.out).mono ?_
      rintro e w' ⟨rfl, hk', u, ha', hp', hs'⟩
      have HK' : Hid (Kp K.g w1 w') := HKP.out.trans hk'
      have HA' : Hid (At K u w' ∧ Prm a (a + 20) t u ∧ Srtd K.lt u a (a + 20)) := ⟨ha', hp', hs'⟩
      clear hk' ha' hp' hs'
      go_wp2_with fail
      go_roundw
      case rel =>
        obtain ⟨ha', hp', hs'⟩ := HA'.out
        refine ⟨a + 20, u, Nat.dvd_add HAD.out ⟨1, rfl⟩, hlt, by go_num, by go_num, HK'.out, ha', HPM.out.trans (hp'.mono (by omega) hlt), fun p hp => by rw [hp'.out (by omega)]; exact HID.out p (by omega), fun c hc hlt2 => ?_⟩
        by_cases e : c < a
        · exact (HGD.out c hc e).keep hp' (Or.inl (mult_step HAD.out hc e))
        · have : c = a := by
            by_cases e2 : a < c
            · have := mult_step hc HAD.out e2; omega
            · omega
          subst this
          refine ⟨by rw [show min (c + 20) n = c + 20 by omega]; exact hs', fun p p1 p2 => ?_⟩
          obtain ⟨q, k1, k2, k3⟩ := hp'.in_ p1 (by omega)
          rw [k3, HID.out q k1]; omega
      case measure => simp [intOf]; omega
    · have hkn : ¬ ((a + 20 : Nat) : Int) ≤ n := by omega
      have anI : (a : Int) ≤ n := by omega
      go_wp2_with fail
      refine (insertW K hn HL.out HS.out t a n han (by have := HNN.out; omega) (fun p q p1 pq q1 => by rw [HID.out p p1, HID.out q (by omega)]; exact pq) _ HAT.out).mono ?_
      rintro e w2 ⟨rfl, hk', u, ha', hp', hs'⟩
      have HK2 : Hid (Kp K.g w1 w2) := HKP.out.trans hk'
      have HA2 : Hid (At K u w2) := ha'
      have HP2 : Hid (Prm 0 n id u) := HPM.out.trans (hp'.mono (by omega) (Nat.le_refl _))
      have HG2 : Hid (∀ c, 20 ∣ c → c < n → Good K.lt n u 20 c) := fun c hc hcn => by
        by_cases e : c < a
        · exact (HGD.out c hc e).keep hp' (Or.inl (mult_step HAD.out hc e))
        · have : c = a := by
            by_cases e2 : a < c
            · have := mult_step hc HAD.out e2; omega
            · omega
          subst this
          refine ⟨by rw [show min (c + 20) n = n by omega]; exact hs', fun p p1 p2 => ?_⟩
          obtain ⟨q, k1, k2, k3⟩ := hp'.in_ p1 (by omega)
          rw [k3, HID.out q k1]; omega
      clear hk' ha' hp' hs' c0 c1
      go_wp2_with fail
      go_loopw [4] (fun v wr => ∃ (bs : Nat) (t : Nat → Nat), 0 < bs ∧ bs ≤ 2097152 ∧ v = .int .i64 bs ∧ Kp K.g w1 wr ∧ At K t wr ∧ Prm 0 n id t ∧ ∀ c, bs ∣ c → c < n → Good K.lt n t bs c) (fun v _ => 4194304 - (intOf v).toNat)
      case atStart => exact ⟨20, u, by omega, by omega, rfl, HK2.out, HA2.out, HP2.out, HG2.out⟩
      case round =>
        clear HK2 HA2 HP2 HG2 HKP HAT HPM HID HGD HAD
        obtain ⟨bs, t, hb0, hb1, rfl, hkp, hat, hpm, hgd⟩ := hrel
        have HKP : Hid (Kp K.g w1 wr) := hkp
        have HAT : Hid (At K t wr) := hat
        have HPM : Hid (Prm 0 n id t) := hpm
        have HGD : Hid (∀ c, bs ∣ c → c < n → Good K.lt n t bs c) := hgd
        clear hkp hat hpm hgd
        have bsI : (bs : Int) ≤ 2097152 := by omega
        by_cases hbn : bs < n
        · have hbnI : (bs : Int) < n := by omega
          go_wp2_with fail
          go_loopw [5, 6] (fun v u wr => ∃ (a : Nat) (t : Nat → Nat), 2 * bs ∣ a ∧ a ≤ n ∧ v = .int .i64 a ∧ u = .int .i64 (a + 2 * bs : Nat) ∧ Kp K.g w1 wr ∧ At K t wr ∧ Prm 0 n id t ∧ (∀ c, 2 * bs ∣ c → c < a → Good K.lt n t (2 * bs) c) ∧ ∀ c, bs ∣ c → a ≤ c → c < n → Good K.lt n t bs c) (fun v _ _ => n + 1 - (intOf v).toNat)
          case atStart => exact ⟨0, t, ⟨0, rfl⟩, by omega, rfl, by go_num, HKP.out, HAT.out, HPM.out, fun c _ h => by omega, fun c hc _ hcn => HGD.out c hc hcn⟩
          case round =>
            clear HKP HAT HPM HGD
            obtain ⟨x, y, had, han, rfl, rfl, hkp, hat, hpm, hg1, hg2⟩ := hrel
            have HAD : Hid (2 * bs ∣ x) := had
            have HKP : Hid (Kp K.g w1 wr) := hkp
            have HAT : Hid (At K y wr) := hat
            have HPM : Hid (Prm 0 n id y) := hpm
            have HG1 : Hid (∀ c, 2 * bs ∣ c → c < x → Good K.lt n y (2 * bs) c) := hg1
            have HG2 : Hid (∀ c, bs ∣ c → x ≤ c → c < n → Good K.lt n y bs c) := hg2
            have c0 : wr.cell? ⟨w.heap.size, 0, none⟩ = some (.func (.func 30) #[] #[K.l1, K.l2]) := (RB.out.kp hkp hne).val 0 (by omega)
            have c1 : wr.cell? ⟨w.heap.size, 1, none⟩ = some (.func (.func 43) #[] #[.slice (some ⟨K.g, 0, none⟩) K.n K.cap, typeHandle Try.prog 85]) := (RB.out.kp hkp hne).val 1 (by omega)
            clear had hkp hat hpm hg1 hg2
            have xI : (x : Int) ≤ 1048576 := by omega
            have D1 : Hid (bs ∣ x) := Nat.dvd_trans ⟨2, by omega⟩ HAD.out
            have D2 : Hid (bs ∣ x + bs) := Nat.dvd_add D1.out (Nat.dvd_refl _)
            have e1 : ((x + bs : Nat) : Int) = (x : Int) + bs := by omega
            have e2 : ((x + 2 * bs : Nat) : Int) = (x : Int) + 2 * bs := by omega
            by_cases hle : x + 2 * bs ≤ n
            · have hleI : (x : Int) + 2 * bs ≤ n := by omega
              have hgA := HG2.out x D1.out (Nat.le_refl _) (by omega)
              have hgB := HG2.out (x + bs) D2.out (by omega) (by omega)
              have hc := symMergeW K hn HL.out HS.out (n + 1) y x (x + bs) (x + 2 * bs) wr (by omega) (by omega) (by omega) (by have := HNN.out; omega)
                (by have := hgA.1; rwa [show min (x + bs) n = x + bs by omega] at this) (by have := hgB.1; rwa [show min (x + bs + bs) n = x + 2 * bs by omega] at this)
                (fun p q p1 p2 q1 q2 => by have := hgA.2 p p1 (by omega); have := hgB.2 q q1 (by omega); omega) HAT.out
              have HGA : Hid _ := hgA
              have HGB : Hid _ := hgB
              clear hgA hgB
              rw [e1, e2] at hc
              unfold Sx.data Sx.sb at hc
              go_wp2_with fail
              refine hc.mono ?_
              rintro e w' ⟨rfl, hk', z, ha', hp', hs'⟩
              have HK' : Hid (Kp K.g w1 w') := HKP.out.trans hk'
              have HA' : Hid (At K z w' ∧ Prm x (x + 2 * bs) y z ∧ Srtd K.lt z x (x + 2 * bs)) := ⟨ha', hp', hs'⟩
              clear hk' ha' hp' hs' hc
              go_wp2_with fail
              go_roundw
              case rel =>
                obtain ⟨ha', hp', hs'⟩ := HA'.out
                refine ⟨x + 2 * bs, z, Nat.dvd_add HAD.out (Nat.dvd_refl _), hle, by go_num, by go_num, HK'.out, ha', HPM.out.trans (hp'.mono (by omega) hle), fun c hc hlt2 => ?_, fun c hc h1 h2 => (HG2.out c hc (by omega) h2).keep hp' (Or.inr h1)⟩
                by_cases e : c < x
                · exact (HG1.out c hc e).keep hp' (Or.inl (mult_step HAD.out hc e))
                · have : c = x := by
                    by_cases e3 : x < c
                    · have := mult_step hc HAD.out e3; omega
                    · omega
                  subst this
                  exact Good.merged HGA.out HGB.out (by omega) hp' hs'
              case measure => simp [intOf]; omega
            · have hleI : ¬ (x : Int) + 2 * bs ≤ n := by omega
              by_cases hm : x + bs < n
              · have hmI : (x : Int) + bs < n := by omega
                have hgA := HG2.out x D1.out (Nat.le_refl _) (by omega)
                have hgB := HG2.out (x + bs) D2.out (by omega) (by omega)
                have hc := symMergeW K hn HL.out HS.out (n + 1) y x (x + bs) n wr (by omega) (by omega) (by omega) (by have := HNN.out; omega)
                  (by have := hgA.1; rwa [show min (x + bs) n = x + bs by omega] at this) (by have := hgB.1; rwa [show min (x + bs + bs) n = n by omega] at this)
                  (fun p q p1 p2 q1 q2 => by have := hgA.2 p p1 (by omega); have := hgB.2 q q1 (by omega); omega) HAT.out
                have HGA : Hid _ := hgA
                have HGB : Hid _ := hgB
                clear hgA hgB
                rw [e1] at hc
                unfold Sx.data Sx.sb at hc
                go_wp2_with fail
                refine hc.mono ?_
                rintro e w' ⟨rfl, hk', z, ha', hp', hs'⟩
                have HK' : Hid (Kp K.g w1 w') := HKP.out.trans hk'
                have HA' : Hid (At K z w' ∧ Prm x n y z ∧ Srtd K.lt z x n) := ⟨ha', hp', hs'⟩
                clear hk' ha' hp' hs' hc
                go_wp2_with fail
                go_roundw
                case rel =>
                  obtain ⟨ha', hp', hs'⟩ := HA'.out
                  refine ⟨2 * bs, z, by omega, by omega, by go_num, HK'.out, ha', HPM.out.trans (hp'.mono (by omega) (Nat.le_refl _)), fun c hc hcn => ?_⟩
                  by_cases e : c < x
                  · exact (HG1.out c hc e).keep hp' (Or.inl (mult_step HAD.out hc e))
                  · have : c = x := by
                      by_cases e3 : x < c
                      · have := mult_step hc HAD.out e3; omega
                      · omega
                    subst this
                    exact Good.merged HGA.out HGB.out (by omega) hp' hs'
                case measure => simp [intOf]; omega
              · have hmI : ¬ (x : Int) + bs < n := by omega
                go_wp2_with fail
                go_roundw
                case rel =>
                  refine ⟨2 * bs, y, by omega, by omega, by go_num, HKP.out, HAT.out, HPM.out, fun c hc hcn => ?_⟩
                  by_cases e : c < x
                  · exact HG1.out c hc e
                  · have : c = x := by
                      by_cases e3 : x < c
                      · have := mult_step hc HAD.out e3; omega
                      · omega
                    subst this
                    exact (HG2.out c D1.out (Nat.le_refl _) hcn).alone (by omega)
                case measure => simp [intOf]; omega
        · have hbnI : ¬ (bs : Int) < n := by omega
          go_wp2_with fail
          go_end0
          refine ⟨rfl, HK1.out.trans HKP.out, t, HAT.out, HPM.out, ?_⟩
          by_cases c : 0 < n
          · have := (HGD.out 0 ⟨0, rfl⟩ c).1
            rwa [show min (0 + bs) n = n by omega] at this
          · exact fun p q _ _ h3 => by omega
end Go.Proofs.Qxb6615139a
