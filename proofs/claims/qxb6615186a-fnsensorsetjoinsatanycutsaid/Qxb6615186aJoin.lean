/- The walk of FnSensorSetJoinsAtAnyCut. -/
import Derived.Test.Qxb6615186aCopy
import Derived.WalkSmall
namespace Go.Proofs.Qxb6615186a
open Go.RowKit

/-- How many of the first n are present. -/
def cnt (p : Nat → Bool) : Nat → Nat
  | 0 => 0
  | k + 1 => cnt p k + (p k).toNat
theorem cnt_le (p : Nat → Bool) (n : Nat) : cnt p n ≤ n := by
  induction n with
  | zero => exact Nat.le_refl _
  | succ n ih => have : (p n).toNat ≤ 1 := Bool.toNat_le _; simp only [cnt]; omega
theorem cnt_yes (p : Nat → Bool) (k : Nat) (h : p k = true) : cnt p (k + 1) = cnt p k + 1 := by simp [cnt, h]
theorem cnt_no (p : Nat → Bool) (k : Nat) (h : p k = false) : cnt p (k + 1) = cnt p k := by simp [cnt, h]

/-- a followed by b. -/
def join {α : Type} (n : Nat) (x y : Nat → α) : Nat → α := fun i => if i < n then x i else y (i - n)
theorem join_lt {α : Type} {n : Nat} {x y : Nat → α} {i : Nat} (h : i < n) : join n x y i = x i := if_pos h
theorem join_add {α : Type} {n : Nat} {x y : Nat → α} {i : Nat} : join n x y (n + i) = y i := by unfold join; rw [if_neg (by omega), Nat.add_sub_cancel_left]
theorem join_ge {α : Type} {n : Nat} {x y : Nat → α} {i : Nat} (h : ¬ i < n) : join n x y i = y (i - n) := if_neg h

theorem cnt_join (n m : Nat) (p q : Nat → Bool) : cnt (join n p q) (n + m) = cnt p n + cnt q m := by
  have h1 : ∀ k ≤ n, cnt (join n p q) k = cnt p k := by
    intro k
    induction k with
    | zero => intro _; rfl
    | succ k ih => intro hk; simp only [cnt, ih (by omega), join_lt (x := p) (y := q) (show k < n by omega)]
  induction m with
  | zero => rw [Nat.add_zero, h1 n (Nat.le_refl _)]; rfl
  | succ m ih => rw [← Nat.add_assoc]; simp only [cnt, ih, join_add]; omega

set_option maxHeartbeats 1000000 in
theorem count_all (ao : Option Addr) (n cap : Nat) (p : Nat → Bool) (w : World) (hn : n ≤ 1048576) (h : PresAt w ao n p) :
    Calls Try.prog 12 #[.slice ao n cap] w fun e w' => e = .returned (.int .i64 (cnt p n)) ∧ w = w' := by
  have HP : Hid (PresAt w ao n p) := h
  clear h
  go_enter Try.func12, Try.ntmps12
  go_wp2
  go_loop [3, 4] (fun c i => ∃ k : Nat, k ≤ n ∧ i = .int .i64 k ∧ c = .int .i64 (cnt p k)) (fun _ i => n - (intOf i).toNat)
  case atStart => exact ⟨0, by omega, rfl, rfl⟩
  case round =>
    obtain ⟨k, hk, rfl, rfl⟩ := hrel
    have hle := cnt_le p k
    by_cases hlt : k < n
    · have hlti : (k : Int) < n := by omega
      obtain ⟨b, off, ha, hbw, hcell⟩ : ∃ b off, ao = some (⟨b, off, none⟩ : Addr) ∧ b < w.heap.size ∧ ∀ j < n, w.cell? ⟨b, off + j * 2 + 1, none⟩ = some (.bool (p j)) := by
        rcases HP.out with h | h
        · omega
        · exact h
      subst ha
      have hc := hcell k hlt
      clear hcell hbw
      cases hpk : p k
      · rw [hpk] at hc
        have HK : Hid (p k = false) := hpk
        clear hpk
        go_wp2
        go_round
        case rel => exact ⟨k + 1, by omega, by go_num, by rw [cnt_no p k HK.out]⟩
        case measure => simp [intOf]; omega
      · rw [hpk] at hc
        have HK : Hid (p k = true) := hpk
        clear hpk
        go_wp2
        go_round
        case rel => exact ⟨k + 1, by omega, by go_num, by rw [cnt_yes p k HK.out]; go_num⟩
        case measure => simp [intOf]; omega
    · have hkn : k = n := by omega
      subst hkn
      go_wp2
      go_ret
      exact ⟨rfl, rfl⟩

theorem bitAtX (p : Nat → Bool) (n : Nat) (x : Int) (i : Nat) (β : Bool) (w : World) (hn : n ≤ 1048576) (hi : i < 8 * ((n + 7) / 8)) (hx : x = i) (hβ : (decide (i < n) && p i) = β) :
    Calls Try.prog 11 #[.string (bmp p n), .int .i64 x] w fun e w' => e = .returned (.bool β) ∧ w = w' := by
  subst hx; subst hβ; exact bitAtW p n i w hn hi

theorem cnt_min_yes (p : Nat → Bool) (i n : Nat) (h : i < n) (hp : p i = true) : cnt p (min (i + 1) n) = cnt p (min i n) + 1 := by
  rw [show min (i + 1) n = i + 1 by omega, show min i n = i by omega]; exact cnt_yes p i hp
theorem cnt_min_no (p : Nat → Bool) (i n : Nat) (h : i < n) (hp : p i = false) : cnt p (min (i + 1) n) = cnt p (min i n) := by
  rw [show min (i + 1) n = i + 1 by omega, show min i n = i by omega]; exact cnt_no p i hp
theorem cnt_min_past (p : Nat → Bool) (i n : Nat) (h : ¬ i < n) : cnt p (min (i + 1) n) = cnt p (min i n) := by
  rw [show min (i + 1) n = min i n by omega]

/-- copyInputs, a nil slice or not. -/
theorem copy_all (ao : Option Addr) (n cap : Nat) (f : Nat → Nat) (p : Nat → Bool) (w : World) (hn : n ≤ 1048576) (h0 : ao = none → n = 0 ∧ cap = 0) (h : InpAt w ao n f p) :
    Calls Try.prog 9 #[.slice ao n cap] w fun e w' => (∃ r c, e = .returned (.slice r n c) ∧ PresAt w' r n p) ∧ Below w.heap.size w w' := by
  cases ao with
  | none =>
    obtain ⟨rfl, rfl⟩ := h0 rfl
    refine (copy_nil w).mono ?_
    rintro e w' ⟨rfl, rfl⟩
    exact ⟨⟨none, 0, rfl, Or.inl rfl⟩, Below.refl _ _⟩
  | some a =>
    refine (copy_some a n cap f p w hn h).mono ?_
    rintro e w' ⟨rfl, ho, hb⟩
    exact ⟨⟨_, _, rfl, ho.inp.pres⟩, hb⟩

/-- One element stored, by its values. -/
theorem OwnInp.put' {w : World} {g n k x : Nat} {f : Nat → Nat} {p : Nat → Bool} {y : Bool} (h : OwnInp w g n k f p) (hk : k < n) (hx : f k = x) (hy : p k = y) :
    OwnInp ((w.setCell ⟨g, k * 2, none⟩ (.float .f64 x)).setCell ⟨g, k * 2 + 1, none⟩ (.bool y)) g n (k + 1) f p := by
  subst hx; subst hy; exact h.put hk

set_option maxHeartbeats 8000000 in
theorem join_walk (ao bo : Option Addr) (na nb ca cb : Nat) (fa fb : Nat → Nat) (pa pb : Nat → Bool) (w : World) (h0 : ao = none → na = 0 ∧ ca = 0) (h1 : bo = none → nb = 0 ∧ cb = 0)
    (ha : InpAt w ao na fa pa) (hb : InpAt w bo nb fb pb) (la : na ≤ 32768) (lb : nb ≤ 32768) :
    Calls Try.prog 3 #[.slice ao na ca, .slice bo nb cb] w fun e w' => e = .returned (.bool true) ∧ Below w.heap.size w w' := by
  have HA : Hid (InpAt w ao na fa pa) := ha
  have HB : Hid (InpAt w bo nb fb pb) := hb
  have H0 : Hid (ao = none → na = 0 ∧ ca = 0) := h0
  have H1 : Hid (bo = none → nb = 0 ∧ cb = 0) := h1
  clear ha hb h0 h1
  have laI : (na : Int) ≤ 32768 := by omega
  have lbI : (nb : Int) ≤ 32768 := by omega
  go_enter Try.func3, Try.ntmps3
  go_wp2_with (first | (go_at_call 8; go_in))
  refine (copy_all ao na ca fa pa _ (by omega) H0.out HA.out).mono ?_
  rintro e w1 ⟨⟨r1, c1, rfl, hp1⟩, hb1⟩
  have HP1 : Hid (PresAt w1 r1 na pa) := hp1
  have HB1 : Hid (Below w.heap.size w w1) := hb1
  clear hp1 hb1
  go_wp2_with fail
  refine (copy_all bo nb cb fb pb _ (by omega) H1.out (HB.out.below HB1.out)).mono ?_
  rintro e w2 ⟨⟨r2, c2, rfl, hp2⟩, hb2⟩
  have HP2 : Hid (PresAt w2 r2 nb pb) := hp2
  have HP12 : Hid (PresAt w2 r1 na pa) := HP1.out.below hb2
  have HB2 : Hid (Below w.heap.size w w2) := HB1.out.trans (hb2.mono HB1.out.size)
  clear hp2 hb2 HP1
  have hmk := make24 (na + nb) (by omega)
  have eI : ((na + nb : Nat) : Int) = (na : Int) + nb := by omega
  rw [eI] at hmk
  clear eI
  go_wp2_with fail
  clear hmk
  go_loopw [9] (fun i wr => ∃ k : Nat, k ≤ na ∧ i = .int .i64 k ∧ OwnInp wr w2.heap.size (na + nb) k (join na fa fb) (join na pa pb) ∧ Below w2.heap.size w2 wr) (fun i _ => na - (intOf i).toNat)
  case atStart => exact ⟨0, by omega, rfl, own_made _ _ _ _, (Below.refl _ _).alloc (Nat.le_refl _) _⟩
  case round =>
    obtain ⟨k, hk, rfl, ho, hb⟩ := hrel
    have HO : Hid (OwnInp wr w2.heap.size (na + nb) k (join na fa fb) (join na pa pb)) := ho
    have HBr : Hid (Below w2.heap.size w2 wr) := hb
    clear ho hb
    by_cases hlt : k < na
    · have hlti : (k : Int) < na := by omega
      have hltj : (k : Int) < (na : Int) + nb := by omega
      obtain ⟨b, off, ha, hbw, hcell⟩ : ∃ b off, ao = some (⟨b, off, none⟩ : Addr) ∧ b < w.heap.size ∧ ∀ j < na, w.cell? ⟨b, off + j * 2, none⟩ = some (.float .f64 (fa j)) ∧ w.cell? ⟨b, off + j * 2 + 1, none⟩ = some (.bool (pa j)) := by
        rcases HA.out with h | h
        · omega
        · exact h
      have hb2w : b < w2.heap.size := Nat.lt_of_lt_of_le hbw HB2.out.size
      have hf0 := (HBr.out.cell (by exact hb2w)).trans ((HB2.out.cell (by exact hbw)).trans (hcell k hlt).1)
      have hf1 := (HBr.out.cell (by exact hb2w)).trans ((HB2.out.cell (by exact hbw)).trans (hcell k hlt).2)
      obtain ⟨⟨u0, h0⟩, u1, h1⟩ := HO.out.there k (by omega)
      have z0 := HO.out.open_ (k * 2)
      have z1 := HO.out.open_ (k * 2 + 1)
      have HN : Hid (OwnInp ((wr.setCell ⟨w2.heap.size, k * 2, none⟩ (.float .f64 (fa k))).setCell ⟨w2.heap.size, k * 2 + 1, none⟩ (.bool (pa k))) w2.heap.size (na + nb) (k + 1) (join na fa fb) (join na pa pb)) :=
        HO.out.put' (by omega) (join_lt hlt) (join_lt hlt)
      have hsf := storeF
      subst ha
      clear hcell hbw hb2w
      go_wp2
      go_roundw
      case rel => exact ⟨k + 1, by omega, by go_num, HN.out, (HBr.out.setCell (by exact Nat.le_refl _) _).setCell (by exact Nat.le_refl _) _⟩
      case measure => simp [intOf]; omega
    · have hkn : na = k := by omega
      subst hkn
      go_wp2
      go_loopw [10] (fun i wx => ∃ m : Nat, m ≤ nb ∧ i = .int .i64 m ∧ OwnInp wx w2.heap.size (na + nb) (na + m) (join na fa fb) (join na pa pb) ∧ Below w2.heap.size w2 wx) (fun i _ => nb - (intOf i).toNat)
      case atStart => exact ⟨0, by omega, rfl, HO.out, HBr.out⟩
      case round =>
        clear HO HBr
        obtain ⟨m, hm, rfl, ho, hb⟩ := hrel
        have HO : Hid (OwnInp wr w2.heap.size (na + nb) (na + m) (join na fa fb) (join na pa pb)) := ho
        have HBr : Hid (Below w2.heap.size w2 wr) := hb
        clear ho hb
        by_cases hlt2 : m < nb
        · have hlti : (m : Int) < nb := by omega
          have hltj : (na : Int) + m < (na : Int) + nb := by omega
          have hltk : ((na + m : Nat) : Int) < (na : Int) + nb := by omega
          obtain ⟨b, off, ha, hbw, hcell⟩ : ∃ b off, bo = some (⟨b, off, none⟩ : Addr) ∧ b < w.heap.size ∧ ∀ j < nb, w.cell? ⟨b, off + j * 2, none⟩ = some (.float .f64 (fb j)) ∧ w.cell? ⟨b, off + j * 2 + 1, none⟩ = some (.bool (pb j)) := by
            rcases HB.out with h | h
            · omega
            · exact h
          have hb2w : b < w2.heap.size := Nat.lt_of_lt_of_le hbw HB2.out.size
          have hf0 := (HBr.out.cell (by exact hb2w)).trans ((HB2.out.cell (by exact hbw)).trans (hcell m hlt2).1)
          have hf1 := (HBr.out.cell (by exact hb2w)).trans ((HB2.out.cell (by exact hbw)).trans (hcell m hlt2).2)
          obtain ⟨⟨u0, h0⟩, u1, h1⟩ := HO.out.there (na + m) (by omega)
          have z0 := HO.out.open_ ((na + m) * 2)
          have z1 := HO.out.open_ ((na + m) * 2 + 1)
          have HN : Hid (OwnInp ((wr.setCell ⟨w2.heap.size, (na + m) * 2, none⟩ (.float .f64 (fb m))).setCell ⟨w2.heap.size, (na + m) * 2 + 1, none⟩ (.bool (pb m))) w2.heap.size (na + nb) (na + m + 1) (join na fa fb) (join na pa pb)) :=
            HO.out.put' (by omega) join_add join_add
          have hsf := storeF
          subst ha
          clear hcell hbw hb2w
          go_wp2
          go_roundw
          case rel => exact ⟨m + 1, by omega, by go_num, HN.out, (HBr.out.setCell (by exact Nat.le_refl _) _).setCell (by exact Nat.le_refl _) _⟩
          case measure => simp [intOf]; omega
        · have hmn : nb = m := by omega
          subst hmn
          go_wp2_with fail
          have HPj : Hid (PresAt wr (some ⟨w2.heap.size, 0, none⟩) (na + nb) (join na pa pb)) := HO.out.inp.pres
          refine (zzSet (na + nb) (na + nb) _ (join na pa pb) _ (by omega) HPj.out).mono ?_
          rintro e w4 ⟨rfl, hb4⟩
          have HPa : Hid (PresAt w4 r1 na pa) := (HP12.out.below HBr.out).below hb4
          have HPb : Hid (PresAt w4 r2 nb pb) := (HP2.out.below HBr.out).below hb4
          have HB4 : Hid (Below w.heap.size w w4) := HB2.out.trans ((HBr.out.trans (hb4.mono HBr.out.size)).mono HB2.out.size)
          clear hb4
          go_wp2_with fail
          refine (zzSet na c1 r1 pa _ (by omega) HPa.out).mono ?_
          rintro e w5 ⟨rfl, hb5⟩
          have HPb5 : Hid (PresAt w5 r2 nb pb) := HPb.out.below hb5
          have HB5 : Hid (Below w.heap.size w w5) := HB4.out.trans (hb5.mono HB4.out.size)
          clear hb5
          go_wp2_with fail
          refine (zzSet nb c2 r2 pb _ (by omega) HPb5.out).mono ?_
          rintro e w6 ⟨rfl, hb6⟩
          have HB6 : Hid (Below w.heap.size w w6) := HB5.out.trans (hb6.mono HB5.out.size)
          have hs := bmp_size (join na pa pb) (na + nb)
          have hsa := bmp_size pa na
          have hsb := bmp_size pb nb
          clear hb6
          go_wp2_with fail
          go_loopw [14, 15] (fun c x wi => ∃ i : Nat, i ≤ 8 * ((na + nb + 7) / 8) ∧ x = .int .i64 i ∧ c = .int .i64 (cnt (join na pa pb) (min i (na + nb))) ∧ Below w.heap.size w wi) (fun _ x _ => 8 * ((na + nb + 7) / 8) - (intOf x).toNat)
          case atStart => exact ⟨0, by omega, rfl, by rw [Nat.zero_min]; rfl, HB6.out⟩
          case round =>
            clear HO HBr
            obtain ⟨i, hi, rfl, rfl, hbi⟩ := hrel
            have HBi : Hid (Below w.heap.size w wr) := hbi
            have hle := cnt_le (join na pa pb) (min i (na + nb))
            clear hbi
            by_cases hlt3 : i < 8 * ((na + nb + 7) / 8)
            · have hi8 : (i : Int) < 8 * (((na : Int) + nb + 7) / 8) := by omega
              by_cases ia : i < na
              · have iaI : (i : Int) < na := by omega
                cases hq : pa i
                · have HJ : Hid (join na pa pb i = false) := (join_lt ia).trans hq
                  have HQ : Hid (pa i = false) := hq
                  clear hq
                  go_wp2_with fail
                  refine (bitAtX (join na pa pb) (na + nb) _ i false _ (by omega) hlt3 rfl ?_).mono ?_
                  · rw [HJ.out]; simp; try omega
                  rintro e wa ⟨rfl, rfl⟩
                  go_wp2_with fail
                  refine (bitAtX pa na _ i false _ (by omega) (by omega) rfl ?_).mono ?_
                  · rw [HQ.out]; simp; try omega
                  rintro e wa ⟨rfl, rfl⟩
                  go_wp2
                  go_roundw
                  case rel => exact ⟨i + 1, by omega, by go_num, by rw [cnt_min_no (join na pa pb) i (na + nb) (by omega) HJ.out], HBi.out⟩
                  case measure => simp [intOf]; omega
                · have HJ : Hid (join na pa pb i = true) := (join_lt ia).trans hq
                  have HQ : Hid (pa i = true) := hq
                  clear hq
                  go_wp2_with fail
                  refine (bitAtX (join na pa pb) (na + nb) _ i true _ (by omega) hlt3 rfl ?_).mono ?_
                  · rw [HJ.out]; simp; try omega
                  rintro e wa ⟨rfl, rfl⟩
                  go_wp2_with fail
                  refine (bitAtX pa na _ i true _ (by omega) (by omega) rfl ?_).mono ?_
                  · rw [HQ.out]; simp; try omega
                  rintro e wa ⟨rfl, rfl⟩
                  go_wp2
                  go_roundw
                  case rel => exact ⟨i + 1, by omega, by go_num, by rw [cnt_min_yes (join na pa pb) i (na + nb) (by omega) HJ.out]; go_num, HBi.out⟩
                  case measure => simp [intOf]; omega
              · have iaI : ¬ (i : Int) < na := by omega
                by_cases ib : i < na + nb
                · have ibI : (i : Int) < (na : Int) + nb := by omega
                  cases hq : pb (i - na)
                  · have HJ : Hid (join na pa pb i = false) := (join_ge ia).trans hq
                    have HQ : Hid (pb (i - na) = false) := hq
                    clear hq
                    go_wp2_with fail
                    refine (bitAtX (join na pa pb) (na + nb) _ i false _ (by omega) hlt3 rfl ?_).mono ?_
                    · rw [HJ.out]; simp; try omega
                    rintro e wa ⟨rfl, rfl⟩
                    go_wp2_with fail
                    refine (bitAtX pb nb _ (i - na) false _ (by omega) (by omega) (by omega) ?_).mono ?_
                    · rw [HQ.out]; simp; try omega
                    rintro e wa ⟨rfl, rfl⟩
                    go_wp2
                    go_roundw
                    case rel => exact ⟨i + 1, by omega, by go_num, by rw [cnt_min_no (join na pa pb) i (na + nb) (by omega) HJ.out], HBi.out⟩
                    case measure => simp [intOf]; omega
                  · have HJ : Hid (join na pa pb i = true) := (join_ge ia).trans hq
                    have HQ : Hid (pb (i - na) = true) := hq
                    clear hq
                    go_wp2_with fail
                    refine (bitAtX (join na pa pb) (na + nb) _ i true _ (by omega) hlt3 rfl ?_).mono ?_
                    · rw [HJ.out]; simp; try omega
                    rintro e wa ⟨rfl, rfl⟩
                    go_wp2_with fail
                    refine (bitAtX pb nb _ (i - na) true _ (by omega) (by omega) (by omega) ?_).mono ?_
                    · rw [HQ.out]; simp; try omega
                    rintro e wa ⟨rfl, rfl⟩
                    go_wp2
                    go_roundw
                    case rel => exact ⟨i + 1, by omega, by go_num, by rw [cnt_min_yes (join na pa pb) i (na + nb) (by omega) HJ.out]; go_num, HBi.out⟩
                    case measure => simp [intOf]; omega
                · have ibI : ¬ (i : Int) < (na : Int) + nb := by omega
                  go_wp2_with fail
                  refine (bitAtX (join na pa pb) (na + nb) _ i false _ (by omega) hlt3 rfl ?_).mono ?_
                  · simp [ib]
                  rintro e wa ⟨rfl, rfl⟩
                  go_wp2
                  go_roundw
                  case rel => exact ⟨i + 1, by omega, by go_num, by rw [cnt_min_past (join na pa pb) i (na + nb) ib], HBi.out⟩
                  case measure => simp [intOf]; omega
            · have hi8 : ¬ (i : Int) < 8 * (((na : Int) + nb + 7) / 8) := by omega
              have hmin : min i (na + nb) = na + nb := by omega
              have HC : Hid (cnt (join na pa pb) (min i (na + nb)) = cnt pa na + cnt pb nb) := by show _ = _; rw [hmin]; exact cnt_join na nb pa pb
              have hca := cnt_le pa na
              have hcb := cnt_le pb nb
              clear hmin
              go_wp2_with fail
              refine (count_all ao na ca pa _ (by omega) (HA.out.pres.below HBi.out)).mono ?_
              rintro e wa ⟨rfl, rfl⟩
              go_wp2_with fail
              refine (count_all bo nb cb pb _ (by omega) (HB.out.pres.below HBi.out)).mono ?_
              rintro e wa ⟨rfl, rfl⟩
              have he : (((cnt (join na pa pb) (min i (na + nb)) : Nat) : Int) == ((cnt pa na : Nat) : Int) + ((cnt pb nb : Nat) : Int)) = true := by rw [HC.out, beq_iff_eq]; omega
              go_wp2
              go_ret
              exact ⟨rfl, HBi.out⟩

set_option maxHeartbeats 2000000 in
theorem join_big (ao bo : Option Addr) (na nb ca cb : Nat) (w : World) (la : (na : Int) ≤ 140737488355328) (lb : (nb : Int) ≤ 140737488355328) (h : ¬ (na ≤ 32768 ∧ nb ≤ 32768)) :
    Calls Try.prog 3 #[.slice ao na ca, .slice bo nb cb] w fun e w' => e = .returned (.bool true) ∧ Below w.heap.size w w' := by
  by_cases h1 : (na : Int) ≤ 32768
  · have h2 : (32768 : Int) < nb := by omega
    clear h
    go_enter Try.func3, Try.ntmps3
    go_wp2
    all_goals
      go_ret
      exact ⟨rfl, Below.refl _ _⟩
  · have h2 : (32768 : Int) < na := by omega
    clear h
    go_enter Try.func3, Try.ntmps3
    go_wp2
    all_goals
      go_ret
      exact ⟨rfl, Below.refl _ _⟩

theorem join_all (ao bo : Option Addr) (na nb ca cb : Nat) (fa fb : Nat → Nat) (pa pb : Nat → Bool) (w : World) (h0 : ao = none → na = 0 ∧ ca = 0) (h1 : bo = none → nb = 0 ∧ cb = 0)
    (ha : InpAt w ao na fa pa) (hb : InpAt w bo nb fb pb) (la : na ≤ 140737488355328) (lb : nb ≤ 140737488355328) :
    Calls Try.prog 3 #[.slice ao na ca, .slice bo nb cb] w fun e w' => e = .returned (.bool true) ∧ Below w.heap.size w w' := by
  by_cases h : na ≤ 32768 ∧ nb ≤ 32768
  · exact join_walk ao bo na nb ca cb fa fb pa pb w h0 h1 ha hb h.1 h.2
  · exact join_big ao bo na nb ca cb w (by omega) (by omega) h

end Go.Proofs.Qxb6615186a
