/- The walk of FnSensorSetTogglingOneInputFlipsItsBitAlone. -/
import Derived.Test.Qxb6615186aCopy
import Derived.BigQuiet
import Derived.Deep.QuietTactic
import Derived.Deep.RegionHeld3
import Derived.WalkSmall
namespace Go.Proofs.Qxb6615186a
open Go.RowKit

/-- p with sensor j turned. -/
def flipAt (p : Nat → Bool) (j : Nat) : Nat → Bool := fun i => if i = j then !p i else p i

/-- 'p2[j].Present = v' -/
theorem OwnInp.pres_put {w : World} {g n j : Nat} {f : Nat → Nat} {p : Nat → Bool} (h : OwnInp w g n n f p) (hj : j < n) :
    PresAt (w.setCell ⟨g, j * 2 + 1, none⟩ (.bool (!p j))) (some ⟨g, 0, none⟩) n (flipAt p j) := by
  refine Or.inr ⟨g, 0, rfl, by simpa [World.setCell] using h.lt, fun i hi => ?_⟩
  rw [Nat.zero_add]
  unfold flipAt
  by_cases e : i = j
  · subst e
    rw [if_pos rfl]
    exact World.cell?_setCell_same _ _ _ (h.val i hi).2
  · rw [if_neg e, World.cell?_setCell_other _ _ _ _ (ne_off (by omega))]
    exact (h.val i hi).2

theorem xor_here (p : Nat → Bool) (n j k : Nat) (hj : j < n) (h1 : k < (bmp p n).size) (h2 : k < (bmp (flipAt p j) n).size) (e : k = j / 8) :
    bits BinOp.xor IntKind.u8 (↑(bmp p n)[k].toNat) (↑(bmp (flipAt p j) n)[k].toNat) = 128 / 2 ^ (j % 8) := by
  rw [bmp_get, bmp_get, u8_xor_nat _ _ (byteTo_lt _ _ _) (byteTo_lt _ _ _), xor_one p (flipAt p j) n j k hj (fun i => rfl), if_pos e, mask_eq]
theorem xor_there (p : Nat → Bool) (n j k : Nat) (hj : j < n) (h1 : k < (bmp p n).size) (h2 : k < (bmp (flipAt p j) n).size) (e : ¬ k = j / 8) :
    bits BinOp.xor IntKind.u8 (↑(bmp p n)[k].toNat) (↑(bmp (flipAt p j) n)[k].toNat) = 0 := by
  rw [bmp_get, bmp_get, u8_xor_nat _ _ (byteTo_lt _ _ _) (byteTo_lt _ _ _), xor_one p (flipAt p j) n j k hj (fun i => rfl), if_neg e]
  rfl

set_option maxHeartbeats 4000000 in
theorem toggle_some (a : Addr) (n cap : Nat) (j : Int) (f : Nat → Nat) (p : Nat → Bool) (w : World) (hn : n ≤ 140737488355328) (h : InpAt w (some a) n f p) :
    Calls Try.prog 4 #[.slice (some a) n cap, .int .i64 j] w fun e w' => e = .returned (.bool true) ∧ Below w.heap.size w w' := by
  by_cases h1 : (n : Int) ≤ 1048576
  · by_cases h2 : (n : Int) ≤ 65536
    · by_cases h3 : j < 0
      · clear h
        go_enter Try.func4, Try.ntmps4
        go_wp2
        go_ret
        exact ⟨rfl, Below.refl _ _⟩
      · by_cases h4 : (n : Int) ≤ j
        · clear h
          go_enter Try.func4, Try.ntmps4
          go_wp2
          go_ret
          exact ⟨rfl, Below.refl _ _⟩
        · obtain ⟨i, rfl⟩ := Int.eq_ofNat_of_zero_le (show 0 ≤ j by omega)
          have hi : i < n := by omega
          have hiI : (i : Int) < n := by omega
          obtain ⟨b, off, ha, hbw, hcell⟩ : ∃ b off, some a = some (⟨b, off, none⟩ : Addr) ∧ b < w.heap.size ∧ ∀ j < n, w.cell? ⟨b, off + j * 2, none⟩ = some (.float .f64 (f j)) ∧ w.cell? ⟨b, off + j * 2 + 1, none⟩ = some (.bool (p j)) := by
            rcases h with h | h
            · omega
            · exact h
          injection ha with ha
          subst ha
          have HI : Hid (InpAt w (some ⟨b, off, none⟩) n f p) := h
          have HC : Hid (w.cell? ⟨b, off + i * 2 + 1, none⟩ = some (.bool (p i))) := (hcell i hi).2
          clear h hcell
          go_enter Try.func4, Try.ntmps4
          go_wp2_with (first | (go_at_call 13; go_in))
          refine (copy_some ⟨b, off, none⟩ n cap f p _ (by omega) HI.out).mono ?_
          rintro e w1 ⟨rfl, ho1, hb1⟩
          have HO1 : Hid (OwnInp w1 w.heap.size n n f p) := ho1
          have HB1 : Hid (Below w.heap.size w w1) := hb1
          clear ho1 hb1
          go_wp2_with fail
          refine (copy_some ⟨b, off, none⟩ n cap f p _ (by omega) (HI.out.below HB1.out)).mono ?_
          rintro e w2 ⟨rfl, ho2, hb2⟩
          have HB2 : Hid (Below w1.heap.size w1 w2) := hb2
          have HO2 : Hid (OwnInp w2 w1.heap.size n n f p) := ho2
          have hc2 : w2.cell? ⟨b, off + i * 2 + 1, none⟩ = some (.bool (p i)) :=
            (hb2.cell (by exact Nat.lt_of_lt_of_le hbw HB1.out.size)).trans ((HB1.out.cell (by exact hbw)).trans HC.out)
          have hd2 := (ho2.val i hi).2
          have hz2 := ho2.open_ (i * 2 + 1)
          have HP2 : Hid (PresAt (w2.setCell ⟨w1.heap.size, i * 2 + 1, none⟩ (.bool (!p i))) (some ⟨w1.heap.size, 0, none⟩) n (flipAt p i)) := ho2.pres_put hi
          have HP1 : Hid (PresAt (w2.setCell ⟨w1.heap.size, i * 2 + 1, none⟩ (.bool (!p i))) (some ⟨w.heap.size, 0, none⟩) n p) :=
            (HO1.out.inp.pres).below ((hb2).setCell (by exact Nat.le_refl _) _)
          have HC2 : Hid ((w2.setCell ⟨w1.heap.size, i * 2 + 1, none⟩ (.bool (!p i))).cell? ⟨b, off + i * 2 + 1, none⟩ = some (.bool (p i))) := by
            show _ = _
            rw [World.cell?_setCell_far _ _ _ _ (by show w1.heap.size ≠ b; have := HB1.out.size; omega)]
            exact hc2
          have HB3 : Hid (Below w.heap.size w (w2.setCell ⟨w1.heap.size, i * 2 + 1, none⟩ (.bool (!p i)))) :=
            (HB1.out.trans (hb2.mono HB1.out.size)).setCell (by exact HB1.out.size) _
          clear ho2 hb2
          go_wp2_with fail
          clear hc2 hd2 hz2
          refine (zzSet n n _ p _ (by omega) HP1.out).mono ?_
          rintro e w4 ⟨rfl, hb4⟩
          have HP4 : Hid (PresAt w4 (some ⟨w1.heap.size, 0, none⟩) n (flipAt p i)) := HP2.out.below hb4
          have HB4 : Hid (Below w.heap.size w w4) := HB3.out.trans (hb4.mono HB3.out.size)
          clear hb4
          go_wp2_with fail
          refine (zzSet n n _ (flipAt p i) _ (by omega) HP4.out).mono ?_
          rintro e w5 ⟨rfl, hb5⟩
          have HB5 : Hid (Below w.heap.size w w5) := HB4.out.trans (hb5.mono HB4.out.size)
          have hc5 : w5.cell? ⟨b, off + i * 2 + 1, none⟩ = some (.bool (p i)) := (HB5.out.cell (by exact hbw)).trans HC.out
          have hs1 := bmp_size p n
          have hs2 := bmp_size (flipAt p i) n
          clear hb5
          go_wp2_with fail
          go_quiet ((go_at_call 11; exact Calls.quiet_of_same ((bitAtW p n i _ (by omega) (by omega)).mono fun _ _ h => ⟨h.1, h.2.symm⟩)))
          go_wp2_with fail
          go_loopw [10] (fun k wr => ∃ m : Nat, m ≤ (n + 7) / 8 ∧ k = .int .i64 m ∧ Below w.heap.size w wr) (fun k _ => (n + 7) / 8 - (intOf k).toNat)
          case atStart => exact ⟨0, by omega, rfl, below_drewN HB5.out _⟩
          case round =>
            obtain ⟨m, hm, rfl, hb⟩ := hrel
            have HB : Hid (Below w.heap.size w wr) := hb
            clear hb hc5
            by_cases hlt : m < (n + 7) / 8
            · have hm1 : m < (bmp p n).size := by rw [hs1]; exact hlt
              have hm2 : m < (bmp (flipAt p i) n).size := by rw [hs2]; exact hlt
              have hmI : (m : Int) < ((n : Int) + 7) / 8 := by omega
              by_cases e : m = i / 8
              · have hx := xor_here p n i m hi hm1 hm2 e
                have hq : ((m : Int) == (i : Int) / 8) = true := by rw [beq_iff_eq]; omega
                clear e
                go_wp2_with fail
                go_quiet (fail)
                go_wp2
                go_roundw
                case rel => exact ⟨m + 1, by omega, by go_num, below_drewN HB.out _⟩
                case measure => simp [intOf]; omega
              · have hx := xor_there p n i m hi hm1 hm2 e
                have hq : ((m : Int) == (i : Int) / 8) = false := by rw [beq_eq_false_iff_ne]; omega
                clear e
                go_wp2_with fail
                go_quiet (fail)
                go_wp2
                go_roundw
                case rel => exact ⟨m + 1, by omega, by go_num, below_drewN HB.out _⟩
                case measure => simp [intOf]; omega
            · have hmn : m = (n + 7) / 8 := by omega
              go_wp2
              go_ret
              exact ⟨rfl, HB.out⟩
    · clear h
      go_enter Try.func4, Try.ntmps4
      go_wp2
      go_ret
      exact ⟨rfl, Below.refl _ _⟩
  · clear h
    go_enter Try.func4, Try.ntmps4
    go_wp2
    go_ret
    exact ⟨rfl, Below.refl _ _⟩

set_option maxHeartbeats 1000000 in
theorem toggle_nil (j : Int) (w : World) : Calls Try.prog 4 #[.slice none 0 0, .int .i64 j] w fun e w' => e = .returned (.bool true) ∧ Below w.heap.size w w' := by
  by_cases h3 : j < 0
  · go_enter Try.func4, Try.ntmps4
    go_wp2
    go_ret
    exact ⟨rfl, Below.refl _ _⟩
  · have h4 : 0 ≤ j := by omega
    go_enter Try.func4, Try.ntmps4
    go_wp2
    go_ret
    exact ⟨rfl, Below.refl _ _⟩

end Go.Proofs.Qxb6615186a
