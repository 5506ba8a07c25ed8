/- The walks of bitmapOf, sensorSet, ZZsensorSet, bitAt. -/
import Derived.Test.Qxb6615186aRows
import Derived.Test.Qxb6615186aPlain
import Derived.WalkKit
import Derived.WalkSpells
import Derived.ProofKit
import Derived.Deep.OwnRows
import Derived.Deep.MidRow
import Derived.Laws.BitsAllLaws
import Derived.Laws.IdiomStrings
namespace Go.Proofs.Qxb6615186a
open Go.RowKit

theorem info5 : (Try.prog.info? 5).map (fun i => (i.zero, i.size, i.bytes)) = some (some (.int .u8 0), 1, 1) := by kernel_rfl

/-- The slice (ao, n) of inputs lies in w; sensor j is present where p j. -/
def PresAt (w : World) (ao : Option Addr) (n : Nat) (p : Nat → Bool) : Prop :=
  n = 0 ∨ ∃ b off, ao = some ⟨b, off, none⟩ ∧ b < w.heap.size ∧ ∀ j < n, w.cell? ⟨b, off + j * 2 + 1, none⟩ = some (.bool (p j))

theorem PresAt.below {w w' : World} {ao : Option Addr} {n : Nat} {p : Nat → Bool} (h : PresAt w ao n p) (hb : Below w.heap.size w w') : PresAt w' ao n p := by
  rcases h with h | ⟨b, off, ha, hbw, hc⟩
  · exact Or.inl h
  · exact Or.inr ⟨b, off, ha, Nat.lt_of_lt_of_le hbw hb.size, fun j hj => (hb.cell (by exact hbw)).trans (hc j hj)⟩

theorem made_get (z : Value) (n m : Nat) (h : m < n) : (madeCells #[z] n)[m]? = some z := by
  simp [madeCells, h, Nat.mod_one]

/-- One 'b[k/8] |= 0x80 >> (k%8)'. -/
theorem or_cells {wr : World} {g n k : Nat} {p : Nat → Bool} (hk : k / 8 < n) (hp : p k = true)
    (hx : ∀ m < n, wr.cell? ⟨g, m, none⟩ = some (.int .u8 (byteTo p k m : Int))) :
    ∀ m < n, ((wr.setCell ⟨g, k / 8, none⟩ (.int .u8 (bits BinOp.or IntKind.u8 (byteTo p k (k / 8) : Int) (128 / 2 ^ (k % 8))))).drew).cell? ⟨g, m, none⟩ = some (.int .u8 (byteTo p (k + 1) m : Int)) := by
  intro m hm
  rw [mask_eq, u8_or_nat _ _ (byteTo_lt _ _ _) (mask_lt _)]
  by_cases e : k / 8 = m
  · subst e
    rw [byteTo_set p k hp]
    exact World.cell?_setCell_same _ _ _ (hx _ hk)
  · rw [byteTo_other p k m e]
    exact (World.cell?_setCell_other _ _ _ _ (by intro h; injection h with _ h; exact e h)).trans (hx m hm)

set_option maxHeartbeats 1000000 in
theorem bitmapOfW (n c cap : Nat) (ao : Option Addr) (p : Nat → Bool) (w : World) (hn : n ≤ 1048576) (hcw : c < w.heap.size) (hc : w.cell? ⟨c, 0, none⟩ = some (.slice ao n cap)) (hp : PresAt w ao n p) :
    Calls Try.prog 30 #[.int .i64 n, .func (.func 31) #[] #[.pointer (some ⟨c, 0, none⟩)]] w fun e w' => e = .returned (.string (bmp p n)) ∧ Below w.heap.size w w' := by
  have hmk := fun (w : World) => run_make_row' (P := Try.prog) 78 5 (.int .u8 0) 1 Try.underlying78 info5 rfl .i64 .i64 ((n + 7) / 8) (by omega) (by omega) w
  have e8 : (((n + 7) / 8 : Nat) : Int) = ((n : Int) + 7) / 8 := by omega
  rw [e8] at hmk
  clear e8
  have HP : Hid (PresAt w ao n p) := hp
  have HC : Hid (w.cell? ⟨c, 0, none⟩ = some (.slice ao n cap)) := hc
  clear hp hc
  go_enter Try.func30, Try.ntmps30
  go_wp2
  go_loopw [11] (fun i wr => ∃ k : Nat, k ≤ n ∧ i = .int .i64 k ∧ Below w.heap.size w wr ∧ (∀ m < (n + 7) / 8, wr.cell? ⟨w.heap.size, m, none⟩ = some (.int .u8 (byteTo p k m : Int))) ∧ (∀ m < (n + 7) / 8, wr.frozen? ⟨w.heap.size, m, none⟩ = false)) (fun i _ => n - (intOf i).toNat)
  case atStart =>
    refine ⟨0, by omega, rfl, (Below.refl _ _).alloc (Nat.le_refl _) _, fun m hm => ?_, fun m hm => ?_⟩
    · rw [World.cell?_alloc_new]
      exact made_get _ _ _ hm
    · rw [frozen?_alloc_cells]
      simp [World.frozen?]
  case round =>
    obtain ⟨k, hk, rfl, hb, hx, hf⟩ := hrel
    have HB : Hid (Below w.heap.size w wr) := hb
    have HX : Hid (∀ m < (n + 7) / 8, wr.cell? ⟨w.heap.size, m, none⟩ = some (.int .u8 (byteTo p k m : Int))) := hx
    have HF : Hid (∀ m < (n + 7) / 8, wr.frozen? ⟨w.heap.size, m, none⟩ = false) := hf
    clear hb hx hf
    by_cases hlt : k < n
    · have hcr : wr.cell? ⟨c, 0, none⟩ = some (.slice ao n cap) := (HB.out.cell (by exact hcw)).trans HC.out
      have hlti : (k : Int) < n := by omega
      obtain ⟨b, off, ha, hbw, hcell⟩ : ∃ b off, ao = some ⟨b, off, none⟩ ∧ b < w.heap.size ∧ ∀ j < n, w.cell? ⟨b, off + j * 2 + 1, none⟩ = some (.bool (p j)) := by
        rcases HP.out with h | h
        · omega
        · exact h
      rw [ha] at hcr
      have hpr : wr.cell? ⟨b, off + k * 2 + 1, none⟩ = some (.bool (p k)) := (HB.out.cell (by exact hbw)).trans (hcell k hlt)
      clear hcell ha hbw
      cases hpk : p k
      · rw [hpk] at hpr
        have HPk : Hid (p k = false) := hpk
        clear hpk
        go_wp2
        go_roundw
        case rel => exact ⟨k + 1, by omega, by go_num, HB.out, fun m hm => by rw [byteTo_clear p k m HPk.out]; exact HX.out m hm, HF.out⟩
        case measure => simp [intOf]; omega
      · rw [hpk] at hpr
        have HPk : Hid (p k = true) := hpk
        clear hpk
        have hx := HX.out (k / 8) (by omega)
        have hf := HF.out (k / 8) (by omega)
        go_wp2
        go_region
        go_wp2
        go_roundw
        case rel => exact ⟨k + 1, by omega, by go_num, (HB.out.setCell (by exact Nat.le_refl _) _).drew, or_cells (by omega) HPk.out HX.out, fun m hm => (World.frozen?_setCell _ _ _ _).trans (HF.out m hm)⟩
        case measure => simp [intOf]; omega
    · have hkn : k = n := by omega
      subst hkn
      have hcv := run_convert_bytes_back (P := Try.prog) wr 78 9 5 ⟨w.heap.size, 0, none⟩ ((k + 7) / 8) (bmpL p k) Try.underlying78 Try.underlying5 Try.underlying9 (fun j hj => by
        rw [Addr.add_mid, Nat.zero_add, bmpL_get p k j hj]
        exact HX.out j (by rw [bmpL_length] at hj; exact hj))
      rw [bmpL_length] at hcv
      go_wp2
      go_ret
      exact ⟨rfl, HB.out⟩

set_option maxHeartbeats 1000000 in
theorem sensorSetW (n cap : Nat) (ao : Option Addr) (p : Nat → Bool) (w : World) (hn : n ≤ 1048576) (hp : PresAt w ao n p) :
    Calls Try.prog 27 #[.slice ao n cap] w fun e w' => e = .returned (.string (bmp p n)) ∧ Below w.heap.size w w' := by
  have HP : Hid (PresAt (w.alloc (.cells #[.slice ao n cap] 24)) ao n p) := hp.below ((Below.refl _ _).alloc (Nat.le_refl _) _)
  clear hp
  go_enter Try.func27, Try.ntmps27
  go_wp2_with fail
  refine (bitmapOfW n w.heap.size cap ao p _ hn (by simp) ?_ HP.out).mono ?_
  · simp
  · rintro e w1 ⟨rfl, hb⟩
    go_wp2_with fail
    go_ret
    exact ⟨rfl, ((Below.refl _ _).alloc (Nat.le_refl _) _).trans (hb.mono (by simp))⟩

set_option maxHeartbeats 1000000 in
theorem zzSet (n cap : Nat) (ao : Option Addr) (p : Nat → Bool) (w : World) (hn : n ≤ 1048576) (hp : PresAt w ao n p) :
    Calls Try.prog 10 #[.slice ao n cap] w fun e w' => e = .returned (.string (bmp p n)) ∧ Below w.heap.size w w' := by
  have HP : Hid (PresAt w ao n p) := hp
  clear hp
  go_enter Try.func10, Try.ntmps10
  go_wp2_with fail
  refine (sensorSetW n cap ao p _ hn HP.out).mono ?_
  rintro e w1 ⟨rfl, hb⟩
  go_wp2_with fail
  go_ret
  exact ⟨rfl, hb⟩

theorem bmp_get (p : Nat → Bool) (n m : Nat) (h : m < (bmp p n).size) : (bmp p n)[m].toNat = byteTo p n m := by
  have h' : m < (bmpL p n).length := by rw [bmpL_length]; rwa [bmp_size] at h
  rw [← bmpL_get p n m h']
  rfl

theorem bit_val (p : Nat → Bool) (n i : Nat) (h : i / 8 < (bmp p n).size) :
    (bits BinOp.and IntKind.u8 (↑(bmp p n)[i / 8].toNat) (128 / 2 ^ (i % 8)) != 0) = (decide (i < n) && p i) := by
  rw [bmp_get p n (i / 8) h, mask_eq, u8_and_nat _ _ (byteTo_lt _ _ _) (mask_lt _), Bool.eq_iff_iff]
  have := and_mask p n i
  simp only [bne_iff_ne, ne_eq, Bool.and_eq_true, decide_eq_true_eq]
  rw [← this]
  omega

set_option maxHeartbeats 1000000 in
/-- bitAt at a bitmap, inside it. -/
theorem bitAtW (p : Nat → Bool) (n i : Nat) (w : World) (hn : n ≤ 1048576) (hi : i < 8 * ((n + 7) / 8)) :
    Calls Try.prog 11 #[.string (bmp p n), .int .i64 i] w fun e w' => e = .returned (.bool (decide (i < n) && p i)) ∧ w = w' := by
  have hs := bmp_size p n
  have hlt : i / 8 < (bmp p n).size := by rw [hs]; omega
  go_enter Try.func11, Try.ntmps11
  go_wp2
  go_ret
  exact ⟨congrArg (fun b => Ending.returned (Value.bool b)) (bit_val p n i hlt), rfl⟩

end Go.Proofs.Qxb6615186a
