/- The walk of copyInputs. -/
import Derived.Test.Qxb6615186aSet
namespace Go.Proofs.Qxb6615186a
open Go.RowKit

/-- The slice (ao, n) of inputs lies in w: values f, presence p. -/
def InpAt (w : World) (ao : Option Addr) (n : Nat) (f : Nat → Nat) (p : Nat → Bool) : Prop :=
  n = 0 ∨ ∃ b off, ao = some ⟨b, off, none⟩ ∧ b < w.heap.size ∧ ∀ j < n, w.cell? ⟨b, off + j * 2, none⟩ = some (.float .f64 (f j)) ∧ w.cell? ⟨b, off + j * 2 + 1, none⟩ = some (.bool (p j))

theorem InpAt.pres {w : World} {ao : Option Addr} {n : Nat} {f : Nat → Nat} {p : Nat → Bool} (h : InpAt w ao n f p) : PresAt w ao n p := by
  rcases h with h | ⟨b, off, ha, hbw, hc⟩
  · exact Or.inl h
  · exact Or.inr ⟨b, off, ha, hbw, fun j hj => (hc j hj).2⟩
theorem InpAt.below {w w' : World} {ao : Option Addr} {n : Nat} {f : Nat → Nat} {p : Nat → Bool} (h : InpAt w ao n f p) (hb : Below w.heap.size w w') : InpAt w' ao n f p := by
  rcases h with h | ⟨b, off, ha, hbw, hc⟩
  · exact Or.inl h
  · exact Or.inr ⟨b, off, ha, Nat.lt_of_lt_of_le hbw hb.size, fun j hj => ⟨(hb.cell (by exact hbw)).trans (hc j hj).1, (hb.cell (by exact hbw)).trans (hc j hj).2⟩⟩

/-- Block g of w holds k inputs, and room for n; it may be written. -/
structure OwnInp (w : World) (g n k : Nat) (f : Nat → Nat) (p : Nat → Bool) : Prop where
  lt : g < w.heap.size
  val : ∀ j < k, w.cell? ⟨g, j * 2, none⟩ = some (.float .f64 (f j)) ∧ w.cell? ⟨g, j * 2 + 1, none⟩ = some (.bool (p j))
  there : ∀ j < n, (∃ u, w.cell? ⟨g, j * 2, none⟩ = some u) ∧ ∃ u, w.cell? ⟨g, j * 2 + 1, none⟩ = some u
  open_ : ∀ m, w.frozen? ⟨g, m, none⟩ = false

theorem OwnInp.inp {w : World} {g n : Nat} {f : Nat → Nat} {p : Nat → Bool} (h : OwnInp w g n n f p) : InpAt w (some ⟨g, 0, none⟩) n f p :=
  Or.inr ⟨g, 0, rfl, h.lt, fun j hj => by rw [Nat.zero_add]; exact h.val j hj⟩

theorem ne_off {g m m' : Nat} (h : m ≠ m') : (⟨g, m, none⟩ : Addr) ≠ ⟨g, m', none⟩ := by intro e; injection e with _ e; exact h e

/-- One element stored. -/
theorem OwnInp.put {w : World} {g n k : Nat} {f : Nat → Nat} {p : Nat → Bool} (h : OwnInp w g n k f p) (hk : k < n) :
    OwnInp ((w.setCell ⟨g, k * 2, none⟩ (.float .f64 (f k))).setCell ⟨g, k * 2 + 1, none⟩ (.bool (p k))) g n (k + 1) f p := by
  obtain ⟨⟨u0, h0⟩, u1, h1⟩ := h.there k hk
  refine ⟨by simpa [World.setCell] using h.lt, fun j hj => ?_, fun j hj => ?_, fun m => by rw [World.frozen?_setCell, World.frozen?_setCell]; exact h.open_ m⟩
  · by_cases e : j = k
    · subst e
      refine ⟨?_, ?_⟩
      · rw [World.cell?_setCell_other _ _ _ _ (ne_off (by omega))]
        exact World.cell?_setCell_same _ _ _ h0
      · exact World.cell?_setCell_same (u := u1) _ _ _ (by rw [World.cell?_setCell_other _ _ _ _ (ne_off (by omega))]; exact h1)
    · refine ⟨?_, ?_⟩
      · rw [World.cell?_setCell_other _ _ _ _ (ne_off (by omega)), World.cell?_setCell_other _ _ _ _ (ne_off (by omega))]
        exact (h.val j (by omega)).1
      · rw [World.cell?_setCell_other _ _ _ _ (ne_off (by omega)), World.cell?_setCell_other _ _ _ _ (ne_off (by omega))]
        exact (h.val j (by omega)).2
  · obtain ⟨⟨v0, g0⟩, v1, g1⟩ := h.there j hj
    obtain ⟨a0, b0⟩ := cell?_setCell_some (p := ⟨g, k * 2, none⟩) (x := .float .f64 (f k)) g0
    obtain ⟨a1, b1⟩ := cell?_setCell_some (p := ⟨g, k * 2, none⟩) (x := .float .f64 (f k)) g1
    exact ⟨cell?_setCell_some b0, cell?_setCell_some b1⟩

theorem info28 : (Try.prog.info? 28).map (fun i => (i.zero, i.size, i.bytes)) = some (some (.agg #[.float .f64 0, .bool false]), 2, 16) := by kernel_rfl

theorem storeF (w : World) (a : Addr) (x : Nat) (m : Mode) : (store a (.float .f64 x) m).run Try.prog w = stored Try.prog w a (.float .f64 x) m := run_store Try.prog w a _ m rfl

theorem make24 (n : Nat) (hn : n ≤ 1048576) (w : World) :
    (Instr.makeSlice 24 (.int .i64 n) (.int .i64 n)).run Try.prog w = .ok (.slice (some ⟨w.heap.size, 0, none⟩) n n) (w.alloc (.cells (madeCells #[.float .f64 0, .bool false] (n * 2)) 28)) := by
  obtain ⟨i, hi, hz⟩ := Option.map_eq_some_iff.1 info28
  simp only [Prod.mk.injEq] at hz
  obtain ⟨hz, hs, hb⟩ := hz
  have := run_make (P := Try.prog) w 24 28 i _ Try.underlying24 hi hz .i64 .i64 n n (by omega) (Int.le_refl _) (by rw [hb]; omega) (by omega)
  rw [hs] at this
  simpa [Value.cells] using this

theorem own_made (n : Nat) (w : World) (f : Nat → Nat) (p : Nat → Bool) : OwnInp (w.alloc (.cells (madeCells #[.float .f64 0, .bool false] (n * 2)) 28)) w.heap.size n 0 f p := by
  have hc : ∀ m < n * 2, ∃ u, (w.alloc (.cells (madeCells #[.float .f64 0, .bool false] (n * 2)) 28)).cell? ⟨w.heap.size, m, none⟩ = some u := by
    intro m hm
    rw [World.cell?_alloc_new]
    have : m < (madeCells #[.float .f64 0, .bool false] (n * 2)).size := by simpa [madeCells] using hm
    exact ⟨_, Array.getElem?_eq_getElem this⟩
  exact ⟨by simp, fun j hj => by omega, fun j hj => ⟨hc _ (by omega), hc _ (by omega)⟩, fun m => by rw [frozen?_alloc_cells]; simp [World.frozen?]⟩

set_option maxHeartbeats 1000000 in
theorem copy_nil (w : World) : Calls Try.prog 9 #[.slice none 0 0] w fun e w' => e = .returned (.slice none 0 0) ∧ w = w' := by
  have q1 := fun (w : World) (a : Option Addr) n c => Lib.run_eql_slice_nil (P := Try.prog) w 22 29 a n c 0 0 Try.underlying22
  go_enter Try.func9, Try.ntmps9
  go_wp2
  go_ret
  exact ⟨rfl, rfl⟩

set_option maxHeartbeats 1000000 in
theorem copy_some (a : Addr) (n cap : Nat) (f : Nat → Nat) (p : Nat → Bool) (w : World) (hn : n ≤ 1048576) (h : InpAt w (some a) n f p) :
    Calls Try.prog 9 #[.slice (some a) n cap] w fun e w' => e = .returned (.slice (some ⟨w.heap.size, 0, none⟩) n n) ∧ OwnInp w' w.heap.size n n f p ∧ Below w.heap.size w w' := by
  have q1 := fun (w : World) (a : Option Addr) n c => Lib.run_eql_slice_nil (P := Try.prog) w 22 29 a n c 0 0 Try.underlying22
  have hmk := make24 n hn
  have HI : Hid (InpAt w (some a) n f p) := h
  clear h
  go_enter Try.func9, Try.ntmps9
  go_wp2
  go_loopw [4] (fun i wr => ∃ k : Nat, k ≤ n ∧ i = .int .i64 k ∧ OwnInp wr w.heap.size n k f p ∧ Below w.heap.size w wr) (fun i _ => n - (intOf i).toNat)
  case atStart => exact ⟨0, by omega, rfl, own_made n w f p, (Below.refl _ _).alloc (Nat.le_refl _) _⟩
  case round =>
    obtain ⟨k, hk, rfl, ho, hb⟩ := hrel
    have HO : Hid (OwnInp wr w.heap.size n k f p) := ho
    have HB : Hid (Below w.heap.size w wr) := hb
    clear ho hb
    by_cases hlt : k < n
    · have hlti : (k : Int) < n := by omega
      obtain ⟨b, off, ha, hbw, hcell⟩ : ∃ b off, some a = some (⟨b, off, none⟩ : Addr) ∧ b < w.heap.size ∧ ∀ j < n, w.cell? ⟨b, off + j * 2, none⟩ = some (.float .f64 (f j)) ∧ w.cell? ⟨b, off + j * 2 + 1, none⟩ = some (.bool (p j)) := by
        rcases HI.out with h | h
        · omega
        · exact h
      injection ha with ha
      subst ha
      have hf0 := (HB.out.cell (by exact hbw)).trans (hcell k hlt).1
      have hf1 := (HB.out.cell (by exact hbw)).trans (hcell k hlt).2
      obtain ⟨⟨u0, h0⟩, u1, h1⟩ := HO.out.there k hlt
      have z0 := HO.out.open_ (k * 2)
      have z1 := HO.out.open_ (k * 2 + 1)
      have HN : Hid (OwnInp ((wr.setCell ⟨w.heap.size, k * 2, none⟩ (.float .f64 (f k))).setCell ⟨w.heap.size, k * 2 + 1, none⟩ (.bool (p k))) w.heap.size n (k + 1) f p) := HO.out.put hlt
      clear hcell hbw
      have hsf := storeF
      go_wp2
      go_roundw
      case rel => exact ⟨k + 1, by omega, by go_num, HN.out, (HB.out.setCell (by exact Nat.le_refl _) _).setCell (by exact Nat.le_refl _) _⟩
      case measure => simp [intOf]; omega
    · have hkn : k = n := by omega
      subst hkn
      go_wp2
      go_ret
      exact ⟨rfl, HO.out, HB.out⟩

end Go.Proofs.Qxb6615186a
