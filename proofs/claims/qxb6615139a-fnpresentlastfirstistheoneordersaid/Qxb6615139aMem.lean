/- Memory of the call's own, cell by cell; the shapes of this law's data. -/
import Derived.Test.Qxb6615139aRows
import Derived.WalkKit
import Derived.WalkSpells
import Derived.ProofKit
import Derived.Deep.OwnRows
import Derived.Deep.MidRow
import Derived.WalkSmall
namespace Go.Proofs.Qxb6615139a
open Go.RowKit

/-- Block g of w: its first N cells are V, and may be written. -/
structure Row (w : World) (g N : Nat) (V : Nat → Value) : Prop where
  lt : g < w.heap.size
  val : ∀ m < N, w.cell? ⟨g, m, none⟩ = some (V m)
  open_ : ∀ m, w.frozen? ⟨g, m, none⟩ = false

theorem ne_off {g m m' : Nat} (h : m ≠ m') : (⟨g, m, none⟩ : Addr) ≠ ⟨g, m', none⟩ := by intro e; injection e with _ e; exact h e

theorem Row.below {w w' : World} {g N B : Nat} {V : Nat → Value} (h : Row w g N V) (hb : Below B w w') (hg : g < B) : Row w' g N V :=
  ⟨Nat.lt_of_lt_of_le h.lt hb.size, fun m hm => (hb.cell (by exact hg)).trans (h.val m hm), fun m => (hb.frozen (by exact hg)).trans (h.open_ m)⟩
theorem Row.ext {w : World} {g N : Nat} {V V' : Nat → Value} (h : Row w g N V) (e : ∀ m < N, V m = V' m) : Row w g N V' :=
  ⟨h.lt, fun m hm => by rw [← e m hm]; exact h.val m hm, h.open_⟩
theorem Row.put {w : World} {g N m : Nat} {V : Nat → Value} (h : Row w g N V) (hm : m < N) (v : Value) : Row (w.setCell ⟨g, m, none⟩ v) g N (fun i => if i = m then v else V i) := by
  refine ⟨by simpa [World.setCell] using h.lt, fun i hi => ?_, fun i => by rw [World.frozen?_setCell]; exact h.open_ i⟩
  by_cases e : i = m
  · subst e
    rw [if_pos rfl]
    exact World.cell?_setCell_same _ _ _ (h.val i hi)
  · rw [if_neg e, World.cell?_setCell_other _ _ _ _ (ne_off (fun h => e h.symm))]
    exact h.val i hi
theorem Row.far {w : World} {g N : Nat} {V : Nat → Value} (h : Row w g N V) {a : Addr} (ha : a.block ≠ g) (v : Value) : Row (w.setCell a v) g N V :=
  ⟨by simpa [World.setCell] using h.lt, fun i hi => by rw [World.cell?_setCell_other _ _ _ _ (by intro e; rw [e] at ha; exact ha rfl)]; exact h.val i hi, fun i => by rw [World.frozen?_setCell]; exact h.open_ i⟩
theorem Row.fars {g N : Nat} {V : Nat → Value} {b : Nat} (hb : b ≠ g) : ∀ (vs : List Value) (o : Nat) {w : World}, Row w g N V → Row (w.setCells b o vs) g N V
  | [], _, _, h => h
  | v :: vs, o, _, h => Row.fars hb vs (o + 1) (h.far (a := ⟨b, o, none⟩) hb v)
theorem Row.puts {g N : Nat} : ∀ (vs : List Value) (o : Nat) {w : World} {V : Nat → Value}, Row w g N V → o + vs.length ≤ N →
    Row (w.setCells g o vs) g N (fun i => if o ≤ i ∧ i < o + vs.length then vs.getD (i - o) (.bool false) else V i)
  | [], o, _, _, h, _ => h.ext (fun m _ => by rw [if_neg (by simp)])
  | v :: vs, o, _, V, h, ho => by
    simp only [List.length_cons] at ho
    refine (Row.puts vs (o + 1) (h.put (m := o) (by omega) v) (by omega)).ext (fun m _ => ?_)
    by_cases e : m = o
    · subst e
      rw [if_neg (by omega), if_pos rfl, if_pos (by simp), Nat.sub_self]; rfl
    · by_cases c : o + 1 ≤ m ∧ m < o + 1 + vs.length
      · rw [if_pos c, if_pos (by simp; omega), show m - o = (m - (o + 1)) + 1 by omega]; rfl
      · rw [if_neg c, if_neg e, if_neg (by simp; omega)]
theorem Row.there {w : World} {g N : Nat} {V : Nat → Value} (h : Row w g N V) {o n : Nat} (ho : o + n ≤ N) : w.there g o n := fun j hj =>
  ⟨by rw [h.val _ (by omega)]; rfl, h.open_ _⟩
theorem Row.range {w : World} {g N : Nat} {V : Nat → Value} (h : Row w g N V) {o : Nat} {cs : List Value} (ho : o + cs.length ≤ N) (e : ∀ j (hj : j < cs.length), V (o + j) = cs[j]) : w.rangeAt g o cs := fun j v hv => by
  obtain ⟨hj, rfl⟩ := List.getElem?_eq_some_iff.1 hv
  rw [h.val _ (by omega), e j hj]
theorem Row.made (w : World) (z : Array Value) (N : Nat) (t : TypeId) : Row (w.alloc (.cells (madeCells z N) t)) w.heap.size N (fun m => z[m % z.size]!) :=
  ⟨by simp, fun m hm => by rw [World.cell?_alloc_new]; simp [madeCells, hm], fun m => by rw [frozen?_alloc_cells]; simp [World.frozen?]⟩
theorem Row.alloc {w : World} {g N : Nat} {V : Nat → Value} (h : Row w g N V) (o : Obj) : Row (w.alloc o) g N V :=
  h.below ((Below.refl w.heap.size w).alloc (Nat.le_refl _) o) h.lt

theorem below_setCells {B : Nat} {a : World} {b : Nat} (hB : B ≤ b) : ∀ (vs : List Value) (o : Nat) {w : World}, Below B a w → Below B a (w.setCells b o vs)
  | [], _, _, h => h
  | v :: vs, o, _, h => below_setCells hB vs (o + 1) (h.setCell (p := ⟨b, o, none⟩) hB v)

/-- A make of whatever element. -/
theorem make_any (t e : TypeId) (z : Array Value) (k bytes n : Nat) (ht : Try.prog.underlying t = some (.slice e)) (hi : (Try.prog.info? e).map (fun i => (i.zero.map (·.cells), i.size, i.bytes)) = some (some z, k, bytes))
    (hb : bytes * n ≤ 281474976710656) (hn : n ≤ 9223372036854775807) (w : World) :
    (Instr.makeSlice t (.int .i64 n) (.int .i64 n)).run Try.prog w = .ok (.slice (some ⟨w.heap.size, 0, none⟩) n n) (w.alloc (.cells (madeCells z (n * k)) e)) := by
  obtain ⟨i, h1, h2⟩ := Option.map_eq_some_iff.1 hi
  simp only [Prod.mk.injEq] at h2
  obtain ⟨hz, hs, hbb⟩ := h2
  obtain ⟨zv, hzv, hzc⟩ := Option.map_eq_some_iff.1 hz
  have := run_make (P := Try.prog) w t e i zv ht h1 hzv .i64 .i64 n n (by omega) (Int.le_refl _) (by rw [hbb]; omega) (by omega)
  rw [hs, hzc] at this
  simpa using this

/-! ### The data -/
/-- A slice of references: three strings each. -/
def RefsAt (w : World) (ao : Option Addr) (n : Nat) (r : Nat → Nat → ByteArray) : Prop :=
  n = 0 ∨ ∃ b off, ao = some ⟨b, off, none⟩ ∧ b < w.heap.size ∧ ∀ i < n, w.cell? ⟨b, off + i * 3, none⟩ = some (.string (r i 0)) ∧ w.cell? ⟨b, off + i * 3 + 1, none⟩ = some (.string (r i 1)) ∧ w.cell? ⟨b, off + i * 3 + 2, none⟩ = some (.string (r i 2))

/-- A scene: its place's id and name, its slice of those present, and what that holds. -/
structure Scn where
  id : ByteArray
  name : ByteArray
  pa : Option Addr
  pl : Nat
  pc : Nat
  ref : Nat → Nat → ByteArray

def ScenesAt (w : World) (ao : Option Addr) (n : Nat) (S : Nat → Scn) : Prop :=
  (n = 0 ∨ ∃ b off, ao = some ⟨b, off, none⟩ ∧ b < w.heap.size ∧ ∀ j < n, w.cell? ⟨b, off + j * 3, none⟩ = some (.string (S j).id) ∧ w.cell? ⟨b, off + j * 3 + 1, none⟩ = some (.string (S j).name) ∧
      w.cell? ⟨b, off + j * 3 + 2, none⟩ = some (.slice (S j).pa (S j).pl (S j).pc)) ∧ ∀ j < n, RefsAt w (S j).pa (S j).pl (S j).ref

theorem RefsAt.below {w w' : World} {ao : Option Addr} {n : Nat} {r : Nat → Nat → ByteArray} (h : RefsAt w ao n r) (hb : Below w.heap.size w w') : RefsAt w' ao n r := by
  rcases h with h | ⟨b, off, ha, hbw, hc⟩
  · exact Or.inl h
  · refine Or.inr ⟨b, off, ha, Nat.lt_of_lt_of_le hbw hb.size, fun i hi => ?_⟩
    obtain ⟨h0, h1, h2⟩ := hc i hi
    exact ⟨(hb.cell (by exact hbw)).trans h0, (hb.cell (by exact hbw)).trans h1, (hb.cell (by exact hbw)).trans h2⟩
theorem ScenesAt.below {w w' : World} {ao : Option Addr} {n : Nat} {S : Nat → Scn} (h : ScenesAt w ao n S) (hb : Below w.heap.size w w') : ScenesAt w' ao n S := by
  refine ⟨?_, fun j hj => (h.2 j hj).below hb⟩
  rcases h.1 with h | ⟨b, off, ha, hbw, hc⟩
  · exact Or.inl h
  · refine Or.inr ⟨b, off, ha, Nat.lt_of_lt_of_le hbw hb.size, fun i hi => ?_⟩
    obtain ⟨h0, h1, h2⟩ := hc i hi
    exact ⟨(hb.cell (by exact hbw)).trans h0, (hb.cell (by exact hbw)).trans h1, (hb.cell (by exact hbw)).trans h2⟩

/-- A slice of one-cell elements. -/
def CellsAt (w : World) (ao : Option Addr) (n : Nat) (V : Nat → Value) : Prop :=
  n = 0 ∨ ∃ b off, ao = some ⟨b, off, none⟩ ∧ b < w.heap.size ∧ ∀ j < n, w.cell? ⟨b, off + j, none⟩ = some (V j)
theorem CellsAt.below {w w' : World} {ao : Option Addr} {n : Nat} {V : Nat → Value} (h : CellsAt w ao n V) (hb : Below w.heap.size w w') : CellsAt w' ao n V := by
  rcases h with h | ⟨b, off, ha, hbw, hc⟩
  · exact Or.inl h
  · exact Or.inr ⟨b, off, ha, Nat.lt_of_lt_of_le hbw hb.size, fun i hi => (hb.cell (by exact hbw)).trans (hc i hi)⟩
/-- A slice of pairs of ints. -/
def PairsAt (w : World) (ao : Option Addr) (n : Nat) (x y : Nat → Int) : Prop :=
  n = 0 ∨ ∃ b off, ao = some ⟨b, off, none⟩ ∧ b < w.heap.size ∧ ∀ j < n, w.cell? ⟨b, off + j * 2, none⟩ = some (.int .i64 (x j)) ∧ w.cell? ⟨b, off + j * 2 + 1, none⟩ = some (.int .i64 (y j))
theorem PairsAt.below {w w' : World} {ao : Option Addr} {n : Nat} {x y : Nat → Int} (h : PairsAt w ao n x y) (hb : Below w.heap.size w w') : PairsAt w' ao n x y := by
  rcases h with h | ⟨b, off, ha, hbw, hc⟩
  · exact Or.inl h
  · exact Or.inr ⟨b, off, ha, Nat.lt_of_lt_of_le hbw hb.size, fun i hi => ⟨(hb.cell (by exact hbw)).trans (hc i hi).1, (hb.cell (by exact hbw)).trans (hc i hi).2⟩⟩

end Go.Proofs.Qxb6615139a
