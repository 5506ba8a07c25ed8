/- The row of places that sort.SliceStable turns: what stays as it was, and a swap. -/
import Derived.Test.Qxb6615139aGrid
import Derived.Lib.ReflectliteSwap
import Derived.Shelf.Abstract
namespace Go.Proofs.Qxb6615139a
open Go.RowKit Go.Lib

/-- All but block g is as it was. -/
def Kp (g : Nat) (w w' : World) : Prop := w.grownBy w' (some g)
theorem Kp.refl (g : Nat) (w : World) : Kp g w w := ⟨rfl, rfl, rfl, Nat.le_refl _, fun _ _ _ => rfl⟩
theorem Kp.trans {g : Nat} {a b c : World} (h : Kp g a b) (k : Kp g b c) : Kp g a c :=
  ⟨k.os.trans h.os, k.tape.trans h.tape, k.output.trans h.output, Nat.le_trans h.size k.size, fun i hi hn => (k.block i (Nat.lt_of_lt_of_le hi h.size) hn).trans (h.block i hi hn)⟩
theorem Kp.alloc {g : Nat} {a w : World} (h : Kp g a w) (o : Obj) : Kp g a (w.alloc o) :=
  h.trans ⟨rfl, rfl, rfl, by simp, fun k hk _ => by rw [heap_alloc_old _ _ hk]⟩
theorem Kp.drew {g : Nat} {a w : World} (h : Kp g a w) : Kp g a w.drew := ⟨h.os, h.tape, h.output, h.size, h.block⟩
theorem Kp.drewN {g : Nat} {a w : World} (h : Kp g a w) (n : Nat) : Kp g a (w.drewN n) := h.trans ⟨rfl, rfl, rfl, Nat.le_refl _, fun _ _ _ => rfl⟩
theorem Kp.put {g : Nat} {a w : World} (h : Kp g a w) (o : Nat) (v : Value) : Kp g a (w.setCell ⟨g, o, none⟩ v) :=
  h.trans ⟨rfl, rfl, rfl, by simp [World.setCell], fun k _ hn => by simp [World.setCell, Array.getElem?_modify, show ¬ g = k from fun e => hn (by rw [e])]⟩
theorem Kp.puts {g : Nat} {a : World} : ∀ (vs : List Value) (o : Nat) {w : World}, Kp g a w → Kp g a (w.setCells g o vs)
  | [], _, _, h => h
  | v :: vs, o, _, h => Kp.puts vs (o + 1) (h.put o v)
theorem Kp.of_below {g : Nat} {w w' : World} (h : Below w.heap.size w w') : Kp g w w' := ⟨h.os, h.tape, h.output, h.size, fun k hk _ => h.block k hk⟩
theorem Kp.cell {g : Nat} {w w' : World} (h : Kp g w w') {p : Addr} (hp : p.block < w.heap.size) (hn : p.block ≠ g) : w'.cell? p = w.cell? p :=
  World.cell?_of_block (w := w) (h.block p.block hp (fun e => hn (Option.some.inj e)))
theorem Kp.frozen {g : Nat} {w w' : World} (h : Kp g w w') {p : Addr} (hp : p.block < w.heap.size) (hn : p.block ≠ g) : w'.frozen? p = w.frozen? p :=
  World.frozen?_of_block (w := w) (h.block p.block hp (fun e => hn (Option.some.inj e)))
theorem Kp.below {g B : Nat} {w w' : World} (h : Kp g w w') (hB : B ≤ g) (hw : B ≤ w.heap.size) : Below B w w' :=
  ⟨h.os, h.tape, h.output, h.size, fun k hk => h.block k (by omega) (fun e => by injection e; omega)⟩
theorem Row.kp {w w' : World} {g b N : Nat} {V : Nat → Value} (h : Row w b N V) (hk : Kp g w w') (hn : b ≠ g) : Row w' b N V :=
  ⟨Nat.lt_of_lt_of_le h.lt hk.size, fun m hm => (hk.cell (by exact h.lt) (by exact hn)).trans (h.val m hm), fun m => (hk.frozen (by exact h.lt) (by exact hn)).trans (h.open_ m)⟩

/-- Block g holds the pairs x, y. -/
def Prs (w : World) (g n : Nat) (x y : Nat → Int) : Prop := ∃ V, Row w g (n * 2) V ∧ ∀ j < n, V (j * 2) = .int .i64 (x j) ∧ V (j * 2 + 1) = .int .i64 (y j)
theorem Prs.lt {w : World} {g n : Nat} {x y : Nat → Int} (h : Prs w g n x y) : g < w.heap.size := by
  obtain ⟨V, hr, _⟩ := h
  exact hr.lt
theorem Prs.below {w w' : World} {g n : Nat} {x y : Nat → Int} (h : Prs w g n x y) (hb : Below w.heap.size w w') : Prs w' g n x y := by
  obtain ⟨V, hr, hv⟩ := h
  exact ⟨V, hr.below hb hr.lt, hv⟩
theorem Prs.cells {w : World} {g n : Nat} {x y : Nat → Int} (h : Prs w g n x y) {j : Nat} (hj : j < n) : w.cell? ⟨g, j * 2, none⟩ = some (.int .i64 (x j)) ∧ w.cell? ⟨g, j * 2 + 1, none⟩ = some (.int .i64 (y j)) := by
  obtain ⟨V, hr, hv⟩ := h
  rw [hr.val _ (by omega), hr.val _ (by omega), (hv j hj).1, (hv j hj).2]
  exact ⟨rfl, rfl⟩
theorem Prs.put {w : World} {g n i : Nat} {x y : Nat → Int} (h : Prs w g n x y) (hi : i < n) (a b : Int) :
    Prs (w.setCells g (i * 2) [.int .i64 a, .int .i64 b]) g n (fun p => if p = i then a else x p) (fun p => if p = i then b else y p) := by
  obtain ⟨V, hr, hv⟩ := h
  refine ⟨_, hr.puts [.int .i64 a, .int .i64 b] (i * 2) (by simp; omega), fun j hj => ?_⟩
  by_cases e : j = i
  · subst e
    simp
  · simp only [List.length_cons, List.length_nil, e, if_false]
    rw [if_neg (by omega), if_neg (by omega)]
    exact hv j hj
theorem Prs.ext {w : World} {g n : Nat} {x y x' y' : Nat → Int} (h : Prs w g n x y) (e : ∀ j < n, x j = x' j ∧ y j = y' j) : Prs w g n x' y' := by
  obtain ⟨V, hr, hv⟩ := h
  exact ⟨V, hr, fun j hj => by rw [← (e j hj).1, ← (e j hj).2]; exact hv j hj⟩

/-- What a sort is about: its row, its elements, 'less' and what it is bound to. -/
structure Sx where
  w0 : World
  g : Nat
  n : Nat
  cap : Nat
  X : Nat → Int
  Y : Nat → Int
  lt : Nat → Nat → Bool
  l1 : Value
  l2 : Value
noncomputable def Sx.sb (K : Sx) : Array Value := #[.slice (some ⟨K.g, 0, none⟩) K.n K.cap, typeHandle Try.prog 85]
noncomputable def Sx.data (K : Sx) : Array Value := #[.func (.func 30) #[] #[K.l1, K.l2], .func (.func 43) #[] K.sb]
/-- The row holds the elements in the order s. -/
structure At (K : Sx) (s : Nat → Nat) (w : World) : Prop where
  kp : Kp K.g K.w0 w
  row : Prs w K.g K.n (fun p => K.X (s p)) (fun p => K.Y (s p))
  rng : ∀ p < K.n, s p < K.n
/-- 'less' answers. -/
def LessOk (K : Sx) : Prop := ∀ s w, At K s w → ∀ i j : Nat, i < K.n → j < K.n →
  Calls Try.prog 30 #[.int .i64 i, .int .i64 j, K.l1, K.l2] w fun e w' => e = .returned (.bool (K.lt (s i) (s j))) ∧ Kp K.g w w' ∧ At K s w'
theorem At.alloc {K : Sx} {s : Nat → Nat} {w : World} (h : At K s w) (o : Obj) : At K s (w.alloc o) :=
  ⟨h.kp.alloc o, h.row.below ((Below.refl _ _).alloc (Nat.le_refl _) o), h.rng⟩
theorem At.ext {K : Sx} {s s' : Nat → Nat} {w : World} (h : At K s w) (e : ∀ p < K.n, s p = s' p) : At K s' w :=
  ⟨h.kp, h.row.ext (fun j hj => by rw [e j hj]; exact ⟨rfl, rfl⟩), fun p hp => by rw [← e p hp]; exact h.rng p hp⟩

def swp (s : Nat → Nat) (i j : Nat) : Nat → Nat := fun p => if p = i then s j else if p = j then s i else s p
/-- The world behind a swap. -/
def swW (K : Sx) (s : Nat → Nat) (i j : Nat) (w : World) : World :=
  (w.setCells K.g (i * 2) [.int .i64 (K.X (s j)), .int .i64 (K.Y (s j))]).setCells K.g (j * 2) [.int .i64 (K.X (s i)), .int .i64 (K.Y (s i))]
theorem swW_kp (K : Sx) (s : Nat → Nat) (i j : Nat) (w : World) : Kp K.g w (swW K s i j w) := Kp.puts _ _ (Kp.puts _ _ (Kp.refl _ _))
theorem At.swap {K : Sx} {s : Nat → Nat} {w : World} (h : At K s w) {i j : Nat} (hi : i < K.n) (hj : j < K.n) : At K (swp s i j) (swW K s i j w) := by
  refine ⟨h.kp.trans (swW_kp K s i j w), ?_, fun p hp => ?_⟩
  · refine ((h.row.put hi (K.X (s j)) (K.Y (s j))).put hj (K.X (s i)) (K.Y (s i))).ext (fun p hp => ?_)
    simp only [swp]
    by_cases e1 : p = j
    · subst e1
      by_cases e2 : p = i
      · subst e2; simp
      · simp [e2]
    · by_cases e2 : p = i
      · subst e2; simp [e1]
      · simp [e1, e2]
  · simp only [swp]
    split
    · exact h.rng j hj
    · split
      · exact h.rng i hi
      · exact h.rng p hp

theorem info85 : ∃ ie, Try.prog.info? 85 = some ie ∧ ie.size = 2 ∧ ie.bytes = 16 ∧ ie.hasPointers = false := by
  have h : (Try.prog.info? 85).map (fun i => (i.size, i.bytes, i.hasPointers)) = some (2, 16, false) := by kernel_rfl
  obtain ⟨i, h1, h2⟩ := Option.map_eq_some_iff.1 h
  simp only [Prod.mk.injEq] at h2
  exact ⟨i, h1, h2.1, h2.2.1, h2.2.2⟩
theorem agg85 (w : World) : (isAgg 85).run Try.prog w = .ok true w := by kernel_rfl
/-- The swapper called. -/
theorem At.run_swap {K : Sx} {s : Nat → Nat} {w : World} (h : At K s w) {i j : Nat} (hi : i < K.n) (hj : j < K.n) :
    (callFunc 43 #[.int .i64 i, .int .i64 j, .slice (some ⟨K.g, 0, none⟩) K.n K.cap, typeHandle Try.prog 85]).run Try.prog w = .ok (.value (.tuple #[])) (swW K s i j w) := by
  obtain ⟨ie, hie, hs, _, _⟩ := info85
  obtain ⟨V, hr, hv⟩ := h.row
  have cell : ∀ p, p < K.n → ∀ k v, [Value.int .i64 (K.X (s p)), .int .i64 (K.Y (s p))][k]? = some v → w.cell? ⟨K.g, 0 + p * ie.size + k, none⟩ = some v := fun p hp k v hk => by
    have := h.row.cells hp
    rw [hs, Nat.zero_add]
    match k, hk with
    | 0, hk => simp at hk; rw [← hk]; exact this.1
    | 1, hk => simp at hk; rw [← hk]; exact this.2
  have := run_swap_cells (P := Try.prog) false 85 ie hie agg85 K.g 0 K.n K.cap i j hi hj [.int .i64 (K.X (s i)), .int .i64 (K.Y (s i))] [.int .i64 (K.X (s j)), .int .i64 (K.Y (s j))] (by rw [hs]; rfl) (by rw [hs]; rfl)
    (by simp [Value.oneCell']) (by simp [Value.oneCell']) w (cell i hi) (cell j hj) (fun k _ => hr.open_ _) (fun k _ => hr.open_ _)
  rw [hs] at this
  rw [run_callFunc_extern Try.func43 (by kernel_rfl) (by kernel_rfl) (by kernel_rfl) (e := Extern.ReflectliteSwapper.swap false) (by kernel_rfl), this]
  simp only [Result.andThen, Nat.zero_add]
  rfl
end Go.Proofs.Qxb6615139a
