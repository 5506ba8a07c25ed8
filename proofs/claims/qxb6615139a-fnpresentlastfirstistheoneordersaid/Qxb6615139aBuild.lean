import Derived.Test.Qxb6615139aLeft
import Derived.Test.Qxb6615139aGrid
import Derived.Deep.RegionHeld3
namespace Go.Proofs.Qxb6615139a
open Go.RowKit

def entL (id : Int) : List Value := [.int .i64 id, .string { data := #[] }, .string { data := #[] }, .string { data := #[] }, .string { data := #[] }, .string { data := #[] }, .string { data := #[] }, .int .u64 0, .int .i64 0, .pointer none, .int .i64 0]
def factL (t : ByteArray) : List Value := [.string t, .string { data := #[] }, .string { data := #[] }, .string { data := #[] }, .map none, .string { data := #[] }, .int .u64 0, .int .i64 0, .pointer none, .float .f64 0, .string { data := #[] }, .bool false]
theorem make34 (n : Nat) (hn : n ≤ 1048576) (w : World) : (Instr.makeSlice 34 (.int .i64 n) (.int .i64 n)).run Try.prog w = .ok (.slice (some ⟨w.heap.size, 0, none⟩) n n) (w.alloc (.cells (madeCells (entL 0).toArray (n * 11)) 52)) :=
  make_any 34 52 (entL 0).toArray 11 136 n Try.underlying34 (by kernel_rfl) (by omega) (by omega) w
theorem make33 (n : Nat) (hn : n ≤ 1048576) (w : World) : (Instr.makeSlice 33 (.int .i64 n) (.int .i64 n)).run Try.prog w = .ok (.slice (some ⟨w.heap.size, 0, none⟩) n n) (w.alloc (.cells (madeCells (factL { data := #[] }).toArray (n * 12)) 60)) :=
  make_any 33 60 (factL { data := #[] }).toArray 12 144 n Try.underlying33 (by kernel_rfl) (by omega) (by omega) w
theorem make35 (n : Nat) (hn : n ≤ 1048576) (w : World) : (Instr.makeSlice 35 (.int .i64 n) (.int .i64 n)).run Try.prog w = .ok (.slice (some ⟨w.heap.size, 0, none⟩) n n) (w.alloc (.cells (madeCells #[.string { data := #[] }, .string { data := #[] }, .slice none 0 0] (n * 3)) 65)) :=
  make_any 35 65 _ 3 56 n Try.underlying35 (by kernel_rfl) (by omega) (by omega) w
theorem make63 (n : Nat) (hn : n ≤ 1048576) (w : World) : (Instr.makeSlice 63 (.int .i64 n) (.int .i64 n)).run Try.prog w = .ok (.slice (some ⟨w.heap.size, 0, none⟩) n n) (w.alloc (.cells (madeCells #[.string { data := #[] }, .string { data := #[] }, .string { data := #[] }] (n * 3)) 54)) :=
  make_any 63 54 _ 3 48 n Try.underlying63 (by kernel_rfl) (by omega) (by omega) w


theorem entL_mod (x : Int) (j : Nat) (hj : j < 11) : (entL x)[j]'(by simp [entL]; exact hj) = if j = 0 then .int .i64 x else ((entL 0).getD j (.bool false)) := by
  rcases j with _ | _ | _ | _ | _ | _ | _ | _ | _ | _ | _ | j <;> first | rfl | omega
theorem cell_far {w : World} {a : Addr} {v : Value} (h : w.cell? a = some v) {b : Nat} (hne : a.block ≠ b) (o : Nat) (vs : List Value) : (w.setCells b o vs).cell? a = some v := by
  rw [World.cell?_setCells_out b vs o w a (fun hb _ => absurd hb hne)]; exact h
theorem keepS {w : World} {a1 a2 : Addr} {v1 v2 : Value} {g o n b oo : Nat} {vs : List Value} (h : w.cell? a1 = some v1 ∧ w.cell? a2 = some v2 ∧ w.there g o n) (h1 : a1.block ≠ b) (h2 : a2.block ≠ b) :
    (w.setCells b oo vs).cell? a1 = some v1 ∧ (w.setCells b oo vs).cell? a2 = some v2 ∧ (w.setCells b oo vs).there g o n :=
  ⟨cell_far h.1 h1 _ _, cell_far h.2.1 h2 _ _, World.there_setCells h.2.2 _ _ _⟩

/-- The first k elements (of m cells) of block g are L j; all n are there. -/
def ElemsTo (w : World) (g n m k : Nat) (L : Nat → List Value) : Prop := ∃ V, Row w g (n * m) V ∧ ∀ j < k, ∀ i, i < m → V (j * m + i) = (L j).getD i (.bool false)
theorem ElemsTo.put {w : World} {g n m k : Nat} {L : Nat → List Value} (h : ElemsTo w g n m k L) (hk : k < n) (hL : (L k).length = m) : ElemsTo (w.setCells g (k * m) (L k)) g n m (k + 1) L := by
  obtain ⟨V, hr, hv⟩ := h
  have hm : k * m + m ≤ n * m := by rw [← Nat.succ_mul]; exact Nat.mul_le_mul_right _ hk
  refine ⟨_, hr.puts (L k) (k * m) (by rw [hL]; exact hm), fun j hj i hi => ?_⟩
  by_cases e : j = k
  · subst e
    rw [if_pos (by rw [hL]; omega), Nat.add_sub_cancel_left]
  · have : j * m + m ≤ k * m := by rw [← Nat.succ_mul]; exact Nat.mul_le_mul_right _ (by omega)
    rw [if_neg (by omega)]
    exact hv j (by omega) i hi
theorem ElemsTo.there {w : World} {g n m k : Nat} {L : Nat → List Value} (h : ElemsTo w g n m k L) (hk : k < n) : w.there g (k * m) m := by
  obtain ⟨V, hr, _⟩ := h
  exact hr.there (by rw [← Nat.succ_mul]; exact Nat.mul_le_mul_right _ hk)
theorem ElemsTo.below {w w' : World} {g n m k B : Nat} {L : Nat → List Value} (h : ElemsTo w g n m k L) (hb : Below B w w') (hg : g < B) : ElemsTo w' g n m k L := by
  obtain ⟨V, hr, hv⟩ := h
  exact ⟨V, hr.below hb hg, hv⟩
theorem ElemsTo.far {w : World} {g n m k : Nat} {L : Nat → List Value} (h : ElemsTo w g n m k L) {b : Nat} (hb : b ≠ g) (o : Nat) (vs : List Value) : ElemsTo (w.setCells b o vs) g n m k L := by
  obtain ⟨V, hr, hv⟩ := h
  exact ⟨V, hr.fars hb vs o, hv⟩
theorem ElemsTo.drew {w : World} {g n m k : Nat} {L : Nat → List Value} (h : ElemsTo w g n m k L) : ElemsTo w.drew g n m k L := by
  obtain ⟨V, hr, hv⟩ := h
  exact ⟨V, hr.drew, hv⟩
theorem ElemsTo.made (w : World) (z : Array Value) (n m : Nat) (t : TypeId) (L : Nat → List Value) : ElemsTo (w.alloc (.cells (madeCells z (n * m)) t)) w.heap.size n m 0 L :=
  ⟨_, Row.made w z _ t, fun j hj => by omega⟩
theorem Row.here (w : World) (cs : List Value) (t : TypeId) : Row (w.alloc (.cells cs.toArray t)) w.heap.size cs.length (fun m => cs.getD m (.bool false)) :=
  ⟨by simp, fun m hm => by rw [World.cell?_alloc_new]; simp [hm], fun m => by rw [frozen?_alloc_cells]; simp [World.frozen?]⟩
theorem ElemsTo.far1 {w : World} {g n m k : Nat} {L : Nat → List Value} (h : ElemsTo w g n m k L) {a : Addr} (hb : a.block ≠ g) (v : Value) : ElemsTo (w.setCell a v) g n m k L := by
  obtain ⟨V, hr, hv⟩ := h
  exact ⟨V, hr.far hb v, hv⟩

theorem ent_set (W : World) (g o : Nat) (x : Int) : W.setCells g o (entL x) = (((((((((((W.setCell ⟨g, o, none⟩ (.int .i64 x)).setCell ⟨g, o + 1, none⟩ (.string { data := #[] })).setCell ⟨g, o + 2, none⟩ (.string { data := #[] })).setCell ⟨g, o + 3, none⟩ (.string { data := #[] })).setCell ⟨g, o + 4, none⟩ (.string { data := #[] })).setCell ⟨g, o + 5, none⟩ (.string { data := #[] })).setCell ⟨g, o + 6, none⟩ (.string { data := #[] })).setCell ⟨g, o + 7, none⟩ (.int .u64 0)).setCell ⟨g, o + 8, none⟩ (.int .i64 0)).setCell ⟨g, o + 9, none⟩ (.pointer none)).setCell ⟨g, o + 10, none⟩ (.int .i64 0)) := by simp only [entL, World.setCells, Nat.add_assoc, Nat.reduceAdd]
theorem fact_set (W : World) (g o : Nat) (t : ByteArray) : W.setCells g o (factL t) = ((((((((((((W.setCell ⟨g, o, none⟩ (.string t)).setCell ⟨g, o + 1, none⟩ (.string { data := #[] })).setCell ⟨g, o + 2, none⟩ (.string { data := #[] })).setCell ⟨g, o + 3, none⟩ (.string { data := #[] })).setCell ⟨g, o + 4, none⟩ (.map none)).setCell ⟨g, o + 5, none⟩ (.string { data := #[] })).setCell ⟨g, o + 6, none⟩ (.int .u64 0)).setCell ⟨g, o + 7, none⟩ (.int .i64 0)).setCell ⟨g, o + 8, none⟩ (.pointer none)).setCell ⟨g, o + 9, none⟩ (.float .f64 0)).setCell ⟨g, o + 10, none⟩ (.string { data := #[] })).setCell ⟨g, o + 11, none⟩ (.bool false)) := by simp only [factL, World.setCells, Nat.add_assoc, Nat.reduceAdd]
theorem three_set (W : World) (g o : Nat) (x y z : Value) : W.setCells g o [x, y, z] = (((W.setCell ⟨g, o, none⟩ x).setCell ⟨g, o + 1, none⟩ y).setCell ⟨g, o + 2, none⟩ z) := by simp only [World.setCells, Nat.add_assoc, Nat.reduceAdd]

def cL (f r s : Value) : List Value := [.string ByteArray.empty, .string { data := #[] }, .string { data := #[] }, .map none, f, r, s, .pointer none, .bool false]

theorem cL_set (W : World) (g : Nat) (f r s : Value) : W.setCells g 0 (cL f r s) = (((((((((W.setCell ⟨g, 0, none⟩ (.string ByteArray.empty)).setCell ⟨g, 1, none⟩ (.string { data := #[] })).setCell ⟨g, 2, none⟩ (.string { data := #[] })).setCell ⟨g, 3, none⟩ (.map none)).setCell ⟨g, 4, none⟩ f).setCell ⟨g, 5, none⟩ r).setCell ⟨g, 6, none⟩ s).setCell ⟨g, 7, none⟩ (.pointer none)).setCell ⟨g, 8, none⟩ (.bool false)) := by simp only [cL, World.setCells, Nat.reduceAdd]
theorem cL_put4 {W : World} {c : Nat} {f r s : Value} (h : Row W c 9 (fun m => (cL f r s).getD m (.bool false))) (v : Value) : Row (W.setCell ⟨c, 4, none⟩ v) c 9 (fun m => (cL v r s).getD m (.bool false)) := by
  refine (h.put (m := 4) (by omega) v).ext (fun m hm => ?_)
  rcases m with _ | _ | _ | _ | _ | _ | _ | _ | _ | m <;> first | rfl | omega
theorem cL_put6 {W : World} {c : Nat} {f r s : Value} (h : Row W c 9 (fun m => (cL f r s).getD m (.bool false))) (v : Value) : Row (W.setCell ⟨c, 6, none⟩ v) c 9 (fun m => (cL f r v).getD m (.bool false)) := by
  refine (h.put (m := 6) (by omega) v).ext (fun m hm => ?_)
  rcases m with _ | _ | _ | _ | _ | _ | _ | _ | _ | m <;> first | rfl | omega
theorem ElemsTo.alloc {w : World} {g n m k : Nat} {L : Nat → List Value} (h : ElemsTo w g n m k L) (o : Obj) : ElemsTo (w.alloc o) g n m k L := by
  obtain ⟨V, hr, hv⟩ := h
  exact ⟨V, hr.alloc o, hv⟩

def refL (r : Nat → Nat → ByteArray) (i : Nat) : List Value := [.string (r i 0), .string (r i 1), .string (r i 2)]
/-- The first k scenes of block g are those of S, their present rows in the blocks PB. -/
def ScTo (w : World) (g ns k : Nat) (S : Nat → Scn) (PB : Nat → Nat) : Prop :=
  (∃ V, Row w g (ns * 3) V ∧ ∀ j < k, V (j * 3) = .string (S j).id ∧ V (j * 3 + 1) = .string (S j).name ∧ V (j * 3 + 2) = .slice (some ⟨PB j, 0, none⟩) (S j).pl (S j).pl) ∧
  ∀ j < k, g < PB j ∧ PB j < w.heap.size ∧ ElemsTo w (PB j) (S j).pl 3 (S j).pl (refL (S j).ref)
theorem ElemsTo.lt {w : World} {g n m k : Nat} {L : Nat → List Value} (h : ElemsTo w g n m k L) : g < w.heap.size := by
  obtain ⟨V, hr, _⟩ := h
  exact hr.lt
theorem ScTo.below {w w' : World} {g ns k : Nat} {S : Nat → Scn} {PB : Nat → Nat} (h : ScTo w g ns k S PB) (hb : Below w.heap.size w w') : ScTo w' g ns k S PB := by
  obtain ⟨⟨V, hr, hv⟩, h2⟩ := h
  exact ⟨⟨V, hr.below hb hr.lt, hv⟩, fun j hj => ⟨(h2 j hj).1, Nat.lt_of_lt_of_le (h2 j hj).2.1 hb.size, (h2 j hj).2.2.below hb (h2 j hj).2.1⟩⟩
theorem size_sets (g : Nat) : ∀ (vs : List Value) (o : Nat) (W : World), (W.setCells g o vs).heap.size = W.heap.size
  | [], _, _ => rfl
  | v :: vs, o, W => by show ((W.setCell ⟨g, o, none⟩ v).setCells g (o + 1) vs).heap.size = _; rw [size_sets g vs, World.size_setCell]
theorem ScTo.far {w : World} {g ns k : Nat} {S : Nat → Scn} {PB : Nat → Nat} (h : ScTo w g ns k S PB) {b : Nat} (hb : b < g) (o : Nat) (vs : List Value) : ScTo (w.setCells b o vs) g ns k S PB := by
  obtain ⟨⟨V, hr, hv⟩, h2⟩ := h
  exact ⟨⟨V, hr.fars (by omega) _ _, hv⟩, fun j hj => ⟨(h2 j hj).1, by rw [size_sets]; exact (h2 j hj).2.1, (h2 j hj).2.2.far (by have := (h2 j hj).1; omega) _ _⟩⟩
theorem ScTo.drew {w : World} {g ns k : Nat} {S : Nat → Scn} {PB : Nat → Nat} (h : ScTo w g ns k S PB) : ScTo w.drew g ns k S PB := by
  obtain ⟨⟨V, hr, hv⟩, h2⟩ := h
  exact ⟨⟨V, hr.drew, hv⟩, fun j hj => ⟨(h2 j hj).1, (h2 j hj).2.1, (h2 j hj).2.2.drew⟩⟩
theorem ScTo.made (w : World) (z : Array Value) (ns : Nat) (t : TypeId) (S : Nat → Scn) (PB : Nat → Nat) : ScTo (w.alloc (.cells (madeCells z (ns * 3)) t)) w.heap.size ns 0 S PB :=
  ⟨⟨_, Row.made w z _ t, fun j hj => by omega⟩, fun j hj => by omega⟩
theorem ScTo.put {w : World} {g ns k p : Nat} {S : Nat → Scn} {PB : Nat → Nat} (h : ScTo w g ns k S PB) (hk : k < ns) (hp : g < p) (he : ElemsTo w p (S k).pl 3 (S k).pl (refL (S k).ref)) :
    ScTo (w.setCells g (k * 3) [.string (S k).id, .string (S k).name, .slice (some ⟨p, 0, none⟩) (S k).pl (S k).pl]) g ns (k + 1) S (fun j => if j = k then p else PB j) := by
  obtain ⟨⟨V, hr, hv⟩, h2⟩ := h
  have hsz : ∀ (W : World) vs o, (W.setCells g o vs).heap.size = W.heap.size := by
    intro W vs
    induction vs generalizing W with
    | nil => intro o; rfl
    | cons v vs ih => intro o; show ((W.setCell ⟨g, o, none⟩ v).setCells g (o + 1) vs).heap.size = _; rw [ih, World.size_setCell]
  refine ⟨⟨_, hr.puts _ (k * 3) (by simp; omega), fun j hj => ?_⟩, fun j hj => ?_⟩
  · by_cases e : j = k
    · subst e
      simp
    · have := hv j (by omega)
      simp only [List.length_cons, List.length_nil, e, if_false]
      rw [if_neg (by omega), if_neg (by omega), if_neg (by omega)]
      exact this
  · by_cases e : j = k
    · subst e
      simp only [if_true]
      exact ⟨hp, by rw [hsz]; exact he.lt, he.far (by omega) _ _⟩
    · simp only [e, if_false]
      have := h2 j (by omega)
      exact ⟨this.1, by rw [hsz]; exact this.2.1, this.2.2.far (by omega) _ _⟩
theorem ScTo.scenes {w : World} {g ns : Nat} {S : Nat → Scn} {PB : Nat → Nat} (h : ScTo w g ns ns S PB) :
    ScenesAt w (some ⟨g, 0, none⟩) ns (fun j => { id := (S j).id, name := (S j).name, pa := some ⟨PB j, 0, none⟩, pl := (S j).pl, pc := (S j).pl, ref := (S j).ref }) := by
  obtain ⟨⟨V, hr, hv⟩, h2⟩ := h
  refine ⟨Or.inr ⟨g, 0, rfl, hr.lt, fun j hj => ?_⟩, fun j hj => Or.inr ⟨PB j, 0, rfl, (h2 j hj).2.1, fun i hi => ?_⟩⟩
  · obtain ⟨a, b, c⟩ := hv j hj
    rw [Nat.zero_add, hr.val _ (by omega), hr.val _ (by omega), hr.val _ (by omega), a, b, c]
    exact ⟨rfl, rfl, rfl⟩
  · obtain ⟨V', hr', hv'⟩ := (h2 j hj).2.2
    have hi' : i < (S j).pl := hi
    have a := hv' i hi 0 (by omega)
    have b := hv' i hi 1 (by omega)
    have c := hv' i hi 2 (by omega)
    rw [Nat.zero_add, hr'.val _ (by omega), hr'.val _ (by omega), hr'.val _ (by omega), b, c]
    rw [Nat.add_zero] at a
    rw [a]
    exact ⟨rfl, rfl, rfl⟩

set_option maxRecDepth 100000 in
set_option maxHeartbeats 8000000 in
theorem buildW (ro fo so : Option Addr) (nr nf ns cr cf cs : Nat) (I : Nat → Int) (T : Nat → ByteArray) (S : Nat → Scn) (w : World)
    (hr : CellsAt w ro nr (fun j => .int .i64 (I j))) (hf : CellsAt w fo nf (fun j => .string (T j))) (hs : ScenesAt w so ns S)
    (l1 : nr ≤ 1048576) (l2 : nf ≤ 1048576) (l3 : ns ≤ 1048576) (lp : ∀ j < ns, (S j).pl ≤ 1048576) :
    Calls Try.prog 9 #[.string ByteArray.empty, .slice ro nr cr, .slice fo nf cf, .slice so ns cs] w fun e w' =>
      e = .returned (.agg (cL (.slice (some ⟨w.heap.size + 3, 0, none⟩) nf nf) (.slice (some ⟨w.heap.size + 1 + 1, 0, none⟩) nr nr) (.slice (some ⟨w.heap.size + 4, 0, none⟩) ns ns)).toArray) ∧
      ElemsTo w' (w.heap.size + 1 + 1) nr 11 nr (fun j => entL (I j)) ∧ ElemsTo w' (w.heap.size + 3) nf 12 nf (fun j => factL (T j)) ∧ (∃ PB, ScTo w' (w.heap.size + 4) ns ns S PB) ∧ Below w.heap.size w w' := by
  have HR : Hid (CellsAt w ro nr (fun j => .int .i64 (I j))) := hr
  have HF : Hid (CellsAt w fo nf (fun j => .string (T j))) := hf
  have HS : Hid (ScenesAt w so ns S) := hs
  have HL : Hid (∀ j < ns, (S j).pl ≤ 1048576) := lp
  clear hr hf hs lp
  have hmk := make34 nr l1
  go_enter Try.func9, Try.ntmps9
  go_wp2
  clear hmk
  go_loopw [10] (fun i wr => ∃ k : Nat, k ≤ nr ∧ i = .int .i64 k ∧ (∃ V, Row wr w.heap.size 9 V) ∧ Row wr (w.heap.size + 1) 9 (fun m => (cL (.slice none 0 0) (.slice (some ⟨w.heap.size + 1 + 1, 0, none⟩) nr nr) (.slice none 0 0)).getD m (.bool false)) ∧
     ElemsTo wr (w.heap.size + 1 + 1) nr 11 k (fun j => entL (I j)) ∧ Below w.heap.size w wr ∧ wr.heap.size = w.heap.size + 3) (fun i _ => nr - (intOf i).toNat)
  case atStart =>
    refine ⟨0, by omega, rfl, ?_, ?_, ?_, ?_, ?_⟩
    · exact ⟨_, ((Row.here w [_, _, _, _, _, _, _, _, _] 38).alloc _).alloc _⟩
    · have := (Row.here (w.alloc (.cells #[Value.string { data := #[] }, Value.string { data := #[] }, Value.string { data := #[] }, Value.map none,
              Value.slice none 0 0, Value.slice none 0 0, Value.slice none 0 0, Value.pointer none, Value.bool false] 38)) (cL (.slice none 0 0) (.slice (some ⟨w.heap.size + 1 + 1, 0, none⟩) nr nr) (.slice none 0 0)) 38).alloc (.cells (madeCells (entL 0).toArray (nr * 11)) 52)
      rw [World.size_alloc] at this
      exact this
    · have := ElemsTo.made ((w.alloc (.cells #[Value.string { data := #[] }, Value.string { data := #[] }, Value.string { data := #[] }, Value.map none,
              Value.slice none 0 0, Value.slice none 0 0, Value.slice none 0 0, Value.pointer none, Value.bool false] 38)).alloc (.cells (cL (.slice none 0 0) (.slice (some ⟨w.heap.size + 1 + 1, 0, none⟩) nr nr) (.slice none 0 0)).toArray 38)) (entL 0).toArray nr 11 52 (fun j => entL (I j))
      rw [World.size_alloc, World.size_alloc] at this
      exact this
    · exact (((Below.refl _ _).alloc (Nat.le_refl _) _).alloc (by simp) _).alloc (by simp; omega) _
    · simp
  case round =>
    obtain ⟨k, hk, rfl, h1, h2, h3, hb, hsz⟩ := hrel
    have H1 : Hid (∃ V, Row wr w.heap.size 9 V) := h1
    have H2 : Hid (Row wr (w.heap.size + 1) 9 (fun m => (cL (.slice none 0 0) (.slice (some ⟨w.heap.size + 1 + 1, 0, none⟩) nr nr) (.slice none 0 0)).getD m (.bool false))) := h2
    have H3 : Hid (ElemsTo wr (w.heap.size + 1 + 1) nr 11 k (fun j => entL (I j))) := h3
    have HB : Hid (Below w.heap.size w wr) := hb
    clear h1 h2 h3 hb
    by_cases hlt : k < nr
    · have hlti : (k : Int) < nr := by omega
      obtain ⟨b, off, ha, hbw, hc⟩ := cell_at HR.out (by omega)
      subst ha
      have p0 := (HB.out.cell (by exact hbw)).trans (hc k hlt)
      have c5 : wr.cell? ⟨w.heap.size + 1, 5, none⟩ = some (.slice (some ⟨w.heap.size + 1 + 1, 0, none⟩) nr nr) := H2.out.val 5 (by omega)
      have th := H3.out.there hlt
      obtain ⟨VV, rv, _⟩ := H3.out
      have v0 := rv.val (k * 11 + 0) (by omega)
      have z0 := rv.open_ (k * 11 + 0)
      have v1 := rv.val (k * 11 + 1) (by omega)
      have z1 := rv.open_ (k * 11 + 1)
      have v2 := rv.val (k * 11 + 2) (by omega)
      have z2 := rv.open_ (k * 11 + 2)
      have v3 := rv.val (k * 11 + 3) (by omega)
      have z3 := rv.open_ (k * 11 + 3)
      have v4 := rv.val (k * 11 + 4) (by omega)
      have z4 := rv.open_ (k * 11 + 4)
      have v5 := rv.val (k * 11 + 5) (by omega)
      have z5 := rv.open_ (k * 11 + 5)
      have v6 := rv.val (k * 11 + 6) (by omega)
      have z6 := rv.open_ (k * 11 + 6)
      have v7 := rv.val (k * 11 + 7) (by omega)
      have z7 := rv.open_ (k * 11 + 7)
      have v8 := rv.val (k * 11 + 8) (by omega)
      have z8 := rv.open_ (k * 11 + 8)
      have v9 := rv.val (k * 11 + 9) (by omega)
      have z9 := rv.open_ (k * 11 + 9)
      have v10 := rv.val (k * 11 + 10) (by omega)
      have z10 := rv.open_ (k * 11 + 10)
      simp only [Nat.add_zero] at v0 z0
      generalize VV (k * 11) = u0 at v0
      generalize VV (k * 11 + 1) = u1 at v1
      generalize VV (k * 11 + 2) = u2 at v2
      generalize VV (k * 11 + 3) = u3 at v3
      generalize VV (k * 11 + 4) = u4 at v4
      generalize VV (k * 11 + 5) = u5 at v5
      generalize VV (k * 11 + 6) = u6 at v6
      generalize VV (k * 11 + 7) = u7 at v7
      generalize VV (k * 11 + 8) = u8 at v8
      generalize VV (k * 11 + 9) = u9 at v9
      generalize VV (k * 11 + 10) = u10 at v10
      have n1 : ∃ V, Row (wr.setCells (w.heap.size + 1 + 1) (k * 11) (entL (I k))).drew w.heap.size 9 V := by
        obtain ⟨V, hV⟩ := H1.out
        exact ⟨V, (hV.fars (by omega) _ _).drew⟩
      have n2 := (H2.out.fars (b := w.heap.size + 1 + 1) (by omega) (entL (I k)) (k * 11)).drew
      have n3 := (H3.out.put hlt rfl).drew
      have n4 := (below_setCells (b := w.heap.size + 1 + 1) (by omega) (entL (I k)) (k * 11) HB.out).drew
      have n5 : (wr.setCells (w.heap.size + 1 + 1) (k * 11) (entL (I k))).drew.heap.size = w.heap.size + 3 := by rw [← hsz]; simp [ent_set, World.drew]
      rw [ent_set] at n2 n3 n4 n5
      simp only [ent_set] at n1
      have HN : Hid (_ ∧ _ ∧ _ ∧ _ ∧ _) := ⟨n1, n2, n3, n4, n5⟩
      clear n1 n2 n3 n4 n5
      clear rv th
      have hne : b ≠ w.heap.size + 1 + 1 := by omega
      have hne2 : w.heap.size + 1 ≠ w.heap.size + 1 + 1 := by omega
      clear hc
      go_wp2
      go_region
      all_goals
        go_wp2
        go_roundw
        case rel => exact ⟨k + 1, by omega, by go_num, HN.out⟩
        case measure => simp [intOf]; omega
    · have hkn : ¬ (k : Int) < nr := by omega
      have hn' : nr = k := by omega
      subst hn'
      obtain ⟨w1, hw1⟩ : ∃ w1, w1 = wr := ⟨_, rfl⟩
      subst hw1
      have hmk := make33 nf l2
      have c4 : w1.cell? ⟨w.heap.size + 1, 4, none⟩ = some (.slice none 0 0) := H2.out.val 4 (by omega)
      have y4 := H2.out.open_ 4
      have s4 : w.heap.size + 1 < w1.heap.size := by omega
      go_wp2
      clear hmk c4 y4
      go_loopw [11] (fun i wr => ∃ k : Nat, k ≤ nf ∧ i = .int .i64 k ∧ (∃ V, Row wr w.heap.size 9 V) ∧ Row wr (w.heap.size + 1) 9 (fun m => (cL (.slice (some ⟨w.heap.size + 3, 0, none⟩) nf nf) (.slice (some ⟨w.heap.size + 1 + 1, 0, none⟩) nr nr) (.slice none 0 0)).getD m (.bool false)) ∧
         ElemsTo wr (w.heap.size + 1 + 1) nr 11 nr (fun j => entL (I j)) ∧ ElemsTo wr (w.heap.size + 3) nf 12 k (fun j => factL (T j)) ∧ Below w.heap.size w wr ∧ wr.heap.size = w.heap.size + 4) (fun i _ => nf - (intOf i).toNat)
      case atStart =>
        refine ⟨0, by omega, rfl, ?_, ?_, ?_, ?_, ?_, ?_⟩
        · obtain ⟨V, hV⟩ := H1.out
          exact ⟨V, (hV.far (by show w.heap.size + 1 ≠ w.heap.size; omega) _).alloc _⟩
        · exact (cL_put4 H2.out _).alloc _
        · exact (H3.out.far1 (by show w.heap.size + 1 ≠ w.heap.size + 1 + 1; omega) _).alloc _
        · have := ElemsTo.made (w1.setCell ⟨w.heap.size + 1, 4, none⟩ (.slice (some ⟨w.heap.size + 3, 0, none⟩) nf nf)) (factL { data := #[] }).toArray nf 12 60 (fun j => factL (T j))
          rw [World.size_setCell, hsz] at this
          exact this
        · exact (HB.out.setCell (by show w.heap.size ≤ w.heap.size + 1; omega) _).alloc (by rw [World.size_setCell]; omega) _
        · simp [hsz]
      case round =>
        clear H1 H2 H3 HB hsz s4
        obtain ⟨k, hk, rfl, h1, h2, h3, h4, hb, hsz⟩ := hrel
        have H1 : Hid (∃ V, Row wr w.heap.size 9 V) := h1
        have H2 : Hid (Row wr (w.heap.size + 1) 9 (fun m => (cL (.slice (some ⟨w.heap.size + 3, 0, none⟩) nf nf) (.slice (some ⟨w.heap.size + 1 + 1, 0, none⟩) nr nr) (.slice none 0 0)).getD m (.bool false))) := h2
        have H3 : Hid (ElemsTo wr (w.heap.size + 1 + 1) nr 11 nr (fun j => entL (I j))) := h3
        have H4 : Hid (ElemsTo wr (w.heap.size + 3) nf 12 k (fun j => factL (T j))) := h4
        have HB : Hid (Below w.heap.size w wr) := hb
        clear h1 h2 h3 h4 hb
        by_cases hlt : k < nf
        · have hlti : (k : Int) < nf := by omega
          obtain ⟨b, off, ha, hbw, hc⟩ := cell_at HF.out (by omega)
          subst ha
          have p0 := (HB.out.cell (by exact hbw)).trans (hc k hlt)
          have c5 : wr.cell? ⟨w.heap.size + 1, 4, none⟩ = some (.slice (some ⟨w.heap.size + 3, 0, none⟩) nf nf) := H2.out.val 4 (by omega)
          obtain ⟨VV, rv, _⟩ := H4.out
          have v0 := rv.val (k * 12 + 0) (by omega)
          have z0 := rv.open_ (k * 12 + 0)
          have v1 := rv.val (k * 12 + 1) (by omega)
          have z1 := rv.open_ (k * 12 + 1)
          have v2 := rv.val (k * 12 + 2) (by omega)
          have z2 := rv.open_ (k * 12 + 2)
          have v3 := rv.val (k * 12 + 3) (by omega)
          have z3 := rv.open_ (k * 12 + 3)
          have v4 := rv.val (k * 12 + 4) (by omega)
          have z4 := rv.open_ (k * 12 + 4)
          have v5 := rv.val (k * 12 + 5) (by omega)
          have z5 := rv.open_ (k * 12 + 5)
          have v6 := rv.val (k * 12 + 6) (by omega)
          have z6 := rv.open_ (k * 12 + 6)
          have v7 := rv.val (k * 12 + 7) (by omega)
          have z7 := rv.open_ (k * 12 + 7)
          have v8 := rv.val (k * 12 + 8) (by omega)
          have z8 := rv.open_ (k * 12 + 8)
          have v9 := rv.val (k * 12 + 9) (by omega)
          have z9 := rv.open_ (k * 12 + 9)
          have v10 := rv.val (k * 12 + 10) (by omega)
          have z10 := rv.open_ (k * 12 + 10)
          have v11 := rv.val (k * 12 + 11) (by omega)
          have z11 := rv.open_ (k * 12 + 11)
          simp only [Nat.add_zero] at v0 z0
          generalize VV (k * 12) = u0 at v0
          generalize VV (k * 12 + 1) = u1 at v1
          generalize VV (k * 12 + 2) = u2 at v2
          generalize VV (k * 12 + 3) = u3 at v3
          generalize VV (k * 12 + 4) = u4 at v4
          generalize VV (k * 12 + 5) = u5 at v5
          generalize VV (k * 12 + 6) = u6 at v6
          generalize VV (k * 12 + 7) = u7 at v7
          generalize VV (k * 12 + 8) = u8 at v8
          generalize VV (k * 12 + 9) = u9 at v9
          generalize VV (k * 12 + 10) = u10 at v10
          generalize VV (k * 12 + 11) = u11 at v11

          have n1 : ∃ V, Row (wr.setCells (w.heap.size + 3) (k * 12) (factL (T k))).drew w.heap.size 9 V := by
            obtain ⟨V, hV⟩ := H1.out
            exact ⟨V, (hV.fars (by omega) _ _).drew⟩
          have n2 := (H2.out.fars (b := w.heap.size + 3) (by omega) (factL (T k)) (k * 12)).drew
          have n3 := (H3.out.far (b := w.heap.size + 3) (by omega) (k * 12) (factL (T k))).drew
          have n6 := (H4.out.put hlt rfl).drew
          have n4 := (below_setCells (b := w.heap.size + 3) (by omega) (factL (T k)) (k * 12) HB.out).drew
          have n5 : (wr.setCells (w.heap.size + 3) (k * 12) (factL (T k))).drew.heap.size = w.heap.size + 4 := by rw [← hsz]; simp [fact_set, World.drew]
          rw [fact_set] at n2 n3 n4 n5 n6
          simp only [fact_set] at n1
          have HN : Hid (_ ∧ _ ∧ _ ∧ _ ∧ _ ∧ _) := ⟨n1, n2, n3, n6, n4, n5⟩
          clear n1 n2 n3 n4 n5 n6 rv
          have hne : b ≠ w.heap.size + 3 := by omega
          have hne2 : w.heap.size + 1 ≠ w.heap.size + 3 := by omega
          clear hc
          go_wp2
          have hfl : ∀ W : World, W.cell? ⟨w.heap.size + 3, k * 12 + 9, none⟩ = some u9 → W.frozen? ⟨w.heap.size + 3, k * 12 + 9, none⟩ = false → (store ⟨w.heap.size + 3, k * 12 + 9, none⟩ (.float .f64 0)).run Try.prog W = .ok () (W.setCell ⟨w.heap.size + 3, k * 12 + 9, none⟩ (.float .f64 0)) := fun W h1 h2 => by rw [run_store _ _ _ _ _ rfl]; simp [h1, h2]
          go_region
          all_goals
            go_wp2
            go_roundw
            case rel => exact ⟨k + 1, by omega, by go_num, HN.out⟩
            case measure => simp [intOf]; omega
        · have hkn : ¬ (k : Int) < nf := by omega
          have hn' : nf = k := by omega
          subst hn'
          obtain ⟨w2, hw2⟩ : ∃ w2, w2 = wr := ⟨_, rfl⟩
          subst hw2
          have hmk := make35 ns l3
          have c4 : w2.cell? ⟨w.heap.size + 1, 6, none⟩ = some (.slice none 0 0) := H2.out.val 6 (by omega)
          have y4 := H2.out.open_ 6
          have s4 : w.heap.size + 1 < w2.heap.size := by omega
          go_wp2
          clear hmk c4 y4
          go_loopw [12] (fun i wr => ∃ k : Nat, k ≤ ns ∧ i = .int .i64 k ∧ (∃ V, Row wr w.heap.size 9 V) ∧ Row wr (w.heap.size + 1) 9 (fun m => (cL (.slice (some ⟨w.heap.size + 3, 0, none⟩) nf nf) (.slice (some ⟨w.heap.size + 1 + 1, 0, none⟩) nr nr) (.slice (some ⟨w.heap.size + 4, 0, none⟩) ns ns)).getD m (.bool false)) ∧
             ElemsTo wr (w.heap.size + 1 + 1) nr 11 nr (fun j => entL (I j)) ∧ ElemsTo wr (w.heap.size + 3) nf 12 nf (fun j => factL (T j)) ∧ (∃ PB, ScTo wr (w.heap.size + 4) ns k S PB) ∧ Below w.heap.size w wr) (fun i _ => ns - (intOf i).toNat)
          case atStart =>
            refine ⟨0, by omega, rfl, ?_, ?_, ?_, ?_, ?_, ?_⟩
            · obtain ⟨V, hV⟩ := H1.out
              exact ⟨V, (hV.far (by show w.heap.size + 1 ≠ w.heap.size; omega) _).alloc _⟩
            · exact (cL_put6 H2.out _).alloc _
            · exact (H3.out.far1 (by show w.heap.size + 1 ≠ w.heap.size + 1 + 1; omega) _).alloc _
            · exact (H4.out.far1 (by show w.heap.size + 1 ≠ w.heap.size + 3; omega) _).alloc _
            · have := ScTo.made (w2.setCell ⟨w.heap.size + 1, 6, none⟩ (.slice (some ⟨w.heap.size + 4, 0, none⟩) ns ns)) #[.string { data := #[] }, .string { data := #[] }, .slice none 0 0] ns 65 S (fun _ => 0)
              rw [World.size_setCell, hsz] at this
              exact ⟨_, this⟩
            · exact (HB.out.setCell (by show w.heap.size ≤ w.heap.size + 1; omega) _).alloc (by rw [World.size_setCell]; omega) _
          case round =>
            clear H1 H2 H3 H4 HB hsz s4
            obtain ⟨k, hk, rfl, h1, h2, h3, h4, h5, hb⟩ := hrel
            have H1 : Hid (∃ V, Row wr w.heap.size 9 V) := h1
            have H2 : Hid (Row wr (w.heap.size + 1) 9 (fun m => (cL (.slice (some ⟨w.heap.size + 3, 0, none⟩) nf nf) (.slice (some ⟨w.heap.size + 1 + 1, 0, none⟩) nr nr) (.slice (some ⟨w.heap.size + 4, 0, none⟩) ns ns)).getD m (.bool false))) := h2
            have H3 : Hid (ElemsTo wr (w.heap.size + 1 + 1) nr 11 nr (fun j => entL (I j))) := h3
            have H4 : Hid (ElemsTo wr (w.heap.size + 3) nf 12 nf (fun j => factL (T j))) := h4
            have H5 : Hid (∃ PB, ScTo wr (w.heap.size + 4) ns k S PB) := h5
            have HB : Hid (Below w.heap.size w wr) := hb
            have hz4 : w.heap.size + 4 < wr.heap.size := by
              obtain ⟨PB, h5⟩ := h5
              obtain ⟨⟨V, hV, _⟩, _⟩ := h5
              exact hV.lt
            clear h1 h2 h3 h4 h5 hb
            by_cases hlt : k < ns
            · have hlti : (k : Int) < ns := by omega
              obtain ⟨b, off, ha, hbw, hc⟩ := scene_at HS.out (by omega)
              subst ha
              obtain ⟨t0, t1, t2⟩ := hc k hlt
              have T0 : Hid _ := t0
              have T1 : Hid _ := t1
              have T2 : Hid _ := t2
              have c2 := (HB.out.cell (by exact hbw)).trans t2
              have HR' : Hid (RefsAt w (S k).pa (S k).pl (S k).ref) := HS.out.2 k hlt
              have hmk := make63 (S k).pl (HL.out k hlt)
              obtain ⟨w3, hw3⟩ : ∃ w3, w3 = wr := ⟨_, rfl⟩
              subst hw3
              clear hc t0 t1 t2
              go_wp2
              clear hmk c2
              go_loopw [14] (fun i wr => ∃ q : Nat, q ≤ (S k).pl ∧ i = .int .i64 q ∧ ElemsTo wr w3.heap.size (S k).pl 3 q (refL (S k).ref) ∧ Below w3.heap.size w3 wr) (fun i _ => (S k).pl - (intOf i).toNat)
              case atStart => exact ⟨0, by omega, rfl, ElemsTo.made w3 _ _ 3 54 _, (Below.refl _ _).alloc (Nat.le_refl _) _⟩
              case round =>
                obtain ⟨q, hq, rfl, h6, hb3⟩ := hrel
                have H6 : Hid (ElemsTo wr w3.heap.size (S k).pl 3 q (refL (S k).ref)) := h6
                have HB3 : Hid (Below w3.heap.size w3 wr) := hb3
                have HBw : Hid (Below w.heap.size w wr) := HB.out.trans (hb3.mono (by omega))
                clear h6 hb3
                have c2 := (HBw.out.cell (by exact hbw)).trans T2.out
                have hz : w3.heap.size < wr.heap.size := H6.out.lt
                by_cases hlt4 : q < (S k).pl
                · have hltq : (q : Int) < (S k).pl := by omega
                  have hpl : ((S k).pl : Int) ≤ 1048576 := by have := HL.out k hlt; omega
                  obtain ⟨b2, off2, ha2, hbw2, hc2⟩ := ref_at HR'.out (by omega)
                  rw [ha2] at c2
                  obtain ⟨r0, r1, r2⟩ := hc2 q hlt4
                  have d0 := (HBw.out.cell (by exact hbw2)).trans r0
                  have d1 := (HBw.out.cell (by exact hbw2)).trans r1
                  have d2 := (HBw.out.cell (by exact hbw2)).trans r2
                  obtain ⟨VV, rv, _⟩ := H6.out
                  have v0 := rv.val (q * 3) (by omega)
                  have v1 := rv.val (q * 3 + 1) (by omega)
                  have v2 := rv.val (q * 3 + 2) (by omega)
                  have z0 := rv.open_ (q * 3)
                  have z1 := rv.open_ (q * 3 + 1)
                  have z2 := rv.open_ (q * 3 + 2)
                  generalize VV (q * 3) = u0 at v0
                  generalize VV (q * 3 + 1) = u1 at v1
                  generalize VV (q * 3 + 2) = u2 at v2
                  clear hc2 r0 r1 r2 rv
                  go_wp2
                  go_roundw
                  case rel =>
                    have n3 := H6.out.put hlt4 rfl
                    rw [show refL (S k).ref q = [.string ((S k).ref q 0), .string ((S k).ref q 1), .string ((S k).ref q 2)] from rfl, three_set] at n3
                    exact ⟨q + 1, by omega, by go_num, n3.alloc _, (((HB3.out.setCell (by exact Nat.le_refl _) _).setCell (by exact Nat.le_refl _) _).setCell (by exact Nat.le_refl _) _).alloc (by simp only [World.size_setCell]; omega) _⟩
                  case measure => simp [intOf]; omega
                · have hkn : ¬ (q : Int) < (S k).pl := by omega
                  have hn' : (S k).pl = q := by omega
                  rw [← hn'] at H6
                  clear hn'
                  obtain ⟨PB, h5⟩ := H5.out
                  have h5' := h5.below HB3.out
                  have H7 : Hid (ScTo wr (w.heap.size + 4) ns k S PB) := h5'
                  obtain ⟨⟨VV, rv, _⟩, _⟩ := h5'
                  have v0 := rv.val (k * 3) (by omega)
                  have v1 := rv.val (k * 3 + 1) (by omega)
                  have v2 := rv.val (k * 3 + 2) (by omega)
                  have z0 := rv.open_ (k * 3)
                  have z1 := rv.open_ (k * 3 + 1)
                  have z2 := rv.open_ (k * 3 + 2)
                  generalize VV (k * 3) = u0 at v0
                  generalize VV (k * 3 + 1) = u1 at v1
                  generalize VV (k * 3 + 2) = u2 at v2
                  have p0 := (HBw.out.cell (by exact hbw)).trans T0.out
                  have p1 := (HBw.out.cell (by exact hbw)).trans T1.out
                  have H2' := H2.out.below HB3.out (by omega)
                  have c6 : wr.cell? ⟨w.heap.size + 1, 6, none⟩ = some (.slice (some ⟨w.heap.size + 4, 0, none⟩) ns ns) := H2'.val 6 (by omega)
                  have n1 : ∃ V, Row (wr.setCells (w.heap.size + 4) (k * 3) [.string (S k).id, .string (S k).name, .slice (some ⟨w3.heap.size, 0, none⟩) (S k).pl (S k).pl]).drew w.heap.size 9 V := by
                    obtain ⟨V, hV⟩ := H1.out
                    exact ⟨V, ((hV.below HB3.out (by omega)).fars (by omega) _ _).drew⟩
                  have n2 := (H2'.fars (b := w.heap.size + 4) (by omega) [.string (S k).id, .string (S k).name, .slice (some ⟨w3.heap.size, 0, none⟩) (S k).pl (S k).pl] (k * 3)).drew
                  have n3 := ((H3.out.below HB3.out (by omega)).far (b := w.heap.size + 4) (by omega) (k * 3) [.string (S k).id, .string (S k).name, .slice (some ⟨w3.heap.size, 0, none⟩) (S k).pl (S k).pl]).drew
                  have n4 := ((H4.out.below HB3.out (by omega)).far (b := w.heap.size + 4) (by omega) (k * 3) [.string (S k).id, .string (S k).name, .slice (some ⟨w3.heap.size, 0, none⟩) (S k).pl (S k).pl]).drew
                  have n5 := (H7.out.put hlt (p := w3.heap.size) hz4 H6.out).drew
                  have n6 := (below_setCells (b := w.heap.size + 4) (by omega) [.string (S k).id, .string (S k).name, .slice (some ⟨w3.heap.size, 0, none⟩) (S k).pl (S k).pl] (k * 3) HBw.out).drew
                  rw [three_set] at n2 n3 n4 n5 n6
                  simp only [three_set] at n1
                  have HN : Hid (_ ∧ _ ∧ _ ∧ _ ∧ _ ∧ _) := ⟨n1, n2, n3, n4, (show ∃ PB, ScTo _ _ _ _ S PB from ⟨_, n5⟩), n6⟩
                  clear n1 n2 n3 n4 n5 n6 rv h5 H2'
                  have hne : b ≠ w.heap.size + 4 := by omega
                  have hne2 : w.heap.size + 1 ≠ w.heap.size + 4 := by omega
                  go_wp2
                  go_region
                  all_goals
                    go_wp2
                    go_roundw
                    case rel => exact ⟨k + 1, by omega, by go_num, HN.out⟩
                    case measure => simp [intOf]; omega
            · have hkn : ¬ (k : Int) < ns := by omega
              have hn' : ns = k := by omega
              subst hn'
              obtain ⟨V, hV⟩ := H1.out
              have r0 := hV.val 0 (by omega)
              have x0 := hV.open_ 0
              have r1 := hV.val 1 (by omega)
              have x1 := hV.open_ 1
              have r2 := hV.val 2 (by omega)
              have x2 := hV.open_ 2
              have r3 := hV.val 3 (by omega)
              have x3 := hV.open_ 3
              have r4 := hV.val 4 (by omega)
              have x4 := hV.open_ 4
              have r5 := hV.val 5 (by omega)
              have x5 := hV.open_ 5
              have r6 := hV.val 6 (by omega)
              have x6 := hV.open_ 6
              have r7 := hV.val 7 (by omega)
              have x7 := hV.open_ 7
              have r8 := hV.val 8 (by omega)
              have x8 := hV.open_ 8
              generalize V 0 = u0 at r0
              generalize V 1 = u1 at r1
              generalize V 2 = u2 at r2
              generalize V 3 = u3 at r3
              generalize V 4 = u4 at r4
              generalize V 5 = u5 at r5
              generalize V 6 = u6 at r6
              generalize V 7 = u7 at r7
              generalize V 8 = u8 at r8
              have c0 : wr.cell? ⟨w.heap.size + 1, 0, none⟩ = some (.string ByteArray.empty) := H2.out.val 0 (by omega)
              have c1 : wr.cell? ⟨w.heap.size + 1, 1, none⟩ = some (.string { data := #[] }) := H2.out.val 1 (by omega)
              have c2 : wr.cell? ⟨w.heap.size + 1, 2, none⟩ = some (.string { data := #[] }) := H2.out.val 2 (by omega)
              have c3 : wr.cell? ⟨w.heap.size + 1, 3, none⟩ = some (.map none) := H2.out.val 3 (by omega)
              have c4 : wr.cell? ⟨w.heap.size + 1, 4, none⟩ = some (.slice (some ⟨w.heap.size + 3, 0, none⟩) nf nf) := H2.out.val 4 (by omega)
              have c5 : wr.cell? ⟨w.heap.size + 1, 5, none⟩ = some (.slice (some ⟨w.heap.size + 1 + 1, 0, none⟩) nr nr) := H2.out.val 5 (by omega)
              have c6 : wr.cell? ⟨w.heap.size + 1, 6, none⟩ = some (.slice (some ⟨w.heap.size + 4, 0, none⟩) ns ns) := H2.out.val 6 (by omega)
              have c7 : wr.cell? ⟨w.heap.size + 1, 7, none⟩ = some (.pointer none) := H2.out.val 7 (by omega)
              have c8 : wr.cell? ⟨w.heap.size + 1, 8, none⟩ = some (.bool false) := H2.out.val 8 (by omega)
              clear hV
              go_wp2
              refine bodyPost_ret (v := .agg (cL (.slice (some ⟨w.heap.size + 3, 0, none⟩) nf nf) (.slice (some ⟨w.heap.size + 1 + 1, 0, none⟩) nr nr) (.slice (some ⟨w.heap.size + 4, 0, none⟩) ns ns)).toArray) ?_ rfl ⟨rfl, ?_, ?_, ?_, ?_⟩
              · refine results_cell1 Try.results9 _ rfl (run_loadVar_mid _ _ _ 38 (cL (.slice (some ⟨w.heap.size + 3, 0, none⟩) nf nf) (.slice (some ⟨w.heap.size + 1 + 1, 0, none⟩) nr nr) (.slice (some ⟨w.heap.size + 4, 0, none⟩) ns ns)) _ ?_ Try.underlying38 rfl (by kernel_rfl))
                have := World.rangeAt_setCells_same wr w.heap.size 0 (cL (.slice (some ⟨w.heap.size + 3, 0, none⟩) nf nf) (.slice (some ⟨w.heap.size + 1 + 1, 0, none⟩) nr nr) (.slice (some ⟨w.heap.size + 4, 0, none⟩) ns ns)) (by
                  obtain ⟨V, hV⟩ := H1.out
                  exact hV.there (by simp [cL]))
                rw [cL_set] at this
                exact this
              · rw [← cL_set]
                exact H3.out.far (by omega) _ _
              · rw [← cL_set]
                exact H4.out.far (by omega) _ _
              · obtain ⟨PB, h5⟩ := H5.out
                rw [← cL_set]
                exact ⟨PB, h5.far (by omega) _ _⟩
              · rw [← cL_set]
                exact below_setCells (Nat.le_refl _) _ _ HB.out
end Go.Proofs.Qxb6615139a
