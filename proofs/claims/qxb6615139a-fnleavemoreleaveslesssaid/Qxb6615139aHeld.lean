/- What leave hands out, as the memory has it. -/
import Derived.Test.Qxb6615139aPlain
namespace Go.Proofs.Qxb6615139a
open Go.RowKit

/-- ListAt, in a block that is P. -/
def ListIn (w : World) (P : Nat → Prop) (v : Value) (m : Nat) (is : List Nat) (L : Nat → List Value) : Prop :=
  ∃ ao cap, v = .slice ao is.length cap ∧ (is = [] ∨ ∃ b off, ao = some ⟨b, off, none⟩ ∧ P b ∧ b < w.heap.size ∧ ∀ p (hp : p < is.length), w.rangeAt b (off + p * m) (L is[p]))
theorem ListIn.of {w : World} {P : Nat → Prop} {v : Value} {m : Nat} {is : List Nat} {L : Nat → List Value} (h : ListAt w v m is L) (hg : ∀ b o l c, v = .slice (some ⟨b, o, none⟩) l c → b < w.heap.size → P b) : ListIn w P v m is L := by
  obtain ⟨ao, cap, hv, h⟩ := h
  refine ⟨ao, cap, hv, ?_⟩
  rcases h with h | ⟨b, off, ha, hbw, hc⟩
  · exact Or.inl h
  · subst ha
    exact Or.inr ⟨b, off, rfl, hg _ _ _ _ hv hbw, hbw, hc⟩
theorem ListIn.list {w : World} {P : Nat → Prop} {v : Value} {m : Nat} {is : List Nat} {L : Nat → List Value} (h : ListIn w P v m is L) : ListAt w v m is L := by
  obtain ⟨ao, cap, hv, h⟩ := h
  refine ⟨ao, cap, hv, ?_⟩
  rcases h with h | ⟨b, off, ha, _, hbw, hc⟩
  · exact Or.inl h
  · exact Or.inr ⟨b, off, ha, hbw, hc⟩
theorem ListIn.mono {w : World} {P P' : Nat → Prop} {v : Value} {m : Nat} {is : List Nat} {L : Nat → List Value} (h : ListIn w P v m is L) (hp : ∀ b, P b → b < w.heap.size → P' b) : ListIn w P' v m is L := by
  obtain ⟨ao, cap, hv, h⟩ := h
  refine ⟨ao, cap, hv, ?_⟩
  rcases h with h | ⟨b, off, ha, h1, hbw, hc⟩
  · exact Or.inl h
  · exact Or.inr ⟨b, off, ha, hp b h1 hbw, hbw, hc⟩
theorem ListIn.below {w w' : World} {P : Nat → Prop} {v : Value} {m : Nat} {is : List Nat} {L : Nat → List Value} (h : ListIn w P v m is L) (hb : Below w.heap.size w w') : ListIn w' P v m is L := by
  obtain ⟨ao, cap, hv, h⟩ := h
  refine ⟨ao, cap, hv, ?_⟩
  rcases h with h | ⟨b, off, ha, hne, hbw, hc⟩
  · exact Or.inl h
  · exact Or.inr ⟨b, off, ha, hne, Nat.lt_of_lt_of_le hbw hb.size, fun p hp j u hu => (hb.cell (by exact hbw)).trans (hc p hp j u hu)⟩
theorem ListIn.far {w : World} {P : Nat → Prop} {g : Nat} {v : Value} {m : Nat} {is : List Nat} {L : Nat → List Value} (h : ListIn w P v m is L) (hg : ¬ P g) (o : Nat) (vs : List Value) : ListIn (w.setCells g o vs) P v m is L := by
  obtain ⟨ao, cap, hv, h⟩ := h
  refine ⟨ao, cap, hv, ?_⟩
  rcases h with h | ⟨b, off, ha, hne, hbw, hc⟩
  · exact Or.inl h
  · exact Or.inr ⟨b, off, ha, hne, by rw [size_sets]; exact hbw, fun p hp j u hu => cell_far (hc p hp j u hu) (fun e => hg (by have e' : b = g := e; rw [← e']; exact hne)) o vs⟩

/-- The first k scenes of block g hold, of those present, the places R. -/
def KeptTo (w : World) (P : Nat → Prop) (g ns k : Nat) (S : Nat → Scn) (R : Nat → List Nat) : Prop :=
  ∃ V, Row w g (ns * 3) V ∧ ∀ j < k, ListIn w P (V (j * 3 + 2)) 3 (R j) (refL (S j).ref)
theorem KeptTo.lt {w : World} {P : Nat → Prop} {g ns k : Nat} {S : Nat → Scn} {R : Nat → List Nat} (h : KeptTo w P g ns k S R) : g < w.heap.size := by
  obtain ⟨V, hr, _⟩ := h
  exact hr.lt
theorem KeptTo.mono {w : World} {P P' : Nat → Prop} {g ns k : Nat} {S : Nat → Scn} {R : Nat → List Nat} (h : KeptTo w P g ns k S R) (hp : ∀ b, P b → b < w.heap.size → P' b) : KeptTo w P' g ns k S R := by
  obtain ⟨V, hr, hv⟩ := h
  exact ⟨V, hr, fun j hj => (hv j hj).mono hp⟩
theorem KeptTo.below {w w' : World} {P : Nat → Prop} {g ns k : Nat} {S : Nat → Scn} {R : Nat → List Nat} (h : KeptTo w P g ns k S R) (hb : Below w.heap.size w w') : KeptTo w' P g ns k S R := by
  obtain ⟨V, hr, hv⟩ := h
  exact ⟨V, hr.below hb hr.lt, fun j hj => (hv j hj).below hb⟩
theorem KeptTo.far {w : World} {P : Nat → Prop} {g ns k b : Nat} {S : Nat → Scn} {R : Nat → List Nat} (h : KeptTo w P g ns k S R) (hg : ¬ P b) (hb : b ≠ g) (o : Nat) (vs : List Value) : KeptTo (w.setCells b o vs) P g ns k S R := by
  obtain ⟨V, hr, hv⟩ := h
  exact ⟨V, hr.fars hb vs o, fun j hj => (hv j hj).far hg o vs⟩
theorem KeptTo.drew {w : World} {P : Nat → Prop} {g ns k : Nat} {S : Nat → Scn} {R : Nat → List Nat} (h : KeptTo w P g ns k S R) : KeptTo w.drew P g ns k S R :=
  h.below (Below.refl _ _).drew
theorem KeptTo.made (w : World) (P : Nat → Prop) (z : Array Value) (ns : Nat) (t : TypeId) (S : Nat → Scn) (R : Nat → List Nat) : KeptTo (w.alloc (.cells (madeCells z (ns * 3)) t)) P w.heap.size ns 0 S R :=
  ⟨_, Row.made w z _ t, fun j hj => by omega⟩
theorem KeptTo.put {w : World} {P : Nat → Prop} {g ns k : Nat} {S : Nat → Scn} {R : Nat → List Nat} (h : KeptTo w P g ns k S R) (hg : ¬ P g) (hk : k < ns) (x y : Value) {v : Value} (hv : ListIn w P v 3 (R k) (refL (S k).ref)) :
    KeptTo (w.setCells g (k * 3) [x, y, v]) P g ns (k + 1) S R := by
  obtain ⟨V, hr, h⟩ := h
  refine ⟨_, hr.puts [x, y, v] (k * 3) (by simp; omega), fun j hj => ?_⟩
  by_cases e : j = k
  · subst e
    have : (if j * 3 ≤ j * 3 + 2 ∧ j * 3 + 2 < j * 3 + [x, y, v].length then [x, y, v].getD (j * 3 + 2 - j * 3) (.bool false) else V (j * 3 + 2)) = v := by simp
    rw [this]
    exact hv.far hg _ _
  · have : (if k * 3 ≤ j * 3 + 2 ∧ j * 3 + 2 < k * 3 + [x, y, v].length then [x, y, v].getD (j * 3 + 2 - k * 3) (.bool false) else V (j * 3 + 2)) = V (j * 3 + 2) := by
      rw [if_neg (by simp; omega)]
    rw [this]
    exact (h j (by omega)).far hg _ _
theorem ScTo.keptAll {w : World} {g ns : Nat} {S : Nat → Scn} {PB : Nat → Nat} (h : ScTo w g ns ns S PB) (of ix : Nat → Int) : KeptTo w (fun b => (∃ j < ns, b = PB j) ∧ b ≠ g ∧ b < w.heap.size) g ns ns S (fun j => kept (in2 of ix 0 j) (S j).pl) := by
  obtain ⟨⟨V, hr, hv⟩, h2⟩ := h
  refine ⟨V, hr, fun j hj => ?_⟩
  have : kept (in2 of ix 0 j) (S j).pl = List.range (S j).pl := kept_all (fun _ _ => rfl)
  simp only [this, (hv j hj).2.2]
  refine ListIn.of ((h2 j hj).2.2.list (fun _ => rfl) _) (fun b o l c e hb => ?_)
  cases e
  exact ⟨⟨j, hj, rfl⟩, Nat.ne_of_gt (h2 j hj).1, hb⟩

/-- The numbers left out: no pointer where all are none. -/
def OmAt (w : World) (ptr : Option Addr) (x y z : Int) : Prop :=
  (ptr = none ∧ x = 0 ∧ y = 0 ∧ z = 0) ∨ ∃ o, ptr = some ⟨o, 0, none⟩ ∧ Row w o 3 (fun m => [Value.int .i64 x, .int .i64 y, .int .i64 z].getD m (.bool false)) ∧ ¬ (x = 0 ∧ y = 0 ∧ z = 0)
theorem OmAt.below {w w' : World} {ptr : Option Addr} {x y z : Int} (h : OmAt w ptr x y z) (hb : Below w.heap.size w w') : OmAt w' ptr x y z := by
  rcases h with h | ⟨o, h1, h2, h3⟩
  · exact Or.inl h
  · exact Or.inr ⟨o, h1, h2.below hb h2.lt, h3⟩

def hL (f r s p ob : Value) : List Value := [.string ByteArray.empty, .string { data := #[] }, .string { data := #[] }, .map none, f, r, s, p, ob]
/-- c.Recent[E:]. -/
def recV (gr nr E : Nat) : Value := .slice (some ⟨gr, if nr = E then 0 else E * 11, none⟩) (nr - E) (nr - E)
structure Held (w : World) (P : Nat → Prop) (v : Value) (gr nr nf ns E F Q : Nat) (b1 b2 b3 : Int) (T : Nat → ByteArray) (S : Nat → Scn) (fo of ix : Nat → Int) (fv : Value) (g : Nat) (ptr : Option Addr) (ob : Bool) : Prop where
  hv : v = .agg (hL fv (recV gr nr E) (.slice (some ⟨g, 0, none⟩) ns ns) (.pointer ptr) (.bool ob)).toArray
  hf : ListIn w P fv 12 (kept (inPre fo F) nf) (fun j => factL (T j))
  hs : KeptTo w P g ns ns S (fun j => kept (in2 of ix Q j) (S j).pl)
  hg : P g
  ho : OmAt w ptr (b1 + E) (b2 + F) (b3 + Q)
  hp : ∀ o, ptr = some ⟨o, 0, none⟩ → P o
def HeldIs (w : World) (P : Nat → Prop) (v : Value) (gr nr nf ns E F Q : Nat) (b1 b2 b3 : Int) (T : Nat → ByteArray) (S : Nat → Scn) (fo of ix : Nat → Int) : Prop :=
  ∃ fv g ptr ob, Held w P v gr nr nf ns E F Q b1 b2 b3 T S fo of ix fv g ptr ob
theorem OmAt.far {W : World} {ptr : Option Addr} {x y z : Int} (h : OmAt W ptr x y z) {b : Nat} (hb : ∀ o, ptr = some ⟨o, 0, none⟩ → b ≠ o) (o : Nat) (vs : List Value) : OmAt (W.setCells b o vs) ptr x y z := by
  rcases h with h | ⟨q, h1, h2, h3⟩
  · exact Or.inl h
  · exact Or.inr ⟨q, h1, h2.fars (hb q h1) vs o, h3⟩
theorem HeldIs.below {w w' : World} {P : Nat → Prop} {v : Value} {gr nr nf ns E F Q : Nat} {b1 b2 b3 : Int} {T : Nat → ByteArray} {S : Nat → Scn} {fo of ix : Nat → Int} (h : HeldIs w P v gr nr nf ns E F Q b1 b2 b3 T S fo of ix) (hb : Below w.heap.size w w') :
    HeldIs w' P v gr nr nf ns E F Q b1 b2 b3 T S fo of ix := by
  obtain ⟨fv, g, ptr, ob, hv, hf, hs, hg, ho, hp⟩ := h
  exact ⟨fv, g, ptr, ob, hv, hf.below hb, hs.below hb, hg, ho.below hb, hp⟩
theorem HeldIs.far {w : World} {P : Nat → Prop} {v : Value} {gr nr nf ns E F Q b : Nat} {b1 b2 b3 : Int} {T : Nat → ByteArray} {S : Nat → Scn} {fo of ix : Nat → Int} (h : HeldIs w P v gr nr nf ns E F Q b1 b2 b3 T S fo of ix) (hb : ¬ P b) (o : Nat) (vs : List Value) :
    HeldIs (w.setCells b o vs) P v gr nr nf ns E F Q b1 b2 b3 T S fo of ix := by
  obtain ⟨fv, g, ptr, ob, hv, hf, hs, hg, ho, hp⟩ := h
  exact ⟨fv, g, ptr, ob, hv, hf.far hb o vs, hs.far hb (fun e => hb (by rw [e]; exact hg)) o vs, hg, ho.far (fun q hq e => hb (by rw [e]; exact hp q hq)) o vs, hp⟩
theorem HeldIs.mono {w : World} {P P' : Nat → Prop} {v : Value} {gr nr nf ns E F Q : Nat} {b1 b2 b3 : Int} {T : Nat → ByteArray} {S : Nat → Scn} {fo of ix : Nat → Int} (h : HeldIs w P v gr nr nf ns E F Q b1 b2 b3 T S fo of ix) (hp' : ∀ b, P b → P' b) :
    HeldIs w P' v gr nr nf ns E F Q b1 b2 b3 T S fo of ix := by
  obtain ⟨fv, g, ptr, ob, hv, hf, hs, hg, ho, hp⟩ := h
  exact ⟨fv, g, ptr, ob, hv, hf.mono (fun b h _ => hp' b h), hs.mono (fun b h _ => hp' b h), hp' g hg, ho, fun o h => hp' o (hp o h)⟩
/-- The blocks in which the answer may lie: those that came in, and new ones. -/
def Old (gf gs ns : Nat) (PB : Nat → Nat) (z b : Nat) : Prop := b = gf ∨ b = gs ∨ (∃ j < ns, b = PB j) ∨ z ≤ b
def HeldAns (P : Nat → Prop) (gr nr nf ns E F Q : Nat) (b1 b2 b3 : Int) (T : Nat → ByteArray) (S : Nat → Scn) (fo of ix : Nat → Int) (w : World) (e : Ending) (w' : World) : Prop :=
  ∃ v, e = .returned v ∧ HeldIs w' P v gr nr nf ns E F Q b1 b2 b3 T S fo of ix ∧ Below w.heap.size w w'

theorem hL_set (W : World) (g : Nat) (f r s p ob : Value) : W.setCells g 0 (hL f r s p ob) = (((((((((W.setCell ⟨g, 0, none⟩ (.string ByteArray.empty)).setCell ⟨g, 1, none⟩ (.string { data := #[] })).setCell ⟨g, 2, none⟩ (.string { data := #[] })).setCell ⟨g, 3, none⟩ (.map none)).setCell ⟨g, 4, none⟩ f).setCell ⟨g, 5, none⟩ r).setCell ⟨g, 6, none⟩ s).setCell ⟨g, 7, none⟩ p).setCell ⟨g, 8, none⟩ ob) := by simp only [hL, World.setCells, Nat.reduceAdd]
theorem hL_row {W : World} {g : Nat} {V : Nat → Value} (h : Row W g 9 V) (f r s p ob : Value) : Row (W.setCells g 0 (hL f r s p ob)) g 9 (fun m => (hL f r s p ob).getD m (.bool false)) := by
  refine (h.puts (hL f r s p ob) 0 (by simp [hL])).ext (fun m hm => ?_)
  rw [if_pos (by simp [hL]; exact hm), Nat.sub_zero]
theorem keepB {B : Nat} {w2 W W' : World} (h : Below B w2 W) (hB : B ≤ w2.heap.size) (hb : Below W.heap.size W W') : Below B w2 W' := h.trans (hb.mono (Nat.le_trans hB h.size))
end Go.Proofs.Qxb6615139a
