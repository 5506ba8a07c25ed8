/- What the law's arguments are. -/
import Derived.Test.Qxb6615139aMem
import Derived.Deep.SlicePairs
import Derived.Deep.Strs
import Derived.ProofKit
import Derived.SizedLaws
namespace Go.Proofs.Qxb6615139a
open Go.ChangeShapes Go.WideShapes Go.ChangeAt Go.RowKit Go.Deep

theorem own : ownKnob Try.prog.godebug = none := by kernel_rfl
theorem laidOut : laidOutB Try.prog = true := by kernel_rfl
theorem cells2 : Try.prog.cellsOf 2 = 1 := by kernel_rfl
theorem cells3 : Try.prog.cellsOf 3 = 1 := by kernel_rfl
theorem cells9 : Try.prog.cellsOf 9 = 1 := by kernel_rfl
theorem cells72 : Try.prog.cellsOf 72 = 1 := by kernel_rfl
theorem cells82 : Try.prog.cellsOf 82 = 2 := by kernel_rfl
theorem cells78 : Try.prog.cellsOf 78 = 3 := by kernel_rfl
theorem cells74 : Try.prog.cellsOf 74 = 3 := by kernel_rfl

section
variable {H : Type} {enc : TypeId × Value → H}

/-- A slice of one-cell elements. -/
theorem open_ones {α : Type} [Inhabited α] {W : World} {t e : TypeId} (ht : Try.prog.underlying t = some (.slice e)) (hc : Try.prog.cellsOf e = 1) (f : α → Value)
    (hv : ∀ (fuel : Nat) (cs : List Value) (x : DataW H × List MemPlace), DataW.trod enc Try.prog W 0 (fun _ => true) true fuel e cs = some x → ∃ y, cs = [f y])
    {fuel : Nat} {a0 : Option Addr} {len cap : Nat} {x : DataW H × List MemPlace} (hlt : ∀ y ∈ x.2, y.block < W.heap.size)
    (h : DataW.trod enc Try.prog W 0 (fun _ => true) true fuel t [.slice a0 len cap] = some x) : (∃ y : Nat → α, CellsAt W a0 len (fun j => f (y j))) ∧ (a0 = none → len = 0 ∧ cap = 0) := by
  rcases open_slice1 ht hc h with ⟨hcs, hx⟩ | ⟨a, len', cap', m, n, V, D, P0, hcs, _, hl, _, hm, hx, hcell⟩
  · simp at hcs
    obtain ⟨rfl, rfl, rfl⟩ := hcs
    exact ⟨⟨fun _ => default, Or.inl rfl⟩, fun _ => ⟨rfl, rfl⟩⟩
  · simp at hcs
    obtain ⟨rfl, rfl, rfl⟩ := hcs
    subst hx
    simp only [if_true] at hm
    subst hm
    refine ⟨?_, fun h => by cases h⟩
    have hv' : ∀ i, i < m → ∃ y : α, V i = f y := fun i hi => by
      obtain ⟨y, hy⟩ := hv _ _ _ (hcell i hi).2
      exact ⟨y, by simpa using hy⟩
    obtain ⟨y, hy⟩ := choose_lt hv'
    refine ⟨y, ?_⟩
    by_cases hl0 : len = 0
    · exact Or.inl hl0
    · obtain ⟨b, off, spot⟩ := a
      have hspot : spot = none := by simpa [Addr.add] using World.cell?_spot (hcell 0 (by omega)).1
      subst hspot
      have hbW : b < W.heap.size := hlt (.cell b off) (List.mem_append_left _ (MemPlace.mem_row.2 ⟨0, by omega, by simp⟩))
      refine Or.inr ⟨b, off, rfl, hbW, fun j hj => ?_⟩
      have := (hcell j (by omega)).1
      rw [add_plain] at this
      rw [this, hy j (by omega)]

theorem open_i64s {W : World} {t e : TypeId} (ht : Try.prog.underlying t = some (.slice e)) (hc : Try.prog.cellsOf e = 1) (he : Try.prog.underlying e = some (.int .i64))
    {fuel : Nat} {a0 : Option Addr} {len cap : Nat} {x : DataW H × List MemPlace} (hlt : ∀ y ∈ x.2, y.block < W.heap.size)
    (h : DataW.trod enc Try.prog W 0 (fun _ => true) true fuel t [.slice a0 len cap] = some x) : (∃ y : Nat → Int, CellsAt W a0 len (fun j => .int .i64 (y j))) ∧ (a0 = none → len = 0 ∧ cap = 0) :=
  open_ones ht hc (fun y : Int => .int .i64 y) (fun _ _ _ h => let ⟨n, hn, _⟩ := DataW.trod_int he h; ⟨n, hn⟩) hlt h
theorem open_strs {W : World} {fuel : Nat} {a0 : Option Addr} {len cap : Nat} {x : DataW H × List MemPlace} (hlt : ∀ y ∈ x.2, y.block < W.heap.size)
    (h : DataW.trod enc Try.prog W 0 (fun _ => true) true fuel 23 [.slice a0 len cap] = some x) : (∃ y : Nat → ByteArray, CellsAt W a0 len (fun j => .string (y j))) ∧ (a0 = none → len = 0 ∧ cap = 0) :=
  open_ones Try.underlying23 cells9 (fun y : ByteArray => .string y) (fun _ _ _ h => let ⟨n, hn, _⟩ := DataW.trod_string Try.underlying9 h; ⟨n, hn⟩) hlt h

theorem open_pairs {W : World} {fuel : Nat} {a0 : Option Addr} {len cap : Nat} {x : DataW H × List MemPlace} (hlt : ∀ y ∈ x.2, y.block < W.heap.size)
    (h : DataW.trod enc Try.prog W 0 (fun _ => true) true fuel 26 [.slice a0 len cap] = some x) : ∃ of ix : Nat → Int, PairsAt W a0 len of ix := by
  rcases open_slice_pairs Try.underlying26 Try.underlying82 cells82 rfl rfl cells3 cells3 h with ⟨hcs, hx⟩ | ⟨a, len', cap', m, n, V0, V1, D0, D1, P0, P1, hcs, _, hl, _, hm, hx, hcell⟩
  · simp at hcs
    obtain ⟨rfl, rfl, rfl⟩ := hcs
    exact ⟨fun _ => 0, fun _ => 0, Or.inl rfl⟩
  · simp at hcs
    obtain ⟨rfl, rfl, rfl⟩ := hcs
    subst hx
    simp only [if_true] at hm
    subst hm
    have hv : ∀ i, i < m → ∃ y : Int × Int, V0 i = .int .i64 y.1 ∧ V1 i = .int .i64 y.2 := fun i hi => by
      obtain ⟨_, _, h0, h1⟩ := hcell i hi
      obtain ⟨y, hy, _⟩ := DataW.trod_int Try.underlying3 h0
      obtain ⟨z, hz, _⟩ := DataW.trod_int Try.underlying3 h1
      exact ⟨(y, z), by simpa using hy, by simpa using hz⟩
    obtain ⟨g, hg⟩ := choose_lt hv
    refine ⟨fun i => (g i).1, fun i => (g i).2, ?_⟩
    by_cases hl0 : len = 0
    · exact Or.inl hl0
    · obtain ⟨b, off, spot⟩ := a
      have hspot : spot = none := by simpa [Addr.add] using World.cell?_spot (hcell 0 (by omega)).1
      subst hspot
      have hbW : b < W.heap.size := hlt (.cell b off) (List.mem_append_left _ (MemPlace.mem_row.2 ⟨0, by omega, by simp⟩))
      refine Or.inr ⟨b, off, rfl, hbW, fun j hj => ?_⟩
      obtain ⟨c0, c1, _, _⟩ := hcell j (by omega)
      rw [add_plain] at c0 c1
      rw [(hg j (by omega)).1] at c0
      rw [(hg j (by omega)).2] at c1
      exact ⟨c0, by rw [Nat.add_assoc]; exact c1⟩

/-- The three cells of an element. -/
theorem three_cells {W : World} {a : Addr} {cs : List Value} (h : W.cells? 0 a 3 = some cs) : ∃ v0 v1 v2, cs = [v0, v1, v2] ∧ W.cell? a = some v0 ∧ W.cell? (a.add 1) = some v1 ∧ W.cell? (a.add 2) = some v2 := by
  obtain ⟨_, hl, hc⟩ := World.cells?_some h
  match cs, hl with
  | [v0, v1, v2], _ => exact ⟨v0, v1, v2, rfl, by simpa [Addr.add] using hc 0 (by omega), by simpa using hc 1 (by omega), by simpa using hc 2 (by omega)⟩

theorem open_refs {W : World} {fuel : Nat} {a0 : Option Addr} {len cap : Nat} {x : DataW H × List MemPlace} (hlt : ∀ y ∈ x.2, y.block < W.heap.size)
    (h : DataW.trod enc Try.prog W 0 (fun _ => true) true fuel 72 [.slice a0 len cap] = some x) : ∃ r : Nat → Nat → ByteArray, RefsAt W a0 len r := by
  rcases open_slice Try.underlying72 h with ⟨hcs, hx⟩ | ⟨a, len', cap', m, n, D, Pl, hcs, _, hl, _, hm, hx, hcell⟩
  · simp at hcs
    obtain ⟨rfl, rfl, rfl⟩ := hcs
    exact ⟨fun _ _ => ByteArray.empty, Or.inl rfl⟩
  · simp at hcs
    obtain ⟨rfl, rfl, rfl⟩ := hcs
    subst hx
    simp only [if_true] at hm
    subst hm
    rw [cells78] at hcell hlt
    have hv : ∀ i, i < m → ∃ y : ByteArray × ByteArray × ByteArray, W.cell? (a.add (i * 3)) = some (.string y.1) ∧ W.cell? ((a.add (i * 3)).add 1) = some (.string y.2.1) ∧ W.cell? ((a.add (i * 3)).add 2) = some (.string y.2.2) := fun i hi => by
      obtain ⟨cs, hcs, htr⟩ := hcell i hi
      obtain ⟨v0, v1, v2, rfl, e0, e1, e2⟩ := three_cells hcs
      obtain ⟨y0, y1, y2, k, _, _, g0, g1, g2⟩ := trod_struct3 Try.underlying78 htr
      obtain ⟨s0, q0, _⟩ := DataW.trod_string Try.underlying9 g0
      obtain ⟨s1, q1, _⟩ := DataW.trod_string Try.underlying9 g1
      obtain ⟨s2, q2, _⟩ := DataW.trod_string Try.underlying9 g2
      simp [cells9] at q0 q1 q2
      subst q0 q1 q2
      exact ⟨(s0, s1, s2), e0, e1, e2⟩
    obtain ⟨g, hg⟩ := choose_lt hv
    refine ⟨fun i k => if k = 0 then (g i).1 else if k = 1 then (g i).2.1 else (g i).2.2, ?_⟩
    by_cases hl0 : len = 0
    · exact Or.inl hl0
    · obtain ⟨b, off, spot⟩ := a
      have hspot : spot = none := by simpa [Addr.add] using World.cell?_spot (hg 0 (by omega)).1
      subst hspot
      have hbW : b < W.heap.size := hlt (.cell b off) (List.mem_append_left _ (MemPlace.mem_row.2 ⟨0, by omega, by simp⟩))
      refine Or.inr ⟨b, off, rfl, hbW, fun j hj => ?_⟩
      obtain ⟨c0, c1, c2⟩ := hg j (by omega)
      rw [add_plain] at c0 c1 c2
      rw [add_plain] at c1 c2
      exact ⟨c0, c1, c2⟩

instance : Inhabited Scn := ⟨⟨ByteArray.empty, ByteArray.empty, none, 0, 0, fun _ _ => ByteArray.empty⟩⟩

theorem open_scenes {W : World} {fuel : Nat} {a0 : Option Addr} {len cap : Nat} {x : DataW H × List MemPlace} (hlt : ∀ y ∈ x.2, y.block < W.heap.size)
    (h : DataW.trod enc Try.prog W 0 (fun _ => true) true fuel 24 [.slice a0 len cap] = some x) : ∃ S : Nat → Scn, ScenesAt W a0 len S := by
  rcases open_slice Try.underlying24 h with ⟨hcs, hx⟩ | ⟨a, len', cap', m, n, D, Pl, hcs, _, hl, _, hm, hx, hcell⟩
  · simp at hcs
    obtain ⟨rfl, rfl, rfl⟩ := hcs
    exact ⟨fun _ => default, Or.inl rfl, fun j hj => by omega⟩
  · simp at hcs
    obtain ⟨rfl, rfl, rfl⟩ := hcs
    subst hx
    simp only [if_true] at hm
    subst hm
    rw [cells74] at hcell hlt
    have hv : ∀ i, i < m → ∃ y : Scn, W.cell? (a.add (i * 3)) = some (.string y.id) ∧ W.cell? ((a.add (i * 3)).add 1) = some (.string y.name) ∧ W.cell? ((a.add (i * 3)).add 2) = some (.slice y.pa y.pl y.pc) ∧ RefsAt W y.pa y.pl y.ref := fun i hi => by
      obtain ⟨cs, hcs, htr⟩ := hcell i hi
      obtain ⟨v0, v1, v2, rfl, e0, e1, e2⟩ := three_cells hcs
      obtain ⟨y0, y1, y2, k, hxy, _, g0, g1, g2⟩ := trod_struct3 Try.underlying74 htr
      obtain ⟨s0, q0, _⟩ := DataW.trod_string Try.underlying9 g0
      obtain ⟨s1, q1, _⟩ := DataW.trod_string Try.underlying9 g1
      simp [cells9] at q0 q1
      subst q0 q1
      have g2' : DataW.trod enc Try.prog W 0 (fun _ => true) true k 72 [v2] = some y2 := by
        have := g2
        simp [cells72] at this
        exact this
      have hlt2 : ∀ y ∈ y2.2, y.block < W.heap.size := fun y hy => hlt y (List.mem_append_right _ (List.mem_flatMap.2 ⟨i, List.mem_range.2 hi, by
        have : Pl i = y0.2 ++ (y1.2 ++ y2.2) := by injection hxy
        rw [this]
        exact List.mem_append_right _ (List.mem_append_right _ hy)⟩))
      have hsh : ∃ pa pl pc, v2 = .slice pa pl pc := by
        rcases open_slice Try.underlying72 g2' with ⟨hc, _⟩ | ⟨a', l', c', _, _, _, _, hc, _⟩
        · simp at hc; exact ⟨none, 0, 0, hc⟩
        · simp at hc; exact ⟨some a', l', c', hc⟩
      obtain ⟨pa, pl, pc, rfl⟩ := hsh
      obtain ⟨r, hr⟩ := open_refs hlt2 g2'
      exact ⟨⟨s0, s1, pa, pl, pc, r⟩, e0, e1, e2, hr⟩
    obtain ⟨g, hg⟩ := choose_lt hv
    refine ⟨g, ?_, fun j hj => (hg j (by omega)).2.2.2⟩
    by_cases hl0 : len = 0
    · exact Or.inl hl0
    · obtain ⟨b, off, spot⟩ := a
      have hspot : spot = none := by simpa [Addr.add] using World.cell?_spot (hg 0 (by omega)).1
      subst hspot
      have hbW : b < W.heap.size := hlt (.cell b off) (List.mem_append_left _ (MemPlace.mem_row.2 ⟨0, by omega, by simp⟩))
      refine Or.inr ⟨b, off, rfl, hbW, fun j hj => ?_⟩
      obtain ⟨c0, c1, c2, _⟩ := hg j (by omega)
      rw [add_plain] at c0 c1 c2
      rw [add_plain] at c1 c2
      exact ⟨c0, c1, c2⟩
end

end Go.Proofs.Qxb6615139a
