/- CheckNoConfig at a map with an entry. -/
import Derived.Test.Qxb6615135aFmtAccept
import Derived.Test.Qxb6615135aFmtErr
import Derived.Test.Qxb6615135aFmtIter
namespace Go.Proofs.Qxb6615135aFmt
open Go.RowKit Go.WideMaps Go.Maps Go.ChangeMaps Go.Sort Go.Shelf Go.Extern.Stop Go.Stop Go.Extern

/-- What slices.Sorted handed back can be printed. -/
theorem op_row {w w' : World} {base : Nat} {v : Value} {ss : List (List UInt8)} (h : w.ownsRow base 9 1 v ss.length (ss.map encStr)) (hb : Below w.heap.size w w') :
    ∃ l, (FmtStop.operand "fmt.errorf" true 113 false (.iface 22 v)).run Tryf.prog w' = .ok l w' := by
  rcases h.2 with ⟨rfl, _⟩ | ⟨g, cap, cur, rfl, _, hg, _, _, _, hx⟩
  · exact opNil w'
  · have hgl : g < w.heap.size := by
      rcases Nat.lt_or_ge g w.heap.size with hlt | hge
      · exact hlt
      · rw [Array.getElem?_eq_none hge] at hg; cases hg
    have := opStrs ⟨g, 0, none⟩ cap (ss.map fun s => ⟨s.toArray⟩) w' (fun j u hj => by
      rw [Addr.add_mid, Nat.zero_add, hb.cell (by exact hgl)]
      have e : (ss.map encStr)[j]? = some u := by rw [← hj, List.map_map]; rfl
      rw [← hx] at e
      have hj' : j < ss.length * 1 := by
        have := (List.getElem?_eq_some_iff.1 e).1
        rw [List.length_take] at this; omega
      rw [List.getElem?_take_of_lt hj'] at e
      simpa [World.cell?, hg] using e)
    rwa [List.length_map] at this

set_option maxHeartbeats 1000000 in
theorem checkPos : CheckPos := by
  intro b n w hm hn hl
  obtain ⟨D, hown, hpos⟩ := hm
  have hsz := hpos hn
  have hszI : (0 : Int) < (Maps.size D : Int) := by omega
  have hle := hown.size_le
  have hln := fun ty => hown.len Tryf.underlying24 ty
  have HO : Hid (w.ownsMap Tryf.prog 9 R0 b n D) := hown
  clear hown hpos
  go_enter Tryf.func6, Tryf.ntmps6
  go_wp2_with fail
  refine ((callsIn_wide (n := 5)).1 (Tryf.maps_Keys_11 (some b) w)).mono ?_
  rintro e w1 ⟨rfl, rfl⟩
  clear hln
  go_wp2_with fail
  refine ((callsIn_wide (n := 5)).1 (Tryf.slices_Sorted_keys_10_11 b n D R0 w HO.out (by unfold maxLen; omega) (by omega))).mono ?_
  rintro e w2 ⟨v, ss, rfl, hS, hrow, hnil, hb⟩
  have HR : Hid (w2.ownsRow (w.alloc (.cells #[.map (some b)] 24)).heap.size 9 1 v ss.length ((ss.mergeSort (fun x y => decide (x ≤ y))).map encStr)) := hrow
  have HB : Hid (Below w.heap.size w w2) := ((Below.refl _ w).alloc (Nat.le_refl _) _).trans (hb.mono (by simp))
  clear hS hrow hnil hb
  go_wp2_with fail
  refine (errorfW w2.heap.size (.iface 22 v) _ ?_ ?_).mono ?_
  · simp
  · have e : ss.length = (ss.mergeSort (fun x y => decide (x ≤ y))).length := (List.length_mergeSort _).symm
    have hr := HR.out
    rw [e] at hr
    exact op_row hr ((Below.refl _ _).alloc (Nat.le_refl _) _)
  · rintro e w3 ⟨rfl, hb⟩
    have HB3 : Hid (Below w.heap.size w w3) := (HB.out.alloc HB.out.size _).trans (hb.mono (by have := HB.out.size; simp; omega))
    clear hb
    go_wp2_with fail
    go_ret2
    exact ⟨⟨_, rfl⟩, HB3.out⟩

end Go.Proofs.Qxb6615135aFmt
