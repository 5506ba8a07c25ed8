/- The walk of FnCheckNoConfigOutputIsAccepted, over CheckNoConfig's contract at a map that is not empty. -/
import Derived.Test.Qxb6615135aFmtAll
import Derived.Laws.CopyOwn
import Derived.Deep.OwnRows
import Derived.Deep.MidRow
import Derived.WideLaws
namespace Go.Proofs.Qxb6615135aFmt
open Go.RowKit Go.WideMaps Go.Maps Go.ChangeMaps

/-- CheckNoConfig at a map with an entry. -/
def CheckPos : Prop := ∀ (b n : Nat) (w : World), MapAt w b n → 0 < n → n ≤ 1048576 →
  Calls Tryf.prog 6 #[.map (some b)] w fun e w' => (∃ p, e = .returned (.tuple #[.map none, .iface 41 (.pointer (some p))])) ∧ Below w.heap.size w w'

theorem info9 : (Tryf.prog.info? 9).map (fun i => (i.zero, i.size, i.bytes)) = some (some (.string ByteArray.empty), 1, 16) := by kernel_rfl
theorem size9 : (Tryf.prog.info? 9).map (·.size) = some 1 := by kernel_rfl

def strL (f : Nat → ByteArray) (n : Nat) : List Value := (List.range n).map fun j => .string (f j)
theorem strL_length (f : Nat → ByteArray) (n : Nat) : (strL f n).length = n := by simp [strL]
theorem strL_get (f : Nat → ByteArray) (n j : Nat) (h : j < n) : (strL f n)[j]? = some (.string (f j)) := by
  unfold strL; rw [List.getElem?_map, List.getElem?_range h]; rfl
theorem strL_one (f : Nat → ByteArray) (n : Nat) : ∀ v ∈ strL f n, v.oneCell' = true := by
  intro v hv; unfold strL at hv; obtain ⟨m, _, rfl⟩ := List.mem_map.1 hv; rfl

/-- The copy of a slice of strings lies there whole. -/
theorem copied {w : World} {g len : Nat} {t : TypeId} {cur : List Value} (f : Nat → ByteArray) (h : w.heap[g]? = some (.cells (splice cur 0 (strL f len)).toArray t (0, 0))) :
    StrsAt w (some ⟨g, 0, none⟩) len f := by
  refine Or.inr ⟨g, 0, rfl, ?_, fun j hj => ?_⟩
  · rcases Nat.lt_or_ge g w.heap.size with hlt | hge
    · exact hlt
    · rw [Array.getElem?_eq_none hge] at h; cases h
  · have e : (splice cur 0 (strL f len))[j]? = some (.string (f j)) := by
      unfold splice
      rw [List.take_zero, List.nil_append, List.getElem?_append_left (by rw [strL_length]; exact hj)]
      exact strL_get f len j hj
    simp [World.cell?, h, e]

set_option maxHeartbeats 1000000 in
theorem accept_nil (w : World) :
    Calls Tryf.prog 4 #[.slice none 0 0] w fun e w' => e = .returned (.bool true) ∧ Below w.heap.size w w' := by
  have q1 := fun (w : World) (a : Option Addr) n c => run_neq_slice_nil_any (P := Tryf.prog) w 22 9 a n c 0 0 Tryf.underlying22
  have q2 := fun (w : World) r => run_neq_map_nil (P := Tryf.prog) w 24 9 20 r Tryf.underlying24
  have q3 := fun (w : World) r => run_eql_map_nil (P := Tryf.prog) w 24 9 20 r Tryf.underlying24
  go_enter Tryf.func4, Tryf.ntmps4
  go_wp2_with fail
  refine (bytes8_all none 0 0 (fun _ => ByteArray.empty) _ (by omega) (by omega) (Or.inl rfl)).mono ?_
  rintro e w1 ⟨⟨β, rfl, hβ⟩, rfl⟩
  clear hβ
  cases β
  · go_wp2_with fail
    go_ret
    exact ⟨rfl, Below.refl _ _⟩
  · go_wp2_with fail
    refine wp_loop_rounds 1 ?_
    rw [rounds_succ]
    go_wp2_with fail
    refine (mapOf_all none 0 0 (fun _ => ByteArray.empty) _ (by omega) (by omega) (Or.inl rfl)).mono ?_
    rintro e w3 ⟨rfl, hm, hb⟩
    go_wp2_with fail
    refine (check_zero _ _ hm).mono ?_
    rintro e w4 ⟨rfl, rfl⟩
    have hl := (mapAt_made w3).len0
    go_wp2_with fail
    refine (check_zero _ _ (mapAt_made w3)).mono ?_
    rintro e w5 ⟨rfl, rfl⟩
    have hl2 := (mapAt_made (w3.alloc (.map #[] 0))).len0
    simp only [World.size_alloc] at hl2
    go_wp2_with fail
    go_ret
    exact ⟨rfl, (hb.alloc hb.size _).alloc (by have := hb.size; simp; omega) _⟩

set_option maxHeartbeats 2000000 in
theorem accept_some (hP : CheckPos) (a : Addr) (len cap : Nat) (f : Nat → ByteArray) (w : World) (hl : len ≤ 140737488355328) (hs : ∀ j < len, (f j).size ≤ 9223372036854775807) (h : StrsAt w (some a) len f) :
    Calls Tryf.prog 4 #[.slice (some a) len cap] w fun e w' => e = .returned (.bool true) ∧ Below w.heap.size w w' := by
  have q1 := fun (w : World) (a : Option Addr) n c => run_neq_slice_nil_any (P := Tryf.prog) w 22 9 a n c 0 0 Tryf.underlying22
  have q2 := fun (w : World) r => run_neq_map_nil (P := Tryf.prog) w 24 9 20 r Tryf.underlying24
  have q3 := fun (w : World) r => run_eql_map_nil (P := Tryf.prog) w 24 9 20 r Tryf.underlying24
  have HSt : Hid (StrsAt w (some a) len f) := h
  have HS : Hid (∀ j < len, (f j).size ≤ 9223372036854775807) := hs
  clear h hs
  go_enter Tryf.func4, Tryf.ntmps4
  go_wp2_with fail
  refine (bytes8_all (some a) len cap f _ (by omega) HS.out HSt.out).mono ?_
  rintro e w1 ⟨⟨β, rfl, hβ⟩, rfl⟩
  cases β
  · clear hβ
    go_wp2_with fail
    go_ret
    exact ⟨rfl, Below.refl _ _⟩
  · obtain ⟨hl1, hsz⟩ := hβ rfl
    have HZ : Hid (∀ j < len, (f j).size ≤ 1048576) := hsz
    clear hβ hsz
    have hmk := fun (w : World) => run_make_row' (P := Tryf.prog) 22 9 (.string ByteArray.empty) 16 Tryf.underlying22 info9 rfl .i64 .i64 len (by omega) (by omega) w
    have HG0 : Hid ((w.alloc (.cells (madeCells #[.string ByteArray.empty] len) 9)).heap[w.heap.size]? = some (.cells (madeCells #[.string ByteArray.empty] len).toList.toArray 9 (0, 0))) := by
      show _ = _
      rw [Array.toArray_toList]; exact (MapKept.heap_alloc w _).1
    have HB0 : Hid (Below w.heap.size w (w.alloc (.cells (madeCells #[.string ByteArray.empty] len) 9))) := (Below.refl _ _).alloc (Nat.le_refl _) _
    go_wp2_with (refine wpList_copy_splice rfl _ _ 22 22 rfl 9 Tryf.underlying22 size9 _ _ _ _ _ _ rfl rfl w.heap.size 0 _ 9 HG0.out (strL f len) ?hn ?hpos ?hfit (strL_one f len) w.heap.size w HB0.out (Nat.le_refl _) ?_)
    case hn => rw [strL_length]; simp
    case hpos =>
      intro hp
      rw [strL_length] at hp
      rcases HSt.out with h0 | ⟨b, off, ha, hbw, hc⟩
      · omega
      · injection ha with ha
        subst ha
        intro j v hj
        have hjl : j < len := by
          have := (List.getElem?_eq_some_iff.1 hj).1
          rw [strL_length] at this; exact this
        rw [strL_get f len j hjl] at hj
        rw [← hj, Addr.add_mid, World.cell?_alloc_lt _ _ _ (by exact hbw)]
        exact hc j hjl
    case hfit => rw [strL_length]; simp [madeCells]
    intro w2 HG2 hB2
    have HA2 : Hid (StrsAt w2 (some ⟨w.heap.size, 0, none⟩) len f) := copied f HG2.out
    have HB2 : Hid (Below w.heap.size w w2) := hB2
    clear hB2 HG2 HG0 HB0 hmk
    go_wp2_with fail
    go_loop [4, 25] (fun t i => ∃ k : Nat, k ≤ len ∧ i = .int .i64 k ∧ ∃ z : Int, t = .int .i64 z ∧ 0 ≤ z ∧ z ≤ 1048576) (fun _ i => len - (intOf i).toNat)
    case atStart => exact ⟨0, by omega, rfl, 0, rfl, by omega, by omega⟩
    case round =>
      obtain ⟨k, hk, rfl, z, rfl, hz0, hz1⟩ := hrel
      by_cases hlt : k < len
      · have hsk := HZ.out k hlt
        have hck : w2.cell? ⟨w.heap.size, 0 + k, none⟩ = some (.string (f k)) := by
          rcases HA2.out with h0 | ⟨b, off, ha, hbw, hc⟩
          · omega
          · injection ha with ha
            injection ha with h1 h2
            subst h1; subst h2
            exact hc k hlt
        rw [Nat.zero_add] at hck
        by_cases h2 : z + (16 + (f k).size) ≤ 1048576
        · go_wp2
          go_round
          case rel => exact ⟨k + 1, by omega, by go_num, _, rfl, by omega, by omega⟩
          case measure => simp [intOf]; omega
        · go_wp2
          go_ret
          exact ⟨rfl, HB2.out⟩
      · by_cases hpos : 0 < len
        · go_wp2_with fail
          refine (mapOf_all _ len len f _ hl1 HZ.out HA2.out).mono ?_
          rintro e w3 ⟨rfl, hm, hb⟩
          have hb3 : Below w.heap.size w w3 := HB2.out.trans (hb.mono HB2.out.size)
          clear hb
          go_wp2_with fail
          refine (hP _ _ _ hm hpos hl1).mono ?_
          rintro e w4 ⟨⟨p, rfl⟩, hb⟩
          have hb4 : Below w.heap.size w w4 := hb3.trans (hb.mono hb3.size)
          clear hb hb3 hm
          go_wp2_with fail
          refine (check_nil _).mono ?_
          rintro e w5 ⟨rfl, rfl⟩
          have hl2 := (mapAt_made w4).len0
          go_wp2_with fail
          go_ret
          exact ⟨rfl, hb4.alloc hb4.size _⟩
        · have hl0 : len = 0 := by omega
          subst hl0
          go_wp2_with fail
          refine (mapOf_all _ 0 0 f _ hl1 HZ.out HA2.out).mono ?_
          rintro e w3 ⟨rfl, hm, hb⟩
          have hb3 : Below w.heap.size w w3 := HB2.out.trans (hb.mono HB2.out.size)
          clear hb
          go_wp2_with fail
          refine (check_zero _ _ hm).mono ?_
          rintro e w4 ⟨rfl, rfl⟩
          have hl2 := (mapAt_made w3).len0
          go_wp2_with fail
          refine (check_zero _ _ (mapAt_made w3)).mono ?_
          rintro e w5 ⟨rfl, rfl⟩
          have hl3 := (mapAt_made (w3.alloc (.map #[] 0))).len0
          simp only [World.size_alloc] at hl3
          go_wp2_with fail
          go_ret
          exact ⟨rfl, (hb3.alloc hb3.size _).alloc (by have := hb3.size; simp; omega) _⟩

end Go.Proofs.Qxb6615135aFmt
