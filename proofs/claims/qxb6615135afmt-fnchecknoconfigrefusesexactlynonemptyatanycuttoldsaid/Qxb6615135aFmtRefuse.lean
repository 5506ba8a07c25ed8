/- The walk of FnCheckNoConfigRefusesExactlyNonEmptyAtAnyCut. -/
import Derived.Test.Qxb6615135aFmtAccept
namespace Go.Proofs.Qxb6615135aFmt
open Go.RowKit Go.WideMaps Go.Maps Go.ChangeMaps

theorem StrsAt.below {w w' : World} {ao : Option Addr} {len : Nat} {f : Nat → ByteArray} (h : StrsAt w ao len f) (hb : Below w.heap.size w w') : StrsAt w' ao len f := by
  rcases h with h | ⟨b, off, ha, hbw, hc⟩
  · exact Or.inl h
  · exact Or.inr ⟨b, off, ha, Nat.lt_of_lt_of_le hbw hb.size, fun j hj => (hb.cell (by exact hbw)).trans (hc j hj)⟩
theorem StrsAt.first {w : World} {ao : Option Addr} {len c : Nat} {f : Nat → ByteArray} (h : StrsAt w ao len f) (hc : c ≤ len) : StrsAt w ao c f := by
  rcases h with h | ⟨b, off, ha, hbw, hcell⟩
  · exact Or.inl (by omega)
  · exact Or.inr ⟨b, off, ha, hbw, fun j hj => hcell j (by omega)⟩
theorem StrsAt.behind {w : World} {g len c : Nat} {f : Nat → ByteArray} (h : StrsAt w (some ⟨g, 0, none⟩) len f) (hc : c ≤ len) : StrsAt w (some ⟨g, c, none⟩) (len - c) (fun j => f (c + j)) := by
  rcases h with h | ⟨b, off, ha, hbw, hcell⟩
  · exact Or.inl (by omega)
  · injection ha with ha
    injection ha with h1 h2
    subst h1; subst h2
    refine Or.inr ⟨g, c, rfl, hbw, fun j hj => ?_⟩
    have := hcell (c + j) (by omega)
    rwa [Nat.zero_add] at this

theorem MapAt.below {w w' : World} {b n : Nat} (h : MapAt w b n) (hb : Below w.heap.size w w') (hlt : b < w.heap.size) : MapAt w' b n := by
  obtain ⟨D, ⟨es, clock, hbk, F, hs, hD⟩, hp⟩ := h
  exact ⟨D, ⟨es, clock, (hb.block b hlt).trans hbk, F, hs, hD⟩, hp⟩

set_option maxHeartbeats 4000000 in
theorem refuse_some (hP : CheckPos) (a : Addr) (len cap : Nat) (f : Nat → ByteArray) (cut : Int) (w : World) (hl : len ≤ 140737488355328) (hs : ∀ j < len, (f j).size ≤ 9223372036854775807) (h : StrsAt w (some a) len f) :
    Calls Tryf.prog 3 #[.slice (some a) len cap, .int .i64 cut] w fun e w' => e = .returned (.bool true) ∧ Below w.heap.size w w' := by
  have q1 := fun (w : World) (a : Option Addr) n c => run_neq_slice_nil_any (P := Tryf.prog) w 22 9 a n c 0 0 Tryf.underlying22
  have q2 := fun (w : World) r => run_neq_map_nil (P := Tryf.prog) w 24 9 20 r Tryf.underlying24
  have q3 := fun (w : World) r => run_eql_map_nil (P := Tryf.prog) w 24 9 20 r Tryf.underlying24
  have HSt : Hid (StrsAt w (some a) len f) := h
  have HS : Hid (∀ j < len, (f j).size ≤ 9223372036854775807) := hs
  clear h hs
  go_enter Tryf.func3, Tryf.ntmps3
  go_wp2_with fail
  refine (bytes5_all (some a) len cap f cut _ (by omega) HS.out HSt.out).mono ?_
  rintro e w1 ⟨⟨β, rfl, hβ⟩, rfl⟩
  cases β
  · clear hβ
    go_wp2_with fail
    go_ret
    exact ⟨rfl, Below.refl _ _⟩
  · obtain ⟨hl1, hsz⟩ := hβ rfl
    have HZ : Hid (∀ j < len, (f j).size ≤ 1048576) := hsz
    clear hβ hsz
    have hmk := fun (w : World) => run_make_row' (P := Tryf.prog) 22 9 (.string ByteArray.empty) 16 Tryf.underlying22 info9 rfl .i64 .i64 len (by omega) (by omega) w
    have HG0 : Hid ((w.alloc (.cells (madeCells #[.string ByteArray.empty] len) 9)).heap[w.heap.size]? = some (.cells (madeCells #[.string ByteArray.empty] len).toList.toArray 9 (0, 0))) := by
      show _ = _
      rw [Array.toArray_toList]; exact (MapKept.heap_alloc w _).1
    have HB0 : Hid (Below w.heap.size w (w.alloc (.cells (madeCells #[.string ByteArray.empty] len) 9))) := (Below.refl _ _).alloc (Nat.le_refl _) _
    go_wp2_with (refine wpList_copy_splice rfl _ _ 22 22 rfl 9 Tryf.underlying22 size9 _ _ _ _ _ _ rfl rfl w.heap.size 0 _ 9 HG0.out (strL f len) ?hn ?hpos ?hfit (strL_one f len) w.heap.size w HB0.out (Nat.le_refl _) ?_)
    case hn => rw [strL_length]; simp
    case hpos =>
      intro hp
      rw [strL_length] at hp
      rcases HSt.out with h0 | ⟨b, off, ha, hbw, hc⟩
      · omega
      · injection ha with ha
        subst ha
        intro j v hj
        have hjl : j < len := by
          have := (List.getElem?_eq_some_iff.1 hj).1
          rw [strL_length] at this; exact this
        rw [strL_get f len j hjl] at hj
        rw [← hj, Addr.add_mid, World.cell?_alloc_lt _ _ _ (by exact hbw)]
        exact hc j hjl
    case hfit => rw [strL_length]; simp [madeCells]
    intro w2 HG2 hB2
    have HA2 : Hid (StrsAt w2 (some ⟨w.heap.size, 0, none⟩) len f) := copied f HG2.out
    have HB2 : Hid (Below w.heap.size w w2) := hB2
    clear hB2 HG2 HG0 HB0 hmk
    go_wp2_with fail
    go_loop [6, 31] (fun t i => ∃ k : Nat, k ≤ len ∧ i = .int .i64 k ∧ ∃ z : Int, t = .int .i64 z ∧ 0 ≤ z ∧ z ≤ 1048576) (fun _ i => len - (intOf i).toNat)
    case atStart => exact ⟨0, by omega, rfl, 0, rfl, by omega, by omega⟩
    case round =>
      obtain ⟨k, hk, rfl, z, rfl, hz0, hz1⟩ := hrel
      by_cases hlt : k < len
      · have hsk := HZ.out k hlt
        have hck : w2.cell? ⟨w.heap.size, 0 + k, none⟩ = some (.string (f k)) := by
          rcases HA2.out with h0 | ⟨b, off, ha, hbw, hc⟩
          · omega
          · injection ha with ha
            injection ha with h1 h2
            subst h1; subst h2
            exact hc k hlt
        rw [Nat.zero_add] at hck
        by_cases h2 : z + (16 + (f k).size) ≤ 1048576
        · go_wp2
          go_round
          case rel => exact ⟨k + 1, by omega, by go_num, _, rfl, by omega, by omega⟩
          case measure => simp [intOf]; omega
        · go_wp2
          go_ret
          exact ⟨rfl, HB2.out⟩
      · by_cases c0 : cut < 0
        · go_wp2
          go_ret
          exact ⟨rfl, HB2.out⟩
        · by_cases c1 : (len : Int) < cut
          · go_wp2
            go_ret
            exact ⟨rfl, HB2.out⟩
          · obtain ⟨c, rfl⟩ := Int.eq_ofNat_of_zero_le (show 0 ≤ cut by omega)
            have hc : c ≤ len := by omega
            by_cases hpos : 0 < len
            · go_wp2_with fail
              refine (mapOf_all _ len len f _ hl1 HZ.out HA2.out).mono ?_
              rintro e w3 ⟨rfl, hm, hb3⟩
              go_wp2_with fail
              refine (hP _ _ _ hm hpos hl1).mono ?_
              rintro e w4 ⟨⟨p, rfl⟩, hb⟩
              have HB4 : Hid (Below w2.heap.size w2 w4) := hb3.trans (hb.mono hb3.size)
              clear hb hb3 hm
              by_cases h0 : c = 0
              · subst h0
                go_wp2_with fail
                refine (mapOf_all _ 0 len f _ (by omega) (by omega) (Or.inl rfl)).mono ?_
                rintro e w5 ⟨rfl, hm, hb5⟩
                go_wp2_with fail
                refine (check_zero _ _ hm).mono ?_
                rintro e w6 ⟨rfl, hw6⟩
                have HB6 : Hid (Below w2.heap.size w2 w6) := by
                  rw [hw6]
                  exact HB4.out.trans ((hb5.alloc hb5.size _).mono HB4.out.size)
                clear hb5 hm hw6
                go_wp2_with fail
                refine (mapOf_all _ (len) (len) (fun j => f j) _ (by omega) (fun j hj => HZ.out j hj) ((HA2.out.below HB6.out))).mono ?_
                rintro e w7 ⟨rfl, hm, hb7⟩
                go_wp2_with fail
                refine (hP _ _ _ hm (by omega) (by omega)).mono ?_
                rintro e w8 ⟨⟨p8, rfl⟩, hb⟩
                have HB8 : Hid (Below w.heap.size w w8) := HB2.out.trans ((HB6.out.trans ((hb7.trans (hb.mono hb7.size)).mono HB6.out.size)).mono HB2.out.size)
                clear hb hb7 hm
                go_wp2
                go_ret
                exact ⟨rfl, HB8.out⟩
              · by_cases h1 : c = len
                · subst h1
                  go_wp2_with fail
                  refine (mapOf_all _ c c f _ (by omega) (fun j hj => HZ.out j (by omega)) ((HA2.out.below HB4.out).first (Nat.le_refl _))).mono ?_
                  rintro e w5 ⟨rfl, hm, hb5⟩
                  go_wp2_with fail
                  refine (hP _ _ _ hm (by omega) (by omega)).mono ?_
                  rintro e w6 ⟨⟨p6, rfl⟩, hb⟩
                  have HB6 : Hid (Below w2.heap.size w2 w6) := HB4.out.trans ((hb5.trans (hb.mono hb5.size)).mono HB4.out.size)
                  clear hb hb5 hm
                  go_wp2_with fail
                  refine (mapOf_all _ 0 _ f _ (by omega) (by omega) (Or.inl rfl)).mono ?_
                  rintro e w7 ⟨rfl, hm, hb7⟩
                  go_wp2_with fail
                  refine (check_zero _ _ hm).mono ?_
                  rintro e w8 ⟨rfl, hw8⟩
                  have HB8 : Hid (Below w.heap.size w w8) := by
                    rw [hw8]
                    exact HB2.out.trans ((HB6.out.trans ((hb7.alloc hb7.size _).mono HB6.out.size)).mono HB2.out.size)
                  clear hb7 hm hw8
                  go_wp2
                  go_ret
                  exact ⟨rfl, HB8.out⟩
                · have hcl : c < len := by omega
                  go_wp2_with fail
                  refine (mapOf_all _ c len f _ (by omega) (fun j hj => HZ.out j (by omega)) ((HA2.out.below HB4.out).first hc)).mono ?_
                  rintro e w5 ⟨rfl, hm, hb5⟩
                  go_wp2_with fail
                  refine (hP _ _ _ hm (by omega) (by omega)).mono ?_
                  rintro e w6 ⟨⟨p6, rfl⟩, hb⟩
                  have HB6 : Hid (Below w2.heap.size w2 w6) := HB4.out.trans ((hb5.trans (hb.mono hb5.size)).mono HB4.out.size)
                  clear hb hb5 hm
                  go_wp2_with fail
                  refine (mapOf_all _ (len - c) (len - c) (fun j => f (c + j)) _ (by omega) (fun j hj => HZ.out (c + j) (by omega)) ((HA2.out.below HB6.out).behind (by omega))).mono ?_
                  rintro e w7 ⟨rfl, hm, hb7⟩
                  go_wp2_with fail
                  refine (hP _ _ _ hm (by omega) (by omega)).mono ?_
                  rintro e w8 ⟨⟨p8, rfl⟩, hb⟩
                  have HB8 : Hid (Below w.heap.size w w8) := HB2.out.trans ((HB6.out.trans ((hb7.trans (hb.mono hb7.size)).mono HB6.out.size)).mono HB2.out.size)
                  clear hb hb7 hm
                  go_wp2
                  go_ret
                  exact ⟨rfl, HB8.out⟩
            · have hl0 : len = 0 := by omega
              subst hl0
              have hc0 : c = 0 := by omega
              subst hc0
              go_wp2_with fail
              refine (mapOf_all _ 0 0 f _ (by omega) (by omega) (Or.inl rfl)).mono ?_
              rintro e w3 ⟨rfl, hm, hb3⟩
              go_wp2_with fail
              refine (check_zero _ _ hm).mono ?_
              rintro e w4 ⟨rfl, hw4⟩
              have HM4 : Hid (MapAt w4 w3.heap.size 0) := by rw [hw4]; exact mapAt_made w3
              have HB4 : Hid (Below w2.heap.size w2 w4) := by rw [hw4]; exact hb3.alloc hb3.size _
              have h34 : w3.heap.size < w4.heap.size := by rw [hw4]; simp
              clear hb3 hm hw4
              go_wp2_with fail
              refine (mapOf_all _ 0 0 f _ (by omega) (by omega) (Or.inl rfl)).mono ?_
              rintro e w5 ⟨rfl, hm, hb5⟩
              go_wp2_with fail
              refine (check_zero _ _ hm).mono ?_
              rintro e w6 ⟨rfl, hw6⟩
              have HB46 : Hid (Below w4.heap.size w4 w6) := by rw [hw6]; exact hb5.alloc hb5.size _
              have HM6 : Hid (MapAt w6 w5.heap.size 0) := by rw [hw6]; exact mapAt_made w5
              have h56 : w5.heap.size < w6.heap.size := by rw [hw6]; simp
              clear hb5 hm hw6
              go_wp2_with fail
              refine (mapOf_all _ 0 0 f _ (by omega) (by omega) (Or.inl rfl)).mono ?_
              rintro e w7 ⟨rfl, hm, hb7⟩
              go_wp2_with fail
              refine (check_zero _ _ hm).mono ?_
              rintro e w8 ⟨rfl, hw8⟩
              have HB68 : Hid (Below w6.heap.size w6 w8) := by rw [hw8]; exact hb7.alloc hb7.size _
              have hM8 : MapAt w8 w7.heap.size 0 := by rw [hw8]; exact mapAt_made w7
              have hM6 : MapAt w8 w5.heap.size 0 := HM6.out.below HB68.out h56
              have hM4 : MapAt w8 w3.heap.size 0 := (HM4.out.below HB46.out h34).below HB68.out (Nat.lt_of_lt_of_le h34 HB46.out.size)
              have l8 := hM8.len0
              have l6 := hM6.len0
              have l4 := hM4.len0
              have HB8 : Hid (Below w.heap.size w w8) := HB2.out.trans ((HB4.out.trans ((HB46.out.trans (HB68.out.mono HB46.out.size)).mono HB4.out.size)).mono HB2.out.size)
              clear hb7 hm hw8 hM8 hM6 hM4
              go_wp2
              go_ret
              exact ⟨rfl, HB8.out⟩

set_option maxHeartbeats 2000000 in
theorem refuse_nil (cut : Int) (w : World) :
    Calls Tryf.prog 3 #[.slice none 0 0, .int .i64 cut] w fun e w' => e = .returned (.bool true) ∧ Below w.heap.size w w' := by
  have q1 := fun (w : World) (a : Option Addr) n c => run_neq_slice_nil_any (P := Tryf.prog) w 22 9 a n c 0 0 Tryf.underlying22
  have q2 := fun (w : World) r => run_neq_map_nil (P := Tryf.prog) w 24 9 20 r Tryf.underlying24
  have q3 := fun (w : World) r => run_eql_map_nil (P := Tryf.prog) w 24 9 20 r Tryf.underlying24
  go_enter Tryf.func3, Tryf.ntmps3
  go_wp2_with fail
  refine (bytes5_all none 0 0 (fun _ => ByteArray.empty) cut _ (by omega) (by omega) (Or.inl rfl)).mono ?_
  rintro e w1 ⟨⟨β, rfl, hβ⟩, rfl⟩
  clear hβ
  cases β
  · go_wp2_with fail
    go_ret
    exact ⟨rfl, Below.refl _ _⟩
  · go_wp2_with fail
    refine wp_loop_rounds 1 ?_
    rw [rounds_succ]
    by_cases c0 : cut < 0
    · go_wp2
      go_ret
      exact ⟨rfl, Below.refl _ _⟩
    · by_cases c1 : 0 < cut
      · go_wp2
        go_ret
        exact ⟨rfl, Below.refl _ _⟩
      have hc0 : cut = 0 := by omega
      subst hc0
      go_wp2_with fail
      refine (mapOf_all _ 0 0 (fun _ => ByteArray.empty) _ (by omega) (by omega) (Or.inl rfl)).mono ?_
      rintro e w3 ⟨rfl, hm, hb3⟩
      go_wp2_with fail
      refine (check_zero _ _ hm).mono ?_
      rintro e w4 ⟨rfl, hw4⟩
      have HM4 : Hid (MapAt w4 w3.heap.size 0) := by rw [hw4]; exact mapAt_made w3
      have HB4 : Hid (Below w.heap.size w w4) := by rw [hw4]; exact hb3.alloc hb3.size _
      have h34 : w3.heap.size < w4.heap.size := by rw [hw4]; simp
      clear hb3 hm hw4
      go_wp2_with fail
      refine (mapOf_all _ 0 0 (fun _ => ByteArray.empty) _ (by omega) (by omega) (Or.inl rfl)).mono ?_
      rintro e w5 ⟨rfl, hm, hb5⟩
      go_wp2_with fail
      refine (check_zero _ _ hm).mono ?_
      rintro e w6 ⟨rfl, hw6⟩
      have HB46 : Hid (Below w4.heap.size w4 w6) := by rw [hw6]; exact hb5.alloc hb5.size _
      have HM6 : Hid (MapAt w6 w5.heap.size 0) := by rw [hw6]; exact mapAt_made w5
      have h56 : w5.heap.size < w6.heap.size := by rw [hw6]; simp
      clear hb5 hm hw6
      go_wp2_with fail
      refine (mapOf_all _ 0 0 (fun _ => ByteArray.empty) _ (by omega) (by omega) (Or.inl rfl)).mono ?_
      rintro e w7 ⟨rfl, hm, hb7⟩
      go_wp2_with fail
      refine (check_zero _ _ hm).mono ?_
      rintro e w8 ⟨rfl, hw8⟩
      have HB68 : Hid (Below w6.heap.size w6 w8) := by rw [hw8]; exact hb7.alloc hb7.size _
      have hM8 : MapAt w8 w7.heap.size 0 := by rw [hw8]; exact mapAt_made w7
      have hM6 : MapAt w8 w5.heap.size 0 := HM6.out.below HB68.out h56
      have hM4 : MapAt w8 w3.heap.size 0 := (HM4.out.below HB46.out h34).below HB68.out (Nat.lt_of_lt_of_le h34 HB46.out.size)
      have l8 := hM8.len0
      have l6 := hM6.len0
      have l4 := hM4.len0
      have HB8 : Hid (Below w.heap.size w w8) := HB4.out.trans ((HB46.out.trans (HB68.out.mono HB46.out.size)).mono HB4.out.size)
      clear hb7 hm hw8 hM8 hM6 hM4
      go_wp2
      go_ret
      exact ⟨rfl, HB8.out⟩

end Go.Proofs.Qxb6615135aFmt
