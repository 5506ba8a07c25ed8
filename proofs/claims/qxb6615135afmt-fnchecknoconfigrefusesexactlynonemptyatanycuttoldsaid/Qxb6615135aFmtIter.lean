/-
  DERIVED. MADE BY PROGRAM (lay-iter.mjs) off qxb6615135afmt.cut.gsa: THE SHELF's CONTRACTS ON 'slices.Sorted(maps.Keys(m))' LAID AT THIS DUMP: 1 map type. NO WALK OF THE LIBRARY's TEXT: each is one application of a contract over any P and ρ (Derived/Shelf/SlIter/, Derived/Shelf/SortM/).
-/
import Derived.Shelf.SlIter.Nil
import Derived.Shelf.SortM.Plain
import Derived.Shelf.SortM.SortNone
import Derived.Ground.GgzProg
import Derived.Ground.SlgmProg
import Derived.Test.Qxb6615135aFmtProg
namespace Go.Proofs
open Go.RowKit Go.Maps Go.Sort Go.Shelf

-- maps.Keys[map[string]interface{},string,interface{}] (function 11; its iterator 16) · slices.Sorted[string] (10) · slices.Sort[[]string,string] (15) · the map's type 24, the keys' 9
shelf_lay_g SlLaysZ.n7 Ggz 7 at Tryf 11 as Tryf.keys11
shelf_lay_g SlLaysZ.n6 Ggz 6 at Tryf 10 as Tryf.sorted10
shelf_lay_g SlLaysM.n6 Slgm 6 at Tryf 15 as Tryf.sort15

/-- slices.Sort's two contracts at this dump, at the fence that asks nothing. -/
theorem Tryf.sorts10 (m : Nat) : AnyZ.SortsIn Tryf.prog Tryf.sorted10_ren Fence.wide m :=
  ⟨fun blk off cap ss W hH hblk hsz => callsIn_wide.2 (AnyM.slices_Sort_string Tryf.sort15 blk off cap ss W hH hblk hsz),
   fun p cap W => callsIn_wide.2 (AnyM.slices_Sort_string_none Tryf.sort15 p cap W)⟩

/-- **maps.Keys[map[string]interface{},string,interface{}], at whatever map, the nil one too:** a function value over ONE NEW BLOCK, which holds the map. -/
theorem Tryf.maps_Keys_11 (mb : Option Nat) (W : World) : CallsIn Fence.wide 5 Tryf.prog 11 #[.map mb] W fun e w' => e = .returned (.func (.func 16) #[] #[.pointer (some ⟨W.heap.size, 0, none⟩)]) ∧ w' = W.alloc (.cells #[.map mb] 24) :=
  AnyZ.keys_in Tryf.keys11 Fence.wide 5 trivial rfl mb W

set_option maxHeartbeats 1000000 in
/-- **slices.Sorted[string] AT WHAT maps.Keys[map[string]interface{},string,interface{}] HANDED BACK FOR A MAP THAT IS NOT nil** ('w': the world AHEAD of maps.Keys' call): A NEW SLICE THAT HOLDS THE MAP's KEYS, SORTED; nil just where it has none; nothing that lay before has turned. -/
theorem Tryf.slices_Sorted_keys_10_11 {H : Type} (b nn : Nat) (D0 : DataW H) (R : Value → Option (DataW H × List MemPlace)) (w : World) (hown : w.ownsMap Tryf.prog 9 R b nn D0) (hmax : Maps.size D0 ≤ maxLen) (hbytes : Maps.size D0 * 16 ≤ 140737488355328) :
    CallsIn Fence.wide 5 Tryf.prog 10 #[.func (.func 16) #[] #[.pointer (some ⟨w.heap.size, 0, none⟩)]] (w.alloc (.cells #[.map (some b)] 24)) fun e w' => ∃ (v : Value) (ss : List (List UInt8)), e = .returned v ∧ ss.Perm (strKeys D0) ∧
      w'.ownsRow (w.alloc (.cells #[.map (some b)] 24)).heap.size 9 1 v ss.length ((ss.mergeSort (fun x y => decide (x ≤ y))).map encStr) ∧ (v = .slice none 0 0 ↔ ss = []) ∧ Below (w.alloc (.cells #[.map (some b)] 24)).heap.size (w.alloc (.cells #[.map (some b)] 24)) w' := by
  have hbl := hown.lt
  have hseq : SeqGives Fence.wide 2 Tryf.prog 16 #[.pointer (some ⟨w.heap.size, 0, none⟩)] encStr (fun ss => ss.Perm (strKeys D0)) (Maps.size D0) (w.alloc (.cells #[.map (some b)] 24)) :=
    AnyZ.keys_gives (ρ := Tryf.keys11_ren) { Tryf.keys11 with } Fence.wide _ trivial rfl (by omega) w.heap.size b nn D0 _ (by simp) (by simp) (by
      obtain ⟨es, clock, hb, Ft, hs, hD⟩ := hown
      exact ⟨es, clock, (Below.heap_alloc _ _ b hbl).trans hb, Ft, hs, hD⟩)
  exact AnyZ.sorted_in Tryf.sorted10 Fence.wide 5 trivial trivial trivial trivial rfl (by omega) (Tryf.sorts10 _) (enters_of Tryf.func15 (by kernel_rfl) rfl) 16 #[.pointer (some ⟨w.heap.size, 0, none⟩)] trivial (enters_of Tryf.func16 (by kernel_rfl) rfl) _ _ hmax hbytes _ hseq

set_option maxHeartbeats 1000000 in
/-- **.. AND FOR THE nil MAP: nil.** -/
theorem Tryf.slices_Sorted_keys_nil_10_11 (w : World) :
    CallsIn Fence.wide 5 Tryf.prog 10 #[.func (.func 16) #[] #[.pointer (some ⟨w.heap.size, 0, none⟩)]] (w.alloc (.cells #[.map none] 24)) fun e w' => ∃ (v : Value) (ss : List (List UInt8)), e = .returned v ∧ ss = [] ∧
      w'.ownsRow (w.alloc (.cells #[.map none] 24)).heap.size 9 1 v ss.length ((ss.mergeSort (fun x y => decide (x ≤ y))).map encStr) ∧ (v = .slice none 0 0 ↔ ss = []) ∧ Below (w.alloc (.cells #[.map none] 24)).heap.size (w.alloc (.cells #[.map none] 24)) w' := by
  have hseq : SeqGives Fence.wide 2 Tryf.prog 16 #[.pointer (some ⟨w.heap.size, 0, none⟩)] encStr (fun ss : List (List UInt8) => ss = []) 0 (w.alloc (.cells #[.map none] 24)) :=
    AnyZ.keys_gives_nil (ρ := Tryf.keys11_ren) { Tryf.keys11 with } Fence.wide _ trivial rfl w.heap.size _ (by simp) (by simp)
  exact AnyZ.sorted_in Tryf.sorted10 Fence.wide 5 trivial trivial trivial trivial rfl (by omega) (Tryf.sorts10 _) (enters_of Tryf.func15 (by kernel_rfl) rfl) 16 #[.pointer (some ⟨w.heap.size, 0, none⟩)] trivial (enters_of Tryf.func16 (by kernel_rfl) rfl) _ 0 (Nat.zero_le _) (by omega) _ hseq

-- THE CALLER's WALK over 'slices.Sorted(maps.Keys(m))' (inside '(callsIn_wide (n := 6)).1'; 'have hfK : Fence.wide.fn 11 := trivial', 'have hfS : Fence.wide.fn 10 := trivial' ahead): THE TWO ARMS TO PASTE:
--   gi_wp2_with (first
--     | (gi_at_call 11; refine (Tryf.maps_Keys_11 _ _).mono ?_; rintro e w' ⟨rfl, rfl⟩)
--     | (gi_at_call 10; refine (Tryf.slices_Sorted_keys_10_11 b nn D0 R w hown hmax hbytes).mono ?_; rintro e w' ⟨v, ss, rfl, hS, hrow, hnil, hb⟩))


end Go.Proofs
