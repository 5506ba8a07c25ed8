/- The walk of ZZmapOf. -/
import Derived.Test.Qxb6615135aFmtRows
import Derived.WalkKit
import Derived.WalkSpells
import Derived.ProofKit
import Derived.Maps.OwnSet
namespace Go.Proofs.Qxb6615135aFmt
open Go.RowKit Go.WideMaps Go.Maps Go.ChangeMaps

/-- How an element reads here: never looked into. -/
def R0 : Value → Option (DataW Unit × List MemPlace) := fun _ => some (.lit (.bool true), [])

theorem law : Keyed Tryf.prog 9 := string_keyed Tryf.underlying9

theorem size_put {w : World} {b n : Nat} {D : DataW Unit} (h : w.ownsMap Tryf.prog 9 R0 b n D) (kl : Lit) (d : DataW Unit) : 0 < Maps.size (D.put kl d) := by
  obtain ⟨es, clock, _, _, _, rfl⟩ := h
  rw [DataW.put_eq]
  unfold putKey
  simp [Maps.size, length_insert]

set_option maxRecDepth 100000 in
theorem mapOf_none (a : Option Addr) (cap : Nat) (w : World) :
    Calls Tryf.prog 7 #[.slice a 0 cap] w fun e w' => e = .returned (.map (some w.heap.size)) ∧ w'.ownsMap Tryf.prog 9 R0 w.heap.size 0 (.map []) ∧ Below w.heap.size w w' := by
  have hmm := @run_makeMap Tryf.prog
  go_enter Tryf.func7, Tryf.ntmps7
  go_wp2
  refine wp_loop_rounds 1 ?_
  rw [rounds_succ]
  go_wp2
  go_ret
  exact ⟨rfl, World.ownsMap_made _ _ _ _, (Below.refl _ _).alloc (Nat.le_refl _) _⟩

set_option maxRecDepth 100000 in
set_option maxHeartbeats 1000000 in
theorem mapOf_any (b off len cap : Nat) (f : Nat → ByteArray) (w : World) (hl : len ≤ 1048576) (hb : b < w.heap.size)
    (hc : ∀ j < len, w.cell? ⟨b, off + j, none⟩ = some (.string (f j))) (hsz : ∀ j < len, (f j).size ≤ 1048576) :
    Calls Tryf.prog 7 #[.slice (some ⟨b, off, none⟩) len cap] w fun e w' => e = .returned (.map (some w.heap.size)) ∧ (∃ D, w'.ownsMap Tryf.prog 9 R0 w.heap.size len D ∧ (0 < len → 0 < Maps.size D)) ∧ Below w.heap.size w w' := by
  have hmm := @run_makeMap Tryf.prog
  go_enter Tryf.func7, Tryf.ntmps7
  go_wp2
  go_loopw [9] (fun i wr => ∃ k : Nat, k ≤ len ∧ i = .int .i64 k ∧ (∃ D, wr.ownsMap Tryf.prog 9 R0 w.heap.size k D ∧ (0 < k → 0 < Maps.size D)) ∧ Below w.heap.size w wr)
    (fun i _ => len - (intOf i).toNat)
  case atStart => exact ⟨0, Nat.zero_le _, rfl, ⟨.map [], World.ownsMap_made _ _ _ _, by omega⟩, (Below.refl _ _).alloc (Nat.le_refl _) _⟩
  case round =>
    obtain ⟨k, hk, rfl, ⟨D, hown, hpos⟩, hnx⟩ := hrel
    by_cases hlt : k < len
    · have hcx : wr.cell? ⟨b, off + k, none⟩ = some (.string (f k)) := (hnx.cell (by exact hb)).trans (hc k hlt)
      have hkey : keyOf Tryf.prog 9 (.string (f k)) = some (.string (f k).data.toList) := keyOf_string_mk Tryf.underlying9 (Nat.le_trans (hsz k hlt) (by decide))
      have HO : Hid (wr.ownsMap Tryf.prog 9 R0 w.heap.size k D) := hown
      have HN : Hid (Below w.heap.size w wr) := hnx
      have HK : Hid (keyOf Tryf.prog 9 (.string (f k)) = some (.string (f k).data.toList)) := hkey
      clear hc hsz hkey hown hnx hpos
      go_wp2_with (first
        | (at_mapUpdate; refine wpList_mapUpdate_own _ rfl _ _ _ 24 rfl 9 20 law Tryf.underlying24 R0 w.heap.size k D rfl HO.out (by unfold maxLen; omega) _ _ _ rfl rfl HK.out (.lit (.bool true)) [] rfl ?_)
        | go_in)
      intro w1 hown1 hgrow1
      have R2 := HN.out.grown hgrow1 HN.out.size (fun j hj => by cases hj; exact Nat.le_refl _)
      have R1 : Hid (∃ D, w1.ownsMap Tryf.prog 9 R0 w.heap.size (k + 1) D ∧ (0 < k + 1 → 0 < Maps.size D)) := ⟨_, hown1, fun _ => size_put HO.out _ _⟩
      have R2' : Hid (Below w.heap.size w w1) := R2
      clear hown1 hgrow1 hcx R2
      go_wp2
      go_roundw
      case rel => exact ⟨k + 1, by omega, by go_num, R1.out, R2'.out⟩
      case measure => simp [intOf]; omega
    · have hk' : k = len := by omega
      subst hk'
      have HO : Hid (∃ D, wr.ownsMap Tryf.prog 9 R0 w.heap.size k D ∧ (0 < k → 0 < Maps.size D)) := ⟨D, hown, hpos⟩
      have HN : Hid (Below w.heap.size w wr) := hnx
      clear hown hnx hpos hc hsz
      go_wp2
      go_ret
      exact ⟨rfl, HO.out, HN.out⟩

end Go.Proofs.Qxb6615135aFmt
