/- The contracts in one form: a slice of strings that lies somewhere, or has no element. CheckNoConfig at an empty map. -/
import Derived.Test.Qxb6615135aFmtBytes
import Derived.Test.Qxb6615135aFmtMap
namespace Go.Proofs.Qxb6615135aFmt
open Go.RowKit Go.WideMaps Go.Maps Go.ChangeMaps

/-- The slice (ao, len) holds the strings f 0 .. in w. -/
def StrsAt (w : World) (ao : Option Addr) (len : Nat) (f : Nat → ByteArray) : Prop :=
  len = 0 ∨ ∃ b off, ao = some ⟨b, off, none⟩ ∧ b < w.heap.size ∧ ∀ j < len, w.cell? ⟨b, off + j, none⟩ = some (.string (f j))

theorem bytes8_all (ao : Option Addr) (len cap : Nat) (f : Nat → ByteArray) (w : World) (hl : len ≤ 1152921504606846976) (hs : ∀ j < len, (f j).size ≤ 9223372036854775807) (h : StrsAt w ao len f) :
    Calls Tryf.prog 8 #[.slice ao len cap] w fun e w' => BytesAns len f e ∧ w = w' := by
  rcases h with rfl | ⟨b, off, rfl, _, hc⟩
  · exact (bytes8_none ao cap f w).mono fun _ _ h => ⟨h.1, h.2.symm⟩
  · exact (bytes8 b off len cap f w hl hc hs).mono fun _ _ h => ⟨h.1, h.2.symm⟩
theorem bytes5_all (ao : Option Addr) (len cap : Nat) (f : Nat → ByteArray) (cut : Int) (w : World) (hl : len ≤ 1152921504606846976) (hs : ∀ j < len, (f j).size ≤ 9223372036854775807) (h : StrsAt w ao len f) :
    Calls Tryf.prog 5 #[.slice ao len cap, .int .i64 cut] w fun e w' => BytesAns len f e ∧ w = w' := by
  rcases h with rfl | ⟨b, off, rfl, _, hc⟩
  · exact (bytes5_none ao cap f cut w).mono fun _ _ h => ⟨h.1, h.2.symm⟩
  · exact (bytes5 b off len cap f cut w hl hc hs).mono fun _ _ h => ⟨h.1, h.2.symm⟩

/-- In w' block b is a map of n entries at most, with an entry just where n is not 0. -/
def MapAt (w : World) (b n : Nat) : Prop := ∃ D, w.ownsMap Tryf.prog 9 R0 b n D ∧ (0 < n → 0 < Maps.size D)

theorem MapAt.zero {w : World} {b : Nat} (h : MapAt w b 0) : ∃ D, w.ownsMap Tryf.prog 9 R0 b 0 D ∧ Maps.size D = 0 := by
  obtain ⟨D, h1, _⟩ := h
  exact ⟨D, h1, Nat.le_zero.1 h1.size_le⟩

theorem mapOf_all (ao : Option Addr) (len cap : Nat) (f : Nat → ByteArray) (w : World) (hl : len ≤ 1048576) (hsz : ∀ j < len, (f j).size ≤ 1048576) (h : StrsAt w ao len f) :
    Calls Tryf.prog 7 #[.slice ao len cap] w fun e w' => e = .returned (.map (some w.heap.size)) ∧ MapAt w' w.heap.size len ∧ Below w.heap.size w w' := by
  rcases h with rfl | ⟨b, off, rfl, hb, hc⟩
  · refine (mapOf_none ao cap w).mono ?_
    rintro e w' ⟨rfl, h1, h2⟩
    exact ⟨rfl, ⟨_, h1, by omega⟩, h2⟩
  · exact mapOf_any b off len cap f w hl hb hc hsz

set_option maxHeartbeats 400000 in
theorem check_nil (w : World) :
    Calls Tryf.prog 6 #[.map none] w fun e w' => e = .returned (.tuple #[.map (some w.heap.size), .nilIface]) ∧ w' = w.alloc (.map #[] 0) := by
  have hmm := @run_makeMap Tryf.prog
  have hln := fun ty => len_nil (P := Tryf.prog) (w := w) Tryf.underlying24 ty
  go_enter Tryf.func6, Tryf.ntmps6
  go_wp2
  go_ret2
  exact ⟨rfl, rfl⟩

set_option maxHeartbeats 400000 in
theorem check_zero (b : Nat) (w : World) (h : MapAt w b 0) :
    Calls Tryf.prog 6 #[.map (some b)] w fun e w' => e = .returned (.tuple #[.map (some w.heap.size), .nilIface]) ∧ w' = w.alloc (.map #[] 0) := by
  obtain ⟨D, hown, hz⟩ := h.zero
  have hln := fun ty => hown.len Tryf.underlying24 ty
  rw [hz] at hln
  have hmm := @run_makeMap Tryf.prog
  clear h hown hz
  go_enter Tryf.func6, Tryf.ntmps6
  go_wp2
  go_ret2
  exact ⟨rfl, rfl⟩

theorem mapAt_made (w : World) : MapAt (w.alloc (.map #[] 0)) w.heap.size 0 := ⟨_, World.ownsMap_made _ _ _ _, by omega⟩

theorem MapAt.len0 {w : World} {b : Nat} (h : MapAt w b 0) (ty : TypeId) : (Builtin.len_ #[24] ty #[.map (some b)]).run Tryf.prog w = .ok (.int .i64 0) w := by
  obtain ⟨D, hown, hz⟩ := h.zero
  have hln := hown.len Tryf.underlying24 ty
  rw [hz] at hln
  exact hln

end Go.Proofs.Qxb6615135aFmt
