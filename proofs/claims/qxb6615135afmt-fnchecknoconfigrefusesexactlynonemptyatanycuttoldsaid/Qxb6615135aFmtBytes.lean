/- The walks of the two length bounds. -/
import Derived.Test.Qxb6615135aFmtRows
import Derived.WalkKit
import Derived.WalkSpells
import Derived.ProofKit
namespace Go.Proofs.Qxb6615135aFmt
open Go.RowKit

/-- What the bound answers: a bool; true only where all is short. -/
def BytesAns (len : Nat) (f : Nat → ByteArray) (e : Ending) : Prop := ∃ β, e = .returned (.bool β) ∧ (β = true → len ≤ 1048576 ∧ ∀ j < len, (f j).size ≤ 1048576)

set_option maxHeartbeats 1000000 in
theorem bytes8 (b off len cap : Nat) (f : Nat → ByteArray) (w : World) (hl : len ≤ 1152921504606846976) (hc : ∀ j < len, w.cell? ⟨b, off + j, none⟩ = some (.string (f j))) (hs : ∀ j < len, (f j).size ≤ 9223372036854775807) :
    Calls Tryf.prog 8 #[.slice (some ⟨b, off, none⟩) len cap] w fun e w' => BytesAns len f e ∧ w' = w := by
  by_cases hlen : len ≤ 1048576
  · have HL : Hid (len ≤ 1048576) := hlen
    have hlenI : (len : Int) ≤ 1048576 := by omega
    go_enter Tryf.func8, Tryf.ntmps8
    go_wp2
    go_loop [3, 4] (fun n i => ∃ k : Nat, k ≤ len ∧ i = .int .i64 k ∧ (∃ z : Int, n = .int .i64 z ∧ 0 ≤ z ∧ z ≤ 1048576) ∧ ∀ j < k, (f j).size ≤ 1048576) (fun _ i => len - (intOf i).toNat)
    case atStart => exact ⟨0, by omega, rfl, ⟨_, rfl, by omega, by omega⟩, by omega⟩
    case round =>
      obtain ⟨k, hk, rfl, ⟨z, rfl, hz0, hz1⟩, hj⟩ := hrel
      have HJ : Hid (∀ j < k, (f j).size ≤ 1048576) := hj
      clear hj
      by_cases hlt : k < len
      · have hck := hc k hlt
        have hsk := hs k hlt
        have HC : Hid (∀ j < len, w.cell? ⟨b, off + j, none⟩ = some (.string (f j))) := hc
        have HS : Hid (∀ j < len, (f j).size ≤ 9223372036854775807) := hs
        clear hc hs
        by_cases h1 : (f k).size ≤ 1048576
        · by_cases h2 : z + (f k).size ≤ 1048576
          · go_wp2
            go_round
            case rel => exact ⟨k + 1, by omega, by go_num, ⟨_, rfl, by omega, by omega⟩, fun j hj => by
              by_cases e : j = k
              · subst e; exact h1
              · exact HJ.out j (by omega)⟩
            case measure => simp [intOf]; omega
          · go_wp2
            go_ret
            exact ⟨⟨false, rfl, by simp⟩, rfl⟩
        · go_wp2
          go_ret
          exact ⟨⟨false, rfl, by simp⟩, rfl⟩
      · have hk' : k = len := by omega
        subst hk'
        clear hc hs
        go_wp2
        go_ret
        exact ⟨⟨true, rfl, fun _ => ⟨HL.out, HJ.out⟩⟩, rfl⟩
  · clear hc hs
    go_enter Tryf.func8, Tryf.ntmps8
    go_wp2
    go_ret
    exact ⟨⟨false, rfl, by simp⟩, rfl⟩

set_option maxHeartbeats 1000000 in
theorem bytes8_none (ao : Option Addr) (cap : Nat) (f : Nat → ByteArray) (w : World) :
    Calls Tryf.prog 8 #[.slice ao 0 cap] w fun e w' => BytesAns 0 f e ∧ w' = w := by
  go_enter Tryf.func8, Tryf.ntmps8
  go_wp2
  go_loop [3, 4] (fun n i => i = .int .i64 0) (fun _ i => 0)
  case atStart => rfl
  case round =>
    subst hrel
    go_wp2
    go_ret
    exact ⟨⟨true, rfl, fun _ => ⟨by omega, by omega⟩⟩, rfl⟩

set_option maxHeartbeats 1000000 in
theorem bytes5 (b off len cap : Nat) (f : Nat → ByteArray) (cut : Int) (w : World) (hl : len ≤ 1152921504606846976) (hc : ∀ j < len, w.cell? ⟨b, off + j, none⟩ = some (.string (f j))) (hs : ∀ j < len, (f j).size ≤ 9223372036854775807) :
    Calls Tryf.prog 5 #[.slice (some ⟨b, off, none⟩) len cap, .int .i64 cut] w fun e w' => BytesAns len f e ∧ w' = w := by
  by_cases hlen : len ≤ 1048576
  · have HL : Hid (len ≤ 1048576) := hlen
    have hlenI : (len : Int) ≤ 1048576 := by omega
    go_enter Tryf.func5, Tryf.ntmps5
    go_wp2
    go_loop [5, 6] (fun n i => ∃ k : Nat, k ≤ len ∧ i = .int .i64 k ∧ (∃ z : Int, n = .int .i64 z ∧ 0 ≤ z ∧ z ≤ 1048576) ∧ ∀ j < k, (f j).size ≤ 1048576) (fun _ i => len - (intOf i).toNat)
    case atStart => exact ⟨0, by omega, rfl, ⟨_, rfl, by omega, by omega⟩, by omega⟩
    case round =>
      obtain ⟨k, hk, rfl, ⟨z, rfl, hz0, hz1⟩, hj⟩ := hrel
      have HJ : Hid (∀ j < k, (f j).size ≤ 1048576) := hj
      clear hj
      by_cases hlt : k < len
      · have hck := hc k hlt
        have hsk := hs k hlt
        have HC : Hid (∀ j < len, w.cell? ⟨b, off + j, none⟩ = some (.string (f j))) := hc
        have HS : Hid (∀ j < len, (f j).size ≤ 9223372036854775807) := hs
        clear hc hs
        by_cases h1 : (f k).size ≤ 1048576
        · by_cases h2 : z + (f k).size ≤ 1048576
          · go_wp2
            go_round
            case rel => exact ⟨k + 1, by omega, by go_num, ⟨_, rfl, by omega, by omega⟩, fun j hj => by
              by_cases e : j = k
              · subst e; exact h1
              · exact HJ.out j (by omega)⟩
            case measure => simp [intOf]; omega
          · go_wp2
            go_ret
            exact ⟨⟨false, rfl, by simp⟩, rfl⟩
        · go_wp2
          go_ret
          exact ⟨⟨false, rfl, by simp⟩, rfl⟩
      · have hk' : k = len := by omega
        subst hk'
        clear hc hs
        go_wp2
        go_ret
        exact ⟨⟨true, rfl, fun _ => ⟨HL.out, HJ.out⟩⟩, rfl⟩
  · clear hc hs
    go_enter Tryf.func5, Tryf.ntmps5
    go_wp2
    go_ret
    exact ⟨⟨false, rfl, by simp⟩, rfl⟩

set_option maxHeartbeats 1000000 in
theorem bytes5_none (ao : Option Addr) (cap : Nat) (f : Nat → ByteArray) (cut : Int) (w : World) :
    Calls Tryf.prog 5 #[.slice ao 0 cap, .int .i64 cut] w fun e w' => BytesAns 0 f e ∧ w' = w := by
  go_enter Tryf.func5, Tryf.ntmps5
  go_wp2
  go_loop [5, 6] (fun n i => i = .int .i64 0) (fun _ i => 0)
  case atStart => rfl
  case round =>
    subst hrel
    go_wp2
    go_ret
    exact ⟨⟨true, rfl, fun _ => ⟨by omega, by omega⟩⟩, rfl⟩

end Go.Proofs.Qxb6615135aFmt
