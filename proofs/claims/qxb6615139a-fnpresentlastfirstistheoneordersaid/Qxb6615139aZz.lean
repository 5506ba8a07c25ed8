/- The walk of the length bound of FnLeaveMoreLeavesLess. -/
import Derived.Test.Qxb6615139aMem
namespace Go.Proofs.Qxb6615139a
open Go.RowKit

/-- What the bound answers: a bool; true only where all is short. -/
def ZzAns (nr nf ns no np : Nat) (S : Nat → Scn) (e : Ending) : Prop :=
  ∃ β, e = .returned (.bool β) ∧ (β = true → nr ≤ 1048576 ∧ nf ≤ 1048576 ∧ ns ≤ 1048576 ∧ (∀ j < ns, (S j).pl ≤ 1048576) ∧ no ≤ 1048576 ∧ np ≤ 1048576)

theorem scene_at {w : World} {so : Option Addr} {ns : Nat} {S : Nat → Scn} (h : ScenesAt w so ns S) (h0 : 0 < ns) :
    ∃ b off, so = some ⟨b, off, none⟩ ∧ b < w.heap.size ∧ ∀ j < ns, w.cell? ⟨b, off + j * 3, none⟩ = some (.string (S j).id) ∧ w.cell? ⟨b, off + j * 3 + 1, none⟩ = some (.string (S j).name) ∧
      w.cell? ⟨b, off + j * 3 + 2, none⟩ = some (.slice (S j).pa (S j).pl (S j).pc) := by
  rcases h.1 with h | h
  · omega
  · exact h
theorem ref_at {w : World} {ao : Option Addr} {n : Nat} {r : Nat → Nat → ByteArray} (h : RefsAt w ao n r) (h0 : 0 < n) :
    ∃ b off, ao = some ⟨b, off, none⟩ ∧ b < w.heap.size ∧ ∀ i < n, w.cell? ⟨b, off + i * 3, none⟩ = some (.string (r i 0)) ∧ w.cell? ⟨b, off + i * 3 + 1, none⟩ = some (.string (r i 1)) ∧ w.cell? ⟨b, off + i * 3 + 2, none⟩ = some (.string (r i 2)) := by
  rcases h with h | h
  · omega
  · exact h
theorem cell_at {w : World} {ao : Option Addr} {n : Nat} {V : Nat → Value} (h : CellsAt w ao n V) (h0 : 0 < n) :
    ∃ b off, ao = some ⟨b, off, none⟩ ∧ b < w.heap.size ∧ ∀ j < n, w.cell? ⟨b, off + j, none⟩ = some (V j) := by
  rcases h with h | h
  · omega
  · exact h
theorem pair_at {w : World} {ao : Option Addr} {n : Nat} {x y : Nat → Int} (h : PairsAt w ao n x y) (h0 : 0 < n) :
    ∃ b off, ao = some ⟨b, off, none⟩ ∧ b < w.heap.size ∧ ∀ j < n, w.cell? ⟨b, off + j * 2, none⟩ = some (.int .i64 (x j)) ∧ w.cell? ⟨b, off + j * 2 + 1, none⟩ = some (.int .i64 (y j)) := by
  rcases h with h | h
  · omega
  · exact h

set_option maxRecDepth 100000 in
set_option maxHeartbeats 8000000 in
theorem zzLeave (ro fo so oo po : Option Addr) (nr nf ns no np cr cf cs co cp : Nat) (b1 b2 b3 n m : Int) (over : Bool) (T : Nat → ByteArray) (S : Nat → Scn) (w : World)
    (hf : CellsAt w fo nf (fun j => .string (T j))) (hs : ScenesAt w so ns S) (l1 : nr ≤ 140737488355328) (l2 : nf ≤ 140737488355328) (l3 : ns ≤ 140737488355328) (l4 : no ≤ 140737488355328) (l5 : np ≤ 140737488355328) :
    Calls Try.prog 6 #[.slice ro nr cr, .slice fo nf cf, .slice so ns cs, .int .i64 b1, .int .i64 b2, .int .i64 b3, .slice oo no co, .slice po np cp, .int .i64 n, .int .i64 m, .bool over] w fun e w' =>
      ZzAns nr nf ns no np S e ∧ w = w' := by
  have HF : Hid (CellsAt w fo nf (fun j => .string (T j))) := hf
  have HS : Hid (ScenesAt w so ns S) := hs
  have L1 : (nr : Int) ≤ 140737488355328 := by omega
  have L2 : (nf : Int) ≤ 140737488355328 := by omega
  have L3 : (ns : Int) ≤ 140737488355328 := by omega
  have L4 : (no : Int) ≤ 140737488355328 := by omega
  have L5 : (np : Int) ≤ 140737488355328 := by omega
  clear hf hs l1 l2 l3 l4 l5
  by_cases c1 : (nr : Int) ≤ 1048576
  · by_cases c2 : (nf : Int) ≤ 1048576
    · by_cases c3 : (nr : Int) + nf ≤ 1048576
      · go_enter Try.func6, Try.ntmps6
        go_wp2
        go_loop [23, 24] (fun z i => ∃ k : Nat, k ≤ nf ∧ i = .int .i64 k ∧ ∃ v : Int, z = .int .i64 v ∧ 0 ≤ v ∧ v ≤ 1048576) (fun _ i => nf - (intOf i).toNat)
        case atStart => exact ⟨0, by omega, rfl, _, rfl, by omega, by omega⟩
        case round =>
          obtain ⟨k, hk, rfl, v, rfl, v0, v1⟩ := hrel
          by_cases hlt : k < nf
          · have hlti : (k : Int) < nf := by omega
            obtain ⟨b, off, ha, hbw, hc⟩ := cell_at HF.out (by omega)
            subst ha
            have hck := hc k hlt
            clear hc hbw
            go_wp2
            all_goals (try (go_ret; exact ⟨⟨false, rfl, fun h => by cases h⟩, rfl⟩))
            go_round
            case rel => exact ⟨k + 1, by omega, by go_num, _, rfl, by omega, by omega⟩
            case measure => simp [intOf]; omega
          · have hkn : ¬ (k : Int) < nf := by omega
            go_wp2
            all_goals (try (go_ret; exact ⟨⟨false, rfl, fun h => by cases h⟩, rfl⟩))
            have h3 : (ns : Int) ≤ 1048576 := by omega
            go_loop [23, 25] (fun z i => ∃ j : Nat, j ≤ ns ∧ i = .int .i64 j ∧ (∃ v : Int, z = .int .i64 v ∧ 0 ≤ v ∧ v ≤ 1048576) ∧ ∀ t < j, (S t).pl ≤ 1048576) (fun _ i => ns - (intOf i).toNat)
            case atStart => exact ⟨0, by omega, rfl, ⟨_, rfl, by omega, by omega⟩, by omega⟩
            case round =>
              clear v0 v1
              obtain ⟨j, hj, rfl, ⟨v, rfl, v0, v1⟩, hpl⟩ := hrel
              have HPL : Hid (∀ t < j, (S t).pl ≤ 1048576) := hpl
              clear hpl
              by_cases hlt2 : j < ns
              · have hlti : (j : Int) < ns := by omega
                obtain ⟨b, off, ha, hbw, hc⟩ := scene_at HS.out (by omega)
                subst ha
                obtain ⟨s0, s1, s2⟩ := hc j hlt2
                have HR : Hid (RefsAt w (S j).pa (S j).pl (S j).ref) := HS.out.2 j hlt2
                clear hc hbw
                go_wp2
                all_goals (try (go_ret; exact ⟨⟨false, rfl, fun h => by cases h⟩, rfl⟩))
                have hp : ((S j).pl : Int) ≤ 1048576 := by omega
                go_loop [23, 26] (fun z i => ∃ q : Nat, q ≤ (S j).pl ∧ i = .int .i64 q ∧ ∃ v : Int, z = .int .i64 v ∧ 0 ≤ v ∧ v ≤ 1048576) (fun _ i => (S j).pl - (intOf i).toNat)
                case atStart => exact ⟨0, by omega, rfl, _, rfl, by omega, by omega⟩
                case round =>
                  clear v0 v1
                  obtain ⟨q, hq, rfl, v, rfl, v0, v1⟩ := hrel
                  by_cases hlt4 : q < (S j).pl
                  · have hltq : (q : Int) < (S j).pl := by omega
                    obtain ⟨b2, off2, ha2, hbw2, hc2⟩ := ref_at HR.out (by omega)
                    rw [ha2] at s2
                    obtain ⟨r0, r1, r2⟩ := hc2 q hlt4
                    clear hc2 hbw2 ha2
                    go_wp2
                    all_goals (try (go_ret; exact ⟨⟨false, rfl, fun h => by cases h⟩, rfl⟩))
                    go_round
                    case rel => exact ⟨q + 1, by omega, by go_num, _, rfl, by omega, by omega⟩
                    case measure => simp [intOf]; omega
                  · have hkq : ¬ (q : Int) < (S j).pl := by omega
                    go_wp2
                    go_round
                    case rel => exact ⟨j + 1, by omega, by go_num, ⟨_, rfl, by omega, by omega⟩, fun t ht => by
                      by_cases e : t = j
                      · subst e; omega
                      · exact HPL.out t (by omega)⟩
                    case measure => simp [intOf]; omega
              · have hkj : ¬ (j : Int) < ns := by omega
                have hjn : j = ns := by omega
                go_wp2
                all_goals (try (go_ret; exact ⟨⟨false, rfl, fun h => by cases h⟩, rfl⟩))
                go_ret
                exact ⟨⟨true, rfl, fun _ => ⟨by omega, by omega, by omega, fun t ht => HPL.out t (by omega), by omega, by omega⟩⟩, rfl⟩
      · go_enter Try.func6, Try.ntmps6
        go_wp2
        go_ret
        exact ⟨⟨false, rfl, fun h => by cases h⟩, rfl⟩
    · go_enter Try.func6, Try.ntmps6
      go_wp2
      go_ret
      exact ⟨⟨false, rfl, fun h => by cases h⟩, rfl⟩
  · go_enter Try.func6, Try.ntmps6
    go_wp2
    go_ret
    exact ⟨⟨false, rfl, fun h => by cases h⟩, rfl⟩

end Go.Proofs.Qxb6615139a
