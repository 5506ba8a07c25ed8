/- The walks of scenesBytes and leaveBytes: some number, in new memory. -/
import Derived.Test.Qxb6615139aZz
import Derived.BigQuiet
import Derived.Deep.QuietTactic
namespace Go.Proofs.Qxb6615139a
open Go.RowKit

/-- Some number. -/
def IntAns (e : Ending) : Prop := ∃ z : Int, e = .returned (.int .i64 z)

set_option maxRecDepth 100000 in
set_option maxHeartbeats 8000000 in
theorem scenesBytesW (so : Option Addr) (ns cs : Nat) (sum : Int) (S : Nat → Scn) (w : World) (hs : ScenesAt w so ns S) (l1 : ns ≤ 1048576) (l2 : ∀ j < ns, (S j).pl ≤ 1048576) (s0 : 0 ≤ sum) (s1 : sum ≤ 1048576) :
    Calls Try.prog 14 #[.slice so ns cs, .int .i64 sum] w fun e w' => IntAns e ∧ Below w.heap.size w w' := by
  have HS : Hid (ScenesAt w so ns S) := hs
  have HL : Hid (∀ j < ns, (S j).pl ≤ 1048576) := l2
  have L1 : (ns : Int) ≤ 1048576 := by omega
  clear hs l2 l1
  go_enter Try.func14, Try.ntmps14
  go_wp2
  all_goals (try (go_ret; exact ⟨⟨_, rfl⟩, Below.refl _ _⟩))
  go_loopw [1, 5] (fun z i wr => ∃ j : Nat, j ≤ ns ∧ i = .int .i64 j ∧ (∃ v : Int, z = .int .i64 v ∧ 0 ≤ v ∧ v ≤ 1048576) ∧ Below w.heap.size w wr) (fun _ i _ => ns - (intOf i).toNat)
  case atStart => exact ⟨0, by omega, rfl, ⟨_, rfl, by omega, by omega⟩, Below.refl _ _⟩
  case round =>
    clear s0 s1
    obtain ⟨j, hj, rfl, ⟨v, rfl, v0, v1⟩, hb⟩ := hrel
    have HB : Hid (Below w.heap.size w wr) := hb
    clear hb
    by_cases hlt : j < ns
    · have hlti : (j : Int) < ns := by omega
      have hpl : ((S j).pl : Int) ≤ 1048576 := by have := HL.out j hlt; omega
      obtain ⟨b, off, ha, hbw, hc⟩ := scene_at HS.out (by omega)
      subst ha
      obtain ⟨t0, t1, t2⟩ := hc j hlt
      have c0 := (HB.out.cell (by exact hbw)).trans t0
      have c1 := (HB.out.cell (by exact hbw)).trans t1
      have c2 := (HB.out.cell (by exact hbw)).trans t2
      have HR : Hid (RefsAt w (S j).pa (S j).pl (S j).ref) := HS.out.2 j hlt
      have HT2 : Hid (w.cell? ⟨b, off + j * 3 + 2, none⟩ = some (.slice (S j).pa (S j).pl (S j).pc)) := t2
      clear hc t0 t1 t2
      go_wp2
      all_goals (try (go_ret; exact ⟨⟨_, rfl⟩, HB.out⟩))
      go_quiet (fail)
      go_wp2
      all_goals (try (go_ret; exact ⟨⟨_, rfl⟩, below_drewN HB.out _⟩))
      clear c0 c1 c2
      go_loopw [1, 6] (fun z i wx => ∃ q : Nat, q ≤ (S j).pl ∧ i = .int .i64 q ∧ (∃ v : Int, z = .int .i64 v ∧ 0 ≤ v ∧ v ≤ 1048576) ∧ Below w.heap.size w wx) (fun _ i _ => (S j).pl - (intOf i).toNat)
      case atStart => exact ⟨0, by omega, rfl, ⟨_, rfl, by omega, by omega⟩, below_drewN HB.out _⟩
      case round =>
        clear v0 v1
        obtain ⟨q, hq, rfl, ⟨v, rfl, v0, v1⟩, hb⟩ := hrel
        have HBx : Hid (Below w.heap.size w wr) := hb
        clear hb
        have c2 := (HBx.out.cell (by exact hbw)).trans HT2.out
        by_cases hlt4 : q < (S j).pl
        · have hltq : (q : Int) < (S j).pl := by omega
          obtain ⟨b2, off2, ha2, hbw2, hc2⟩ := ref_at HR.out (by omega)
          rw [ha2] at c2
          obtain ⟨r0, r1, r2⟩ := hc2 q hlt4
          have d0 := (HBx.out.cell (by exact hbw2)).trans r0
          have d1 := (HBx.out.cell (by exact hbw2)).trans r1
          have d2 := (HBx.out.cell (by exact hbw2)).trans r2
          clear hc2 hbw2 ha2 r0 r1 r2
          go_wp2
          all_goals (try (go_ret; exact ⟨⟨_, rfl⟩, HBx.out.alloc HBx.out.size _⟩))
          go_roundw
          case rel => exact ⟨q + 1, by omega, by go_num, ⟨_, rfl, by omega, by omega⟩, HBx.out.alloc HBx.out.size _⟩
          case measure => simp [intOf]; omega
        · have hkq : ¬ (q : Int) < (S j).pl := by omega
          go_wp2
          go_roundw
          case rel => exact ⟨j + 1, by omega, by go_num, ⟨_, rfl, by omega, by omega⟩, HBx.out⟩
          case measure => simp [intOf]; omega
    · have hkj : ¬ (j : Int) < ns := by omega
      go_wp2
      go_ret
      exact ⟨⟨_, rfl⟩, HB.out⟩

set_option maxRecDepth 100000 in
set_option maxHeartbeats 8000000 in
theorem leaveBytesW (ro fo so oo po : Option Addr) (nr nf ns no np cr cf cs co cp : Nat) (T : Nat → ByteArray) (S : Nat → Scn) (w : World)
    (hf : CellsAt w fo nf (fun j => .string (T j))) (hs : ScenesAt w so ns S) (l1 : nr ≤ 1048576) (l2 : nf ≤ 1048576) (l3 : ns ≤ 1048576) (l4 : no ≤ 1048576) (l5 : np ≤ 1048576) (lp : ∀ j < ns, (S j).pl ≤ 1048576) :
    Calls Try.prog 7 #[.string ByteArray.empty, .slice ro nr cr, .slice fo nf cf, .slice so ns cs, .slice oo no co, .slice po np cp] w fun e w' => IntAns e ∧ Below w.heap.size w w' := by
  have HF : Hid (CellsAt w fo nf (fun j => .string (T j))) := hf
  have HS : Hid (ScenesAt w so ns S) := hs
  have HL : Hid (∀ j < ns, (S j).pl ≤ 1048576) := lp
  have L1 : (nr : Int) ≤ 1048576 := by omega
  have L2 : (nf : Int) ≤ 1048576 := by omega
  have L4 : (no : Int) ≤ 1048576 := by omega
  have L5 : (np : Int) ≤ 1048576 := by omega
  clear hf hs lp l1 l2 l4 l5
  go_enter Try.func7, Try.ntmps7
  go_wp2
  all_goals (try (go_ret; exact ⟨⟨_, rfl⟩, Below.refl _ _⟩))
  go_loop [13, 14] (fun z i => ∃ k : Nat, k ≤ nf ∧ i = .int .i64 k ∧ ∃ v : Int, z = .int .i64 v ∧ 0 ≤ v ∧ v ≤ 1048576) (fun _ i => nf - (intOf i).toNat)
  case atStart => exact ⟨0, by omega, rfl, _, rfl, by omega, by omega⟩
  case round =>
    obtain ⟨k, hk, rfl, v, rfl, v0, v1⟩ := hrel
    by_cases hlt : k < nf
    · have hlti : (k : Int) < nf := by omega
      obtain ⟨b, off, ha, hbw, hc⟩ := cell_at HF.out (by omega)
      subst ha
      have hck := hc k hlt
      clear hc hbw
      go_wp2
      all_goals (try (go_ret; exact ⟨⟨_, rfl⟩, Below.refl _ _⟩))
      go_round
      case rel => exact ⟨k + 1, by omega, by go_num, _, rfl, by omega, by omega⟩
      case measure => simp [intOf]; omega
    · have hkn : ¬ (k : Int) < nf := by omega
      go_wp2_with fail
      refine (scenesBytesW so ns cs v S _ HS.out l3 HL.out v0 v1).mono ?_
      rintro e w1 ⟨⟨z, rfl⟩, hb⟩
      go_wp2_with fail
      go_ret
      exact ⟨⟨_, rfl⟩, hb⟩

end Go.Proofs.Qxb6615139a
