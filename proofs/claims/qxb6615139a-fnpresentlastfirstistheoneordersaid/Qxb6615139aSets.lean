/- Sets of places; the walks of placesOf, presentCount, splitAts. -/
import Derived.Test.Qxb6615139aGrid
import Derived.Maps.OwnSet
namespace Go.Proofs.Qxb6615139a
open Go.RowKit Go.WideMaps Go.Maps Go.ChangeMaps

/-- How many are present in the first k scenes. -/
def sumPl (S : Nat → Scn) : Nat → Nat
  | 0 => 0
  | k + 1 => sumPl S k + (S k).pl
theorem sumPl_le (S : Nat → Scn) (k : Nat) (h : ∀ j < k, (S j).pl ≤ 1048576) : sumPl S k ≤ k * 1048576 := by
  induction k with
  | zero => exact Nat.le_refl _
  | succ k ih => have := ih (fun j hj => h j (by omega)); have := h k (by omega); simp only [sumPl]; omega

theorem law3 : Keyed Try.prog 3 := int_keyed Try.underlying3
theorem zero4 (w : World) : (zeroValue 4).run Try.prog w = .ok (.bool false) w := by kernel_rfl

/-- Block b of w is a set: place i is in it where s i; it has c places. -/
def SetAt (w : World) (b c : Nat) (s : Nat → Bool) : Prop :=
  ∃ D : DataW Unit, w.ownsMap Try.prog 3 (plainElem Try.prog 4) b c D ∧ Maps.size D = c ∧ ∀ i : Nat, Maps.has D (.int .i64 i) = s i ∧ D.atKey (.int .i64 i) (.lit (.bool false)) = .lit (.bool (s i))

theorem SetAt.lt {w : World} {b c : Nat} {s : Nat → Bool} (h : SetAt w b c s) : b < w.heap.size := by obtain ⟨D, h, _⟩ := h; exact h.lt
theorem SetAt.below {w w' : World} {b c B : Nat} {s : Nat → Bool} (h : SetAt w b c s) (hb : Below B w w') (hlt : b < B) : SetAt w' b c s := by
  obtain ⟨D, ⟨es, clock, hbk, F, hs, hD⟩, h1, h2⟩ := h
  exact ⟨D, ⟨es, clock, (hb.block b hlt).trans hbk, F, hs, hD⟩, h1, h2⟩
theorem SetAt.made (w : World) : SetAt (w.alloc (.map #[] 0)) w.heap.size 0 (fun _ => false) :=
  ⟨_, World.ownsMap_made _ _ _ _, rfl, fun _ => ⟨rfl, rfl⟩⟩
theorem SetAt.len {w : World} {b c : Nat} {s : Nat → Bool} (h : SetAt w b c s) (ty : TypeId) : (Builtin.len_ #[93] ty #[.map (some b)]).run Try.prog w = .ok (.int .i64 c) w := by
  obtain ⟨D, h, hs, _⟩ := h
  have := h.len Try.underlying93 ty
  rwa [hs] at this
set_option maxRecDepth 100000 in
theorem keyI (i : Nat) (hi : i ≤ 1048576) : keyOf Try.prog 3 (.int .i64 i) = some (.int .i64 i) := keyOf_int_mk Try.underlying3 (WalkArith.wf_i64 (by omega))
theorem plain4 {v : Value} {z : DataW Unit × List MemPlace} (h : plainElem Try.prog 4 v = some z) : ∃ x, v = .bool x ∧ z = (.lit (.bool x), []) := by
  simp only [plainElem, Try.underlying4] at h
  cases v
  case bool x => exact ⟨x, rfl, by simpa using h.symm⟩
  all_goals (simp at h)
theorem SetAt.look {w : World} {b c : Nat} {s : Nat → Bool} (h : SetAt w b c s) (i : Nat) (hi : i ≤ 1048576) : (Instr.lookup 93 (.map (some b)) (.int .i64 i) false).run Try.prog w = .ok (.bool (s i)) w := by
  obtain ⟨D, h, hs, ha⟩ := h
  obtain ⟨v, ps, hrun, hv⟩ := h.lookup law3 Try.underlying93 (zero4 w) (plainElem_bool Try.underlying4 false) (keyI i hi)
  rw [(ha i).2] at hv
  obtain ⟨x, rfl, hx⟩ := plain4 hv
  simp only [Prod.mk.injEq, DataW.lit.injEq, Lit.bool.injEq] at hx
  rw [hx.1]
  exact hrun
/-- 'set[i] = true' at a new place. -/
theorem SetAt.put {w : World} {b c : Nat} {s : Nat → Bool} (h : SetAt w b c s) (i : Nat) (hi : i ≤ 1048576) (hc : c ≤ 1048576) (hn : s i = false) :
    ∃ w', (Instr.mapUpdate 93 (.map (some b)) (.int .i64 i) (.bool true)).run Try.prog w = .ok () w' ∧ SetAt w' b (c + 1) (fun j => if j = i then true else s j) ∧ w.grownBy w' (some b) := by
  obtain ⟨D, h, hs, ha⟩ := h
  obtain ⟨w', hrun, h', hg⟩ := h.update law3 Try.underlying93 (by unfold maxLen; omega) (keyI i hi) (plainElem_bool Try.underlying4 true)
  have hhas : Maps.has D (.int .i64 i) = false := (ha i).1.trans hn
  refine ⟨w', hrun, ⟨_, h', ?_, fun j => ?_⟩, hg⟩
  · rw [Maps.size_put (h.tidy law3), hhas, hs]; rfl
  · by_cases e : j = i
    · subst e
      simp only [if_true]
      have hk : WideAt.IsKeyLit (.int .i64 (j : Int)) := trivial
      exact ⟨Maps.has_put_same h.isMap hk _, Maps.atKey_put_same h.isMap hk _ _⟩
    · have hne : Lit.int .i64 (j : Int) ≠ .int .i64 (i : Int) := by intro h; injection h with _ h; omega
      simp only [e, if_false]
      rw [Maps.has_put_other hne, Maps.atKey_put_other hne]
      exact ha j

/-- Is i among the first k? -/
def inPre (fo : Nat → Int) : Nat → Nat → Bool
  | 0, _ => false
  | k + 1, i => if fo k = (i : Int) then true else inPre fo k i
theorem inPre_iff (fo : Nat → Int) (k i : Nat) : inPre fo k i = true ↔ ∃ p < k, fo p = (i : Int) := by
  induction k with
  | zero => simp [inPre]
  | succ k ih =>
    simp only [inPre]
    by_cases e : fo k = (i : Int)
    · rw [if_pos e]; simp only [true_iff]; exact ⟨k, by omega, e⟩
    · rw [if_neg e, ih]
      constructor
      · rintro ⟨p, hp, h⟩; exact ⟨p, by omega, h⟩
      · rintro ⟨p, hp, h⟩
        by_cases c : p = k
        · subst c; exact absurd h e
        · exact ⟨p, by omega, h⟩

theorem makeMap_hint (n : Nat) (w : World) : (Instr.makeMap 93 (some (.int .i64 n))).run Try.prog w = .ok (.map (some w.heap.size)) (w.alloc (.map #[] 0)) := by
  simp [Instr.makeMap, run_underlying Try.underlying93, asInt, asIntOf, newObj]
  rfl

set_option maxRecDepth 100000 in
set_option maxHeartbeats 1000000 in
theorem placesOfW (ao : Option Addr) (n cap : Nat) (fo : Nat → Int) (w : World) (hc : CellsAt w ao n (fun j => .int .i64 (fo j))) (hn : n ≤ 1048576)
    (hin : ∀ p < n, 0 ≤ fo p ∧ fo p ≤ 1048576) (hone : ∀ p < n, ∀ q < p, fo q ≠ fo p) :
    Calls Try.prog 25 #[.slice ao n cap] w fun e w' => e = .returned (.map (some w.heap.size)) ∧ SetAt w' w.heap.size n (inPre fo n) ∧ Below w.heap.size w w' := by
  have HC : Hid (CellsAt w ao n (fun j => .int .i64 (fo j))) := hc
  have HI : Hid (∀ p < n, 0 ≤ fo p ∧ fo p ≤ 1048576) := hin
  have H1 : Hid (∀ p < n, ∀ q < p, fo q ≠ fo p) := hone
  clear hc hin hone
  have hmm := makeMap_hint n
  go_enter Try.func25, Try.ntmps25
  go_wp2
  clear hmm
  go_loopw [11] (fun i wr => ∃ k : Nat, k ≤ n ∧ i = .int .i64 k ∧ SetAt wr w.heap.size k (inPre fo k) ∧ Below w.heap.size w wr) (fun i _ => n - (intOf i).toNat)
  case atStart => exact ⟨0, by omega, rfl, SetAt.made w, (Below.refl _ _).alloc (Nat.le_refl _) _⟩
  case round =>
    obtain ⟨k, hk, rfl, hs, hb⟩ := hrel
    have HS : Hid (SetAt wr w.heap.size k (inPre fo k)) := hs
    have HB : Hid (Below w.heap.size w wr) := hb
    clear hs hb
    by_cases hlt : k < n
    · have hlti : (k : Int) < n := by omega
      obtain ⟨b, off, ha, hbw, hcl⟩ := cell_at HC.out (by omega)
      subst ha
      have hck := (HB.out.cell (by exact hbw)).trans (hcl k hlt)
      obtain ⟨f0, f1⟩ := HI.out k hlt
      obtain ⟨x, hx⟩ := Int.eq_ofNat_of_zero_le f0
      have HX : Hid (fo k = (x : Int)) := hx
      rw [hx] at hck f1
      have hnot : inPre fo k x = false := by
        cases hh : inPre fo k x
        · rfl
        · obtain ⟨p, hp, e⟩ := (inPre_iff fo k x).1 hh
          exact absurd (e.trans hx.symm) (H1.out k hlt p hp)
      obtain ⟨w1, hrun, hset, hg⟩ := HS.out.put x (by omega) (by omega) hnot
      have HS1 : Hid (SetAt w1 w.heap.size (k + 1) (inPre fo (k + 1))) := by
        show SetAt _ _ _ _
        have e : inPre fo (k + 1) = fun j => if j = x then true else inPre fo k j := by
          funext j
          simp only [inPre, hx]
          by_cases c : j = x
          · subst c; simp
          · rw [if_neg (by omega), if_neg c]
        rw [e]; exact hset
      have HB1 : Hid (Below w.heap.size w w1) := HB.out.grown hg HB.out.size (fun j hj => by cases hj; exact Nat.le_refl _)
      clear hcl hbw hx hnot hset hg f0 f1
      go_wp2
      go_roundw
      case rel => exact ⟨k + 1, by omega, by go_num, HS1.out, HB1.out⟩
      case measure => simp [intOf]; omega
    · have hkn : ¬ (k : Int) < n := by omega
      have hn' : n = k := by omega
      subst hn'
      go_wp2
      go_ret
      exact ⟨rfl, HS.out, HB.out⟩

set_option maxRecDepth 100000 in
set_option maxHeartbeats 1000000 in
theorem presentCountW (so : Option Addr) (ns cs : Nat) (S : Nat → Scn) (w : World) (hs : ScenesAt w so ns S) (l1 : ns ≤ 1048576) (lp : ∀ j < ns, (S j).pl ≤ 1048576) :
    Calls Try.prog 16 #[.slice so ns cs] w fun e w' => e = .returned (.int .i64 (sumPl S ns)) ∧ w = w' := by
  have HS : Hid (ScenesAt w so ns S) := hs
  have HL : Hid (∀ j < ns, (S j).pl ≤ 1048576) := lp
  have L1 : (ns : Int) ≤ 1048576 := by omega
  clear hs lp
  go_enter Try.func16, Try.ntmps16
  go_wp2
  go_loop [3, 4] (fun t i => ∃ j : Nat, j ≤ ns ∧ i = .int .i64 j ∧ t = .int .i64 (sumPl S j)) (fun _ i => ns - (intOf i).toNat)
  case atStart => exact ⟨0, by omega, rfl, rfl⟩
  case round =>
    obtain ⟨j, hj, rfl, rfl⟩ := hrel
    have hsp := sumPl_le S j (fun i hi => HL.out i (by omega))
    have hspI : (sumPl S j : Int) ≤ 1099511627776 := by omega
    by_cases hlt : j < ns
    · have hlti : (j : Int) < ns := by omega
      have hpl : ((S j).pl : Int) ≤ 1048576 := by have := HL.out j hlt; omega
      obtain ⟨b, off, ha, hbw, hc⟩ := scene_at HS.out (by omega)
      subst ha
      have c2 := (hc j hlt).2.2
      clear hc hbw
      go_wp2
      go_round
      case rel => exact ⟨j + 1, by omega, by go_num, by simp only [sumPl]; go_num⟩
      case measure => simp [intOf]; omega
    · have hkn : ¬ (j : Int) < ns := by omega
      have hn' : ns = j := by omega
      subst hn'
      go_wp2
      go_ret
      exact ⟨rfl, rfl⟩

end Go.Proofs.Qxb6615139a
