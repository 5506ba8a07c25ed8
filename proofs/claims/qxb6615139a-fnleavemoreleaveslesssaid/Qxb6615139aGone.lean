/- The walk of goneAt: for each scene the set of the places that leave it. -/
import Derived.Test.Qxb6615139aWithout
namespace Go.Proofs.Qxb6615139a
open Go.RowKit

/-- How many of the first k lie in scene m. -/
def cnt2 (of : Nat → Int) : Nat → Nat → Nat
  | 0, _ => 0
  | k + 1, m => if of k = (m : Int) then cnt2 of k m + 1 else cnt2 of k m
/-- Is (m, i) among the first k? -/
def in2 (of ix : Nat → Int) : Nat → Nat → Nat → Bool
  | 0, _, _ => false
  | k + 1, m, i => if of k = (m : Int) ∧ ix k = (i : Int) then true else in2 of ix k m i
theorem in2_iff (of ix : Nat → Int) (k m i : Nat) : in2 of ix k m i = true ↔ ∃ p < k, of p = (m : Int) ∧ ix p = (i : Int) := by
  induction k with
  | zero => simp [in2]
  | succ k ih =>
    simp only [in2]
    by_cases e : of k = (m : Int) ∧ ix k = (i : Int)
    · rw [if_pos e]; simp only [true_iff]; exact ⟨k, by omega, e⟩
    · rw [if_neg e, ih]
      constructor
      · rintro ⟨p, hp, h⟩; exact ⟨p, by omega, h⟩
      · rintro ⟨p, hp, h⟩
        by_cases c : p = k
        · subst c; exact absurd h e
        · exact ⟨p, by omega, h⟩
theorem cnt2_le (of : Nat → Int) (k m : Nat) : cnt2 of k m ≤ k := by
  induction k with
  | zero => exact Nat.le_refl _
  | succ k ih => simp only [cnt2]; split <;> omega
theorem in2_zero {of ix : Nat → Int} {k m : Nat} (h : cnt2 of k m = 0) (i : Nat) : in2 of ix k m i = false := by
  induction k with
  | zero => rfl
  | succ k ih =>
    simp only [cnt2] at h
    split at h
    · omega
    · next e => simp only [in2]; rw [if_neg (fun c => e c.1)]; exact ih h

structure Gone (w : World) (g ns k : Nat) (of ix : Nat → Int) (B : Nat → Nat) : Prop where
  row : ∃ V, Row w g ns V ∧ ∀ m < ns, (cnt2 of k m = 0 → V m = .map none) ∧ (0 < cnt2 of k m → V m = .map (some (B m)))
  sets : ∀ m < ns, 0 < cnt2 of k m → g < B m ∧ SetAt w (B m) (cnt2 of k m) (in2 of ix k m)
  inj : ∀ m < ns, ∀ m' < ns, m ≠ m' → 0 < cnt2 of k m → 0 < cnt2 of k m' → B m ≠ B m'

theorem Gone.made (w : World) (ns : Nat) (of ix : Nat → Int) (B : Nat → Nat) : Gone (w.alloc (.cells (madeCells #[.map none] ns) 93)) w.heap.size ns 0 of ix B :=
  ⟨⟨_, Row.made w _ ns 93, fun m _ => ⟨fun _ => by simp [Nat.mod_one], fun h => by simp [cnt2] at h⟩⟩, fun m _ h => by simp [cnt2] at h, fun m _ m' _ _ h => by simp [cnt2] at h⟩
theorem Gone.below {w w' : World} {g ns k : Nat} {of ix : Nat → Int} {B : Nat → Nat} (h : Gone w g ns k of ix B) (hb : Below w.heap.size w w') : Gone w' g ns k of ix B := by
  obtain ⟨⟨V, hr, hv⟩, hs, hi⟩ := h
  exact ⟨⟨V, hr.below hb hr.lt, hv⟩, fun m hm hc => ⟨(hs m hm hc).1, (hs m hm hc).2.below hb (hs m hm hc).2.lt⟩, hi⟩
theorem SetAt.drew {w : World} {b c : Nat} {s : Nat → Bool} (h : SetAt w b c s) : SetAt w.drew b c s := h
theorem Gone.drew {w : World} {g ns k : Nat} {of ix : Nat → Int} {B : Nat → Nat} (h : Gone w g ns k of ix B) : Gone w.drew g ns k of ix B := by
  obtain ⟨⟨V, hr, hv⟩, hs, hi⟩ := h
  exact ⟨⟨V, hr.drew, hv⟩, hs, hi⟩
theorem SetAt.same {w w' : World} {b c : Nat} {s : Nat → Bool} (h : SetAt w b c s) (e : w'.heap[b]? = w.heap[b]?) : SetAt w' b c s := by
  obtain ⟨D, ⟨es, clock, hbk, F, hs, hD⟩, h1, h2⟩ := h
  exact ⟨D, ⟨es, clock, e.trans hbk, F, hs, hD⟩, h1, h2⟩
theorem Row.grown {w w' : World} {g N b : Nat} {V : Nat → Value} (h : Row w g N V) (hg : w.grownBy w' (some b)) (hne : g ≠ b) : Row w' g N V := by
  have e := hg.block g h.lt (fun e => hne (Option.some.inj e))
  refine ⟨Nat.lt_of_lt_of_le h.lt hg.size, fun m hm => ?_, fun m => ?_⟩
  · rw [← h.val m hm]; simp [World.cell?, e]
  · rw [← h.open_ m]; simp [World.frozen?, e]
/-- A new set for scene x. -/
theorem Gone.fresh {w : World} {g ns k x y b : Nat} {of ix : Nat → Int} {B : Nat → Nat} (h : Gone w g ns k of ix B) (hx : x < ns) (hof : of k = (x : Int)) (hix : ix k = (y : Int)) (h0 : cnt2 of k x = 0)
    {w' : World} (hrow : ∀ V, Row w g ns V → Row w' g ns (fun i => if i = x then .map (some b) else V i)) (hblk : ∀ j < w.heap.size, j ≠ g → w'.heap[j]? = w.heap[j]?) (hbn : w.heap.size ≤ b) (hset : SetAt w' b 1 (fun j => if j = y then true else false)) :
    Gone w' g ns (k + 1) of ix (fun m => if m = x then b else B m) := by
  have hgl : g < w.heap.size := by obtain ⟨V, hr, _⟩ := h.row; exact hr.lt
  have hB : ∀ m < ns, 0 < cnt2 of k m → B m < w.heap.size := fun m hm hc => (h.sets m hm hc).2.lt
  obtain ⟨⟨V, hr, hv⟩, hs, hi⟩ := h
  refine ⟨⟨_, hrow V hr, fun m hm => ?_⟩, fun m hm hc => ?_, fun m hm m' hm' hne hc hc' => ?_⟩
  · by_cases e : m = x
    · subst e
      simp only [cnt2, hof, if_true]
      exact ⟨fun h => by omega, fun _ => trivial⟩
    · have e' : ¬ ((x : Int) = (m : Int)) := by omega
      simp only [cnt2, hof, e, e', if_false]
      exact hv m hm
  · by_cases e : m = x
    · subst e
      simp only [if_true]
      refine ⟨by omega, ?_⟩
      have : in2 of ix (k + 1) m = fun j => if j = y then true else false := by
        funext j
        simp only [in2, hof, hix, true_and]
        by_cases c : j = y
        · subst c; simp
        · rw [if_neg (by omega), if_neg c]; exact in2_zero h0 j
      rw [this]
      simp only [cnt2, hof, if_true, h0]
      exact hset
    · have e' : ¬ ((x : Int) = (m : Int)) := by omega
      have hc2 : cnt2 of (k + 1) m = cnt2 of k m := by simp only [cnt2, hof, e', if_false]
      have hi2 : in2 of ix (k + 1) m = in2 of ix k m := by funext j; simp only [in2, hof, e', false_and, if_false]
      rw [hc2] at hc
      simp only [e, if_false]
      rw [hc2, hi2]
      have := hs m hm hc
      exact ⟨this.1, this.2.same (hblk _ this.2.lt (by omega))⟩
  · have key : ∀ m < ns, m ≠ x → 0 < cnt2 of (k + 1) m → 0 < cnt2 of k m := fun m _ e hc => by
      have e' : ¬ ((x : Int) = (m : Int)) := by omega
      simpa only [cnt2, hof, e', if_false] using hc
    by_cases e : m = x
    · subst e
      have e2 : ¬ m' = m := by omega
      simp only [e2, if_true, if_false]
      have := hB m' hm' (key m' hm' (by omega) hc'); omega
    · by_cases e2 : m' = x
      · subst e2
        simp only [e, if_true, if_false]
        have := hB m hm (key m hm (by omega) hc); omega
      · simp only [e, e2, if_false]
        exact hi m hm m' hm' hne (key m hm e hc) (key m' hm' e2 hc')
/-- One more place in scene x's set. -/
theorem Gone.more {w w' : World} {g ns k x y : Nat} {of ix : Nat → Int} {B : Nat → Nat} (h : Gone w g ns k of ix B) (hx : x < ns) (hof : of k = (x : Int)) (hix : ix k = (y : Int)) (h0 : 0 < cnt2 of k x)
    (hg : w.grownBy w' (some (B x))) (hset : SetAt w' (B x) (cnt2 of k x + 1) (fun j => if j = y then true else in2 of ix k x j)) : Gone w' g ns (k + 1) of ix B := by
  obtain ⟨⟨V, hr, hv⟩, hs, hi⟩ := h
  have hgx := (hs x hx h0).1
  have cell : ∀ a : Addr, a.block < w.heap.size → a.block ≠ B x → w'.heap[a.block]? = w.heap[a.block]? := fun a ha hne => hg.block a.block ha (fun e => hne (Option.some.inj e))
  refine ⟨⟨V, ⟨Nat.lt_of_lt_of_le hr.lt hg.size, fun m hm => ?_, fun m => ?_⟩, fun m hm => ?_⟩, fun m hm hc => ?_, fun m hm m' hm' hne hc hc' => ?_⟩
  · rw [← hr.val m hm]; simp [World.cell?, cell ⟨g, m, none⟩ hr.lt (by simp; omega)]
  · rw [← hr.open_ m]; simp [World.frozen?, cell ⟨g, m, none⟩ hr.lt (by simp; omega)]
  · by_cases e : m = x
    · subst e
      simp only [cnt2, hof, if_true]
      exact ⟨fun h => by omega, fun _ => (hv m hm).2 h0⟩
    · have e' : ¬ ((x : Int) = (m : Int)) := by omega
      simp only [cnt2, hof, e', if_false]
      exact hv m hm
  · by_cases e : m = x
    · subst e
      refine ⟨hgx, ?_⟩
      have : in2 of ix (k + 1) m = fun j => if j = y then true else in2 of ix k m j := by
        funext j
        simp only [in2, hof, hix, true_and]
        by_cases c : j = y
        · subst c; simp
        · rw [if_neg (by omega), if_neg c]
      rw [this]
      simp only [cnt2, hof, if_true]
      exact hset
    · have e' : ¬ ((x : Int) = (m : Int)) := by omega
      have hc2 : cnt2 of (k + 1) m = cnt2 of k m := by simp only [cnt2, hof, e', if_false]
      have hi2 : in2 of ix (k + 1) m = in2 of ix k m := by funext j; simp only [in2, hof, e', false_and, if_false]
      rw [hc2] at hc
      rw [hc2, hi2]
      have := hs m hm hc
      refine ⟨this.1, ?_⟩
      have hlt := this.2.lt
      obtain ⟨D, ⟨es, clock, hbk, F, hsz, hD⟩, h1, h2⟩ := this.2
      exact ⟨D, ⟨es, clock, (hg.block _ hlt (fun e2 => hi m hm x hx e hc h0 (Option.some.inj e2))).trans hbk, F, hsz, hD⟩, h1, h2⟩
  · have key : ∀ m < ns, 0 < cnt2 of (k + 1) m → 0 < cnt2 of k m := fun m _ hc => by
      by_cases e : m = x
      · subst e; exact h0
      · have e' : ¬ ((x : Int) = (m : Int)) := by omega
        simpa only [cnt2, hof, e', if_false] using hc
    exact hi m hm m' hm' hne (key m hm hc) (key m' hm' hc')

theorem make95 (n : Nat) (hn : n ≤ 1048576) (w : World) : (Instr.makeSlice 95 (.int .i64 n) (.int .i64 n)).run Try.prog w = .ok (.slice (some ⟨w.heap.size, 0, none⟩) n n) (w.alloc (.cells (madeCells #[.map none] n) 93)) := by
  have := make_any 95 93 #[.map none] 1 8 n Try.underlying95 (by kernel_rfl) (by omega) (by omega) w
  rwa [Nat.mul_one] at this

theorem map_eql_none (W : World) : (binOp .eql 93 (.map none) (.map none)).run Try.prog W = .ok (.bool true) W := by kernel_rfl
theorem map_eql_some (b : Nat) (W : World) : (binOp .eql 93 (.map (some b)) (.map none)).run Try.prog W = .ok (.bool false) W := by kernel_rfl
theorem makeMap_none (W : World) : (Instr.makeMap 93 none).run Try.prog W = .ok (.map (some W.heap.size)) (W.alloc (.map #[] 0)) := by
  simp [Instr.makeMap, newObj]
  rfl

set_option maxRecDepth 100000 in
set_option maxHeartbeats 4000000 in
theorem goneW (po : Option Addr) (q cap ns : Nat) (of ix : Nat → Int) (w : World) (hp : PairsAt w po q of ix) (hq : q ≤ 1048576) (hns : ns ≤ 1048576)
    (hin : ∀ p < q, 0 ≤ of p ∧ of p < ns ∧ 0 ≤ ix p ∧ ix p ≤ 1048576) (hone : ∀ p < q, ∀ p' < p, ¬ (of p' = of p ∧ ix p' = ix p)) :
    Calls Try.prog 26 #[.slice po q cap, .int .i64 ns] w fun e w' => e = .returned (.slice (some ⟨w.heap.size, 0, none⟩) ns ns) ∧ (∃ B, Gone w' w.heap.size ns q of ix B) ∧ Below w.heap.size w w' := by
  have HP : Hid (PairsAt w po q of ix) := hp
  have HI : Hid (∀ p < q, 0 ≤ of p ∧ of p < ns ∧ 0 ≤ ix p ∧ ix p ≤ 1048576) := hin
  have H1 : Hid (∀ p < q, ∀ p' < p, ¬ (of p' = of p ∧ ix p' = ix p)) := hone
  clear hp hin hone
  have hmk := make95 ns hns
  go_enter Try.func26, Try.ntmps26
  go_wp2
  clear hmk
  go_loopw [12] (fun i wr => ∃ k : Nat, k ≤ q ∧ i = .int .i64 k ∧ (∃ B, Gone wr w.heap.size ns k of ix B) ∧ Below w.heap.size w wr) (fun i _ => q - (intOf i).toNat)
  case atStart => exact ⟨0, by omega, rfl, ⟨fun _ => 0, Gone.made w ns of ix _⟩, (Below.refl _ _).alloc (Nat.le_refl _) _⟩
  case round =>
    obtain ⟨k, hk, rfl, ⟨B, hg⟩, hb⟩ := hrel
    have HG : Hid (Gone wr w.heap.size ns k of ix B) := hg
    have HB : Hid (Below w.heap.size w wr) := hb
    clear hg hb
    by_cases hlt : k < q
    · have hlti : (k : Int) < q := by omega
      obtain ⟨b, off, ha, hbw, hc⟩ := pair_at HP.out (by omega)
      subst ha
      have p0 := (HB.out.cell (by exact hbw)).trans (hc k hlt).1
      have p1 := (HB.out.cell (by exact hbw)).trans (hc k hlt).2
      have hbx : b < wr.heap.size := Nat.lt_of_lt_of_le hbw HB.out.size
      clear hc
      obtain ⟨f0, f1, f2, f3⟩ := HI.out k hlt
      obtain ⟨x, hx⟩ := Int.eq_ofNat_of_zero_le f0
      obtain ⟨y, hy⟩ := Int.eq_ofNat_of_zero_le f2
      have HX : Hid (of k = (x : Int)) := hx
      have HY : Hid (ix k = (y : Int)) := hy
      rw [hx] at p0 f1
      rw [hy] at p1 f3
      clear f0 f2 hx hy
      have hxn : x < ns := by omega
      have hxI : (x : Int) < ns := by omega
      obtain ⟨V, hr, hv⟩ := HG.out.row
      have v0 := hr.val x hxn
      have z0 := hr.open_ x
      have hgl : w.heap.size < wr.heap.size := hr.lt
      by_cases hc0 : cnt2 of k x = 0
      · rw [(hv x hxn).1 hc0] at v0
        have HC0 : Hid (cnt2 of k x = 0) := hc0
        clear hc0 hr hv
        have m1 := map_eql_none
        have m2 := makeMap_none
        obtain ⟨w1, hrun, hset, hgr⟩ := (SetAt.made ((wr.setCell ⟨w.heap.size, x, none⟩ (.map (some (wr.heap.size + 1)))).alloc (.cells #[.int .i64 x, .int .i64 y] 85))).drew.put y (by omega) (by omega) rfl
        simp only [World.size_alloc, World.size_setCell] at hrun hset hgr
        have HN : Hid (Gone w1 w.heap.size ns (k + 1) of ix (fun m => if m = x then wr.heap.size + 1 else B m)) := by
          refine HG.out.fresh hxn HX.out HY.out HC0.out (fun V hr => ?_) (fun j hj hne => ?_) (by omega) hset
          · exact ((((hr.put hxn _).alloc _).alloc _).drew).grown hgr (by omega)
          · rw [hgr.block j (by simp [World.drew]; omega) (fun e => by injection e with e; omega)]
            show (World.alloc (World.alloc (wr.setCell _ _) _) _).heap[j]? = _
            rw [heap_alloc_old _ _ (by rw [World.size_alloc, World.size_setCell]; omega), heap_alloc_old _ _ (by rw [World.size_setCell]; exact hj)]
            simp [World.setCell, Array.getElem?_modify, Ne.symm hne]
        have HBW : Hid (Below w.heap.size w w1) := ((((HB.out.setCell (by exact Nat.le_refl _) _).alloc (by rw [World.size_setCell]; exact HB.out.size) _).alloc (by rw [World.size_alloc, World.size_setCell]; have := HB.out.size; omega) _).drew).grown hgr (by simp [World.drew]; omega) (fun j hj => by injection hj with hj; omega)
        clear hset hgr
        go_wp2
        go_region
        all_goals
          go_wp2
          go_roundw
          case rel => exact ⟨k + 1, by omega, by go_num, ⟨_, HN.out⟩, HBW.out⟩
          case measure => simp [intOf]; omega
      · rw [(hv x hxn).2 (by omega)] at v0
        clear hr hv
        have m1 := map_eql_some (B x)
        have hs0 := HG.out.sets x hxn (by omega)
        have hgB : w.heap.size < B x := hs0.1
        have hgb2 : B x < wr.heap.size := hs0.2.lt
        have hno : in2 of ix k x y = false := by
          cases hh : in2 of ix k x y
          · rfl
          · obtain ⟨p, hp, e1, e2⟩ := (in2_iff of ix k x y).1 hh
            exact absurd ⟨e1.trans HX.out.symm, e2.trans HY.out.symm⟩ (H1.out k hlt p hp)
        have hal := (hs0.2.below ((Below.refl wr.heap.size wr).alloc (Nat.le_refl _) (.cells #[.int .i64 x, .int .i64 y] 85)) hgb2).drew
        obtain ⟨w1, hrun, hset, hgr⟩ := hal.put y (by omega) (by have := cnt2_le of k x; omega) hno
        have HN : Hid (Gone w1 w.heap.size ns (k + 1) of ix B) :=
          ((HG.out.below ((Below.refl wr.heap.size wr).alloc (Nat.le_refl _) (.cells #[.int .i64 x, .int .i64 y] 85))).drew).more hxn HX.out HY.out (by omega) hgr hset
        have HBW : Hid (Below w.heap.size w w1) := ((HB.out.alloc HB.out.size _).drew).grown hgr (by simp [World.drew]; omega) (fun j hj => by injection hj with hj; omega)
        clear hset hgr hs0 hal hno
        go_wp2
        go_region
        all_goals
          go_wp2
          go_roundw
          case rel => exact ⟨k + 1, by omega, by go_num, ⟨_, HN.out⟩, HBW.out⟩
          case measure => simp [intOf]; omega
    · have hkn : ¬ (k : Int) < q := by omega
      have hn' : q = k := by omega
      subst hn'
      go_wp2
      go_ret
      exact ⟨rfl, ⟨B, HG.out⟩, HB.out⟩
end Go.Proofs.Qxb6615139a
