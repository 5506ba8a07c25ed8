/- The walks of without: what stays. -/
import Derived.Test.Qxb6615139aBuild
import Derived.Test.Qxb6615139aSets
import Derived.Maps.AppendAt
import Derived.OwnWalk
namespace Go.Proofs.Qxb6615139a
open Go.RowKit

/-- The places below n that are not in s. -/
def kept (s : Nat → Bool) (n : Nat) : List Nat := (List.range n).filter (fun i => !s i)
theorem kept_in {s : Nat → Bool} {k : Nat} (h : s k = true) : kept s (k + 1) = kept s k := by simp [kept, List.range_succ, List.filter_append, h]
theorem kept_out {s : Nat → Bool} {k : Nat} (h : s k = false) : kept s (k + 1) = kept s k ++ [k] := by simp [kept, List.range_succ, List.filter_append, h]
theorem kept_len (s : Nat → Bool) (k : Nat) : (kept s k).length ≤ k := by
  have := List.length_filter_le (fun i => !s i) (List.range k)
  simpa [kept] using this

/-- A slice of m-celled elements: L at the places 'is'. -/
def ListAt (w : World) (v : Value) (m : Nat) (is : List Nat) (L : Nat → List Value) : Prop :=
  ∃ ao cap, v = .slice ao is.length cap ∧ (is = [] ∨ ∃ b off, ao = some ⟨b, off, none⟩ ∧ b < w.heap.size ∧ ∀ p (hp : p < is.length), w.rangeAt b (off + p * m) (L is[p]))

theorem ElemsTo.range {w : World} {g n m k : Nat} {L : Nat → List Value} (h : ElemsTo w g n m k L) (hL : ∀ j, (L j).length = m) {j : Nat} (hj : j < k) (hn : k ≤ n) : w.rangeAt g (j * m) (L j) := by
  obtain ⟨V, hr, hv⟩ := h
  have : j * m + m ≤ n * m := by rw [← Nat.succ_mul]; exact Nat.mul_le_mul_right _ (by omega)
  refine hr.range (by rw [hL]; exact this) (fun i hi => ?_)
  have hi' : i < m := by rw [← hL j]; exact hi
  rw [hv j hj i hi']
  simp [List.getD, hi]
theorem ElemsTo.list {w : World} {g n m : Nat} {L : Nat → List Value} (h : ElemsTo w g n m n L) (hL : ∀ j, (L j).length = m) (cap : Nat) : ListAt w (.slice (some ⟨g, 0, none⟩) n cap) m (List.range n) L :=
  ⟨_, cap, by simp, Or.inr ⟨g, 0, rfl, h.lt, fun p hp => by simpa using h.range hL (by simpa using hp) (Nat.le_refl _)⟩⟩

theorem flat_get {L : Nat → List Value} {m : Nat} (hL : ∀ j, (L j).length = m) : ∀ (is : List Nat) (p : Nat) (hp : p < is.length) (i : Nat), i < m → (is.flatMap L)[p * m + i]? = (L is[p])[i]?
  | a :: is, 0, _, i, hi => by simp [List.flatMap_cons, List.getElem?_append, hL, hi]
  | a :: is, p + 1, hp, i, hi => by
    have := flat_get hL is p (by simpa using hp) i hi
    rw [List.flatMap_cons, List.getElem?_append_right (by rw [hL, Nat.succ_mul]; omega), hL, show (p + 1) * m + i - m = p * m + i by rw [Nat.succ_mul]; omega, this]
    simp
theorem flat_len {L : Nat → List Value} {m : Nat} (hL : ∀ j, (L j).length = m) (is : List Nat) : (is.flatMap L).length = is.length * m := by
  induction is with
  | nil => simp
  | cons a is ih => rw [List.flatMap_cons, List.length_append, hL, ih, List.length_cons, Nat.succ_mul]; omega

theorem own_list {w : World} {B m : Nat} {e : TypeId} {v : Value} {is : List Nat} {L : Nat → List Value} (h : w.ownsRow B e m v is.length (is.flatMap L)) (hL : ∀ j, (L j).length = m) : ListAt w v m is L := by
  rcases h.2 with ⟨rfl, h0⟩ | ⟨g, cap, cur, rfl, hb, hg, hnc, hcm, hcs, htake⟩
  · exact ⟨none, 0, by rw [h0], Or.inl (List.eq_nil_of_length_eq_zero h0)⟩
  · refine ⟨_, cap, rfl, Or.inr ⟨g, 0, rfl, (Array.getElem?_eq_some_iff.1 hg).1, fun p hp j u hu => ?_⟩⟩
    have hj : j < m := by rw [← hL is[p]]; exact (List.getElem?_eq_some_iff.1 hu).1
    have := h.cells (g := g) rfl (p * m + j) u (by rw [flat_get hL is p hp j hj]; exact hu)
    rw [Addr.add_mid] at this
    rw [Nat.zero_add]
    rw [Nat.zero_add] at this
    exact this
theorem ListAt.below {w w' : World} {v : Value} {m : Nat} {is : List Nat} {L : Nat → List Value} (h : ListAt w v m is L) (hb : Below w.heap.size w w') : ListAt w' v m is L := by
  obtain ⟨ao, cap, hv, h⟩ := h
  refine ⟨ao, cap, hv, ?_⟩
  rcases h with h | ⟨b, off, ha, hbw, hc⟩
  · exact Or.inl h
  · exact Or.inr ⟨b, off, ha, Nat.lt_of_lt_of_le hbw hb.size, fun p hp j u hu => (hb.cell (by exact hbw)).trans (hc p hp j u hu)⟩

theorem make_cap (t e : TypeId) (z : Array Value) (k bytes n : Nat) (ht : Try.prog.underlying t = some (.slice e)) (hi : (Try.prog.info? e).map (fun i => (i.zero.map (·.cells), i.size, i.bytes)) = some (some z, k, bytes))
    (hb : bytes * n ≤ 281474976710656) (hn : n ≤ 9223372036854775807) (w : World) :
    (Instr.makeSlice t (.int .i64 0) (.int .i64 n)).run Try.prog w = .ok (.slice (some ⟨w.heap.size, 0, none⟩) 0 n) (w.alloc (.cells (madeCells z (n * k)) e)) := by
  obtain ⟨i, h1, h2⟩ := Option.map_eq_some_iff.1 hi
  simp only [Prod.mk.injEq] at h2
  obtain ⟨hz, hs, hbb⟩ := h2
  obtain ⟨zv, hzv, hzc⟩ := Option.map_eq_some_iff.1 hz
  have := run_make (P := Try.prog) w t e i zv ht h1 hzv .i64 .i64 0 n (by omega) (by omega) (by rw [hbb]; omega) (by omega)
  rw [hs, hzc] at this
  simpa using this

theorem news_at (W : World) (cs : List Value) (t : TypeId) (g : Nat) (hg : g = W.heap.size) : ∀ j u, cs[j]? = some u → (W.alloc (.cells cs.toArray t)).cell? ((⟨g, 0, none⟩ : Addr).add j) = some u := by
  intro j u hu
  rw [Addr.add_mid, Nat.zero_add, World.cell?_alloc_at _ _ _ _ hg]
  simpa using hu
theorem kept_all {s : Nat → Bool} {n : Nat} (h : ∀ i < n, s i = false) : kept s n = List.range n := by
  rw [kept, List.filter_eq_self]
  intro i hi
  rw [h i (by simpa using hi)]; rfl

/-- The answer of without. -/
def KeptAns (w : World) (g m : Nat) (s : Nat → Bool) (n : Nat) (L : Nat → List Value) (e : Ending) (w' : World) : Prop := ∃ v, e = .returned v ∧ ListAt w' v m (kept s n) L ∧ (∀ b o l c, v = .slice (some ⟨b, o, none⟩) l c → b = g ∨ w.heap.size ≤ b) ∧ Below w.heap.size w w'
theorem own_where {w : World} {B m n : Nat} {e : TypeId} {v : Value} {xs : List Value} (h : w.ownsRow B e m v n xs) : ∀ b o l c, v = .slice (some ⟨b, o, none⟩) l c → B ≤ b := by
  rintro b o l c rfl
  rcases h.2 with ⟨h, h0⟩ | ⟨g, cap, cur, h, hb, _⟩
  · cases h
  · cases h; exact hb

set_option maxRecDepth 100000 in
set_option maxHeartbeats 4000000 in
theorem withoutRW (g n cap b c d : Nat) (r : Nat → Nat → ByteArray) (s : Nat → Bool) (w : World) (he : ElemsTo w g n 3 n (refL r)) (hs : SetAt w b c s) (hn : n ≤ 1048576) (hd : n = c + d) (h0 : c = 0 → ∀ i < n, s i = false) :
    Calls Try.prog 27 #[.slice (some ⟨g, 0, none⟩) n cap, .map (some b)] w (KeptAns w g 3 s n (refL r)) := by
  have HE : Hid (ElemsTo w g n 3 n (refL r)) := he
  have HS : Hid (SetAt w b c s) := hs
  have H0 : Hid (c = 0 → ∀ i < n, s i = false) := h0
  have hlen := hs.len 3
  have hlt := he.lt
  clear he hs h0
  have hmk := make_cap 63 54 #[.string { data := #[] }, .string { data := #[] }, .string { data := #[] }] 3 48 d Try.underlying63 (by kernel_rfl) (by omega) (by omega)
  by_cases hc : c = 0
  · have hcI : (c : Int) = 0 := by omega
    go_enter Try.func27, Try.ntmps27
    go_wp2
    go_ret
    refine ⟨_, rfl, ?_, fun b o l c h => by cases h; exact Or.inl rfl, Below.refl _ _⟩
    rw [kept_all (H0.out hc)]
    exact HE.out.list (fun _ => rfl) _
  · have hcI : ¬ (c : Int) = 0 := by omega
    have hc0 : ((c : Int) == 0) = false := by simpa using hcI
    have hsub : (n : Int) - c = d := by omega
    have hdI : (d : Int) ≤ 1048576 := by omega
    have hnI : (n : Int) ≤ 1048576 := by omega
    have HD : Hid (n = c + d) := hd
    clear hd hlen
    have hlen := HS.out.len 3
    go_enter Try.func27, Try.ntmps27
    go_wp2
    clear hmk hlen
    obtain ⟨i0, hi0, hz0, hz1, hz2⟩ := info_parts (P := Try.prog) (e := 54) (z := .agg #[.string { data := #[] }, .string { data := #[] }, .string { data := #[] }]) (size := 3) (bytes := 48) (by kernel_rfl)
    have HI : Hid (Try.prog.info? 54 = some i0 ∧ i0.zero = some (.agg #[.string { data := #[] }, .string { data := #[] }, .string { data := #[] }]) ∧ i0.size = 3 ∧ i0.bytes = 48) := ⟨hi0, hz0, hz1, hz2⟩
    clear hi0 hz0 hz1 hz2
    go_loopw [5, 20] (fun v i wr => ∃ (k : Nat) (vv : Value), vv = v ∧ k ≤ n ∧ i = .int .i64 k ∧ wr.ownsRow w.heap.size 54 3 vv (kept s k).length ((kept s k).flatMap (refL r)) ∧ Below w.heap.size w wr) (fun _ i _ => n - (intOf i).toNat)
    case atStart => exact ⟨0, _, rfl, by omega, rfl, World.ownsRow_made w _ d (Nat.le_refl _) (by unfold maxLen; omega) (by simp [madeCells]), (Below.refl _ _).alloc (Nat.le_refl _) _⟩
    case round =>
      obtain ⟨k, vv, hvv, hk, rfl, ho, hb⟩ := hrel
      subst hvv
      have HO : Hid (wr.ownsRow w.heap.size 54 3 vv (kept s k).length ((kept s k).flatMap (refL r))) := ho
      have HB : Hid (Below w.heap.size w wr) := hb
      clear ho hb
      by_cases hlt2 : k < n
      · have hlti : (k : Int) < n := by omega
        have rng := HE.out.range (fun _ => rfl) hlt2 (Nat.le_refl _)
        have e0 := (HB.out.cell (by exact hlt)).trans (rng 0 _ rfl)
        have e1 := (HB.out.cell (by exact hlt)).trans (rng 1 _ rfl)
        have e2 := (HB.out.cell (by exact hlt)).trans (rng 2 _ rfl)
        rw [Nat.add_zero] at e0
        clear rng
        have hlk : ∀ (cs : Array Value) (t : TypeId), (Instr.lookup 93 (.map (some b)) (.int .i64 k) false).run Try.prog (wr.alloc (.cells cs t)) = .ok (.bool (s k)) (wr.alloc (.cells cs t)) := fun cs t =>
          (HS.out.below (HB.out.alloc HB.out.size _) HS.out.lt).look k (by omega)
        cases hsk : s k
        · rw [hsk] at hlk
          have hkl := kept_len s k
          obtain ⟨hi0, hz0, hz1, hz2⟩ := HI.out
          have HI0 : Hid (Try.prog.info? 54 = some i0) := hi0
          have HZ0 : Hid _ := hz0
          have HZ1 : Hid _ := hz1
          have HZ2 : Hid _ := hz2
          have HSK : Hid (s k = false) := hsk
          clear hi0 hz0 hz1 hz2 hsk
          have hwr : w.heap.size ≤ wr.heap.size := HB.out.size
          go_wp2_with (at_builtin; refine wpList_append_own_at _ rfl _ _ 63 rfl w.heap.size 54 i0 _ 3 48 Try.underlying63 HI0.out HZ0.out HZ1.out HZ2.out rfl (by decide) vv (kept s k).length ((kept s k).flatMap (refL r)) rfl ((HO.out.alloc _).alloc _) ⟨wr.heap.size + 1, 0, none⟩ 1 1 (refL r k) rfl rfl (news_at _ (refL r k) 54 _ (by simp)) (by simp [refL, Value.oneCell']) (by unfold maxLen; omega) (by omega) (by simp only [World.size_alloc]; omega) ?_; intro v' w1 hown' hgrow hnil hat)
          have HOW : Hid (w1.ownsRow w.heap.size 54 3 v' (kept s (k + 1)).length ((kept s (k + 1)).flatMap (refL r))) := by
            show World.ownsRow _ _ _ _ _ _ _
            rw [kept_out HSK.out, List.length_append, List.flatMap_append, List.flatMap_cons, List.flatMap_nil, List.append_nil]
            exact hown'
          have HBW : Hid (Below w.heap.size w w1) := ((HB.out.alloc hwr _).alloc (by simp only [World.size_alloc]; omega) _).grown hgrow (by simp only [World.size_alloc]; omega) (fun j hj => (HO.out.lt j hj).1)
          clear hown' hgrow hnil hat
          go_wp2
          go_roundw
          case rel => exact ⟨k + 1, v', rfl, by omega, by go_num, HOW.out, HBW.out⟩
          case measure => simp [intOf]; omega
        · rw [hsk] at hlk
          have HSK : Hid (s k = true) := hsk
          clear hsk
          go_wp2
          go_roundw
          case rel => exact ⟨k + 1, _, rfl, by omega, by go_num, by rw [kept_in HSK.out]; exact HO.out.alloc _, HB.out.alloc HB.out.size _⟩
          case measure => simp [intOf]; omega
      · have hkn : ¬ (k : Int) < n := by omega
        have hn' : n = k := by omega
        subst hn'
        go_wp2
        go_ret
        exact ⟨_, rfl, own_list HO.out (fun _ => rfl), fun b o l c h => Or.inr (own_where HO.out b o l c h), HB.out⟩

set_option maxRecDepth 100000 in
theorem withoutR0 (g n cap : Nat) (r : Nat → Nat → ByteArray) (w : World) (he : ElemsTo w g n 3 n (refL r)) :
    Calls Try.prog 27 #[.slice (some ⟨g, 0, none⟩) n cap, .map none] w (KeptAns w g 3 (fun _ => false) n (refL r)) := by
  have HE : Hid (ElemsTo w g n 3 n (refL r)) := he
  clear he
  go_enter Try.func27, Try.ntmps27
  go_wp2
  go_ret
  refine ⟨_, rfl, ?_, fun b o l c h => by cases h; exact Or.inl rfl, Below.refl _ _⟩
  rw [kept_all (fun _ _ => rfl)]
  exact HE.out.list (fun _ => rfl) _

set_option maxRecDepth 100000 in
set_option maxHeartbeats 4000000 in
theorem withoutFW (g n cap b c d : Nat) (T : Nat → ByteArray) (s : Nat → Bool) (w : World) (he : ElemsTo w g n 12 n (fun j => factL (T j))) (hs : SetAt w b c s) (hn : n ≤ 1048576) (hd : n = c + d) (h0 : c = 0 → ∀ i < n, s i = false) :
    Calls Try.prog 24 #[.slice (some ⟨g, 0, none⟩) n cap, .map (some b)] w (KeptAns w g 12 s n (fun j => factL (T j))) := by
  have HE : Hid (ElemsTo w g n 12 n (fun j => factL (T j))) := he
  have HS : Hid (SetAt w b c s) := hs
  have H0 : Hid (c = 0 → ∀ i < n, s i = false) := h0
  have hlen := hs.len 3
  have hlt := he.lt
  clear he hs h0
  have hmk := make_cap 33 60 (factL { data := #[] }).toArray 12 144 d Try.underlying33 (by kernel_rfl) (by omega) (by omega)
  by_cases hc : c = 0
  · have hcI : (c : Int) = 0 := by omega
    go_enter Try.func24, Try.ntmps24
    go_wp2
    go_ret
    refine ⟨_, rfl, ?_, fun b o l c h => by cases h; exact Or.inl rfl, Below.refl _ _⟩
    rw [kept_all (H0.out hc)]
    exact HE.out.list (fun _ => rfl) _
  · have hcI : ¬ (c : Int) = 0 := by omega
    have hc0 : ((c : Int) == 0) = false := by simpa using hcI
    have hsub : (n : Int) - c = d := by omega
    have hdI : (d : Int) ≤ 1048576 := by omega
    have hnI : (n : Int) ≤ 1048576 := by omega
    have HD : Hid (n = c + d) := hd
    clear hd hlen
    have hlen := HS.out.len 3
    go_enter Try.func24, Try.ntmps24
    go_wp2
    clear hmk hlen
    obtain ⟨i0, hi0, hz0, hz1, hz2⟩ := info_parts (P := Try.prog) (e := 60) (z := .agg (factL { data := #[] }).toArray) (size := 12) (bytes := 144) (by kernel_rfl)
    have HI : Hid (Try.prog.info? 60 = some i0 ∧ i0.zero = some (.agg (factL { data := #[] }).toArray) ∧ i0.size = 12 ∧ i0.bytes = 144) := ⟨hi0, hz0, hz1, hz2⟩
    clear hi0 hz0 hz1 hz2
    go_loopw [5, 20] (fun v i wr => ∃ (k : Nat) (vv : Value), vv = v ∧ k ≤ n ∧ i = .int .i64 k ∧ wr.ownsRow w.heap.size 60 12 vv (kept s k).length ((kept s k).flatMap (fun j => factL (T j))) ∧ Below w.heap.size w wr) (fun _ i _ => n - (intOf i).toNat)
    case atStart => exact ⟨0, _, rfl, by omega, rfl, World.ownsRow_made w _ d (Nat.le_refl _) (by unfold maxLen; omega) (by simp [madeCells]), (Below.refl _ _).alloc (Nat.le_refl _) _⟩
    case round =>
      obtain ⟨k, vv, hvv, hk, rfl, ho, hb⟩ := hrel
      subst hvv
      have HO : Hid (wr.ownsRow w.heap.size 60 12 vv (kept s k).length ((kept s k).flatMap (fun j => factL (T j)))) := ho
      have HB : Hid (Below w.heap.size w wr) := hb
      clear ho hb
      by_cases hlt2 : k < n
      · have hlti : (k : Int) < n := by omega
        have rng := HE.out.range (fun _ => rfl) hlt2 (Nat.le_refl _)
        have e0 := (HB.out.cell (by exact hlt)).trans (rng 0 _ rfl)
        have e1 := (HB.out.cell (by exact hlt)).trans (rng 1 _ rfl)
        have e2 := (HB.out.cell (by exact hlt)).trans (rng 2 _ rfl)
        have e3 := (HB.out.cell (by exact hlt)).trans (rng 3 _ rfl)
        have e4 := (HB.out.cell (by exact hlt)).trans (rng 4 _ rfl)
        have e5 := (HB.out.cell (by exact hlt)).trans (rng 5 _ rfl)
        have e6 := (HB.out.cell (by exact hlt)).trans (rng 6 _ rfl)
        have e7 := (HB.out.cell (by exact hlt)).trans (rng 7 _ rfl)
        have e8 := (HB.out.cell (by exact hlt)).trans (rng 8 _ rfl)
        have e9 := (HB.out.cell (by exact hlt)).trans (rng 9 _ rfl)
        have e10 := (HB.out.cell (by exact hlt)).trans (rng 10 _ rfl)
        have e11 := (HB.out.cell (by exact hlt)).trans (rng 11 _ rfl)
        have hfl : ∀ W : World, W.cell? ⟨wr.heap.size, 9, none⟩ = some (.float .f64 0) → W.frozen? ⟨wr.heap.size, 9, none⟩ = false → (store ⟨wr.heap.size, 9, none⟩ (.float .f64 0)).run Try.prog W = .ok () (W.setCell ⟨wr.heap.size, 9, none⟩ (.float .f64 0)) := fun W h1 h2 => by rw [run_store _ _ _ _ _ rfl]; simp [h1, h2]
        rw [Nat.add_zero] at e0
        clear rng
        have hlk : ∀ (cs : Array Value) (t : TypeId), (Instr.lookup 93 (.map (some b)) (.int .i64 k) false).run Try.prog (wr.alloc (.cells cs t)) = .ok (.bool (s k)) (wr.alloc (.cells cs t)) := fun cs t =>
          (HS.out.below (HB.out.alloc HB.out.size _) HS.out.lt).look k (by omega)
        cases hsk : s k
        · rw [hsk] at hlk
          have hkl := kept_len s k
          obtain ⟨hi0, hz0, hz1, hz2⟩ := HI.out
          have HI0 : Hid (Try.prog.info? 60 = some i0) := hi0
          have HZ0 : Hid _ := hz0
          have HZ1 : Hid _ := hz1
          have HZ2 : Hid _ := hz2
          have HSK : Hid (s k = false) := hsk
          clear hi0 hz0 hz1 hz2 hsk
          have hwr : w.heap.size ≤ wr.heap.size := HB.out.size
          go_wp2_with (at_builtin; refine wpList_append_own_at _ rfl _ _ 33 rfl w.heap.size 60 i0 _ 12 144 Try.underlying33 HI0.out HZ0.out HZ1.out HZ2.out rfl (by decide) vv (kept s k).length ((kept s k).flatMap (fun j => factL (T j))) rfl ((HO.out.alloc _).alloc _) ⟨wr.heap.size + 1, 0, none⟩ 1 1 (factL (T k)) rfl rfl (news_at _ (factL (T k)) 60 _ (by simp)) (by simp [factL, Value.oneCell']) (by unfold maxLen; omega) (by omega) (by simp only [World.size_alloc]; omega) ?_; intro v' w1 hown' hgrow hnil hat)
          have HOW : Hid (w1.ownsRow w.heap.size 60 12 v' (kept s (k + 1)).length ((kept s (k + 1)).flatMap (fun j => factL (T j)))) := by
            show World.ownsRow _ _ _ _ _ _ _
            rw [kept_out HSK.out, List.length_append, List.flatMap_append, List.flatMap_cons, List.flatMap_nil, List.append_nil]
            exact hown'
          have HBW : Hid (Below w.heap.size w w1) := ((HB.out.alloc hwr _).alloc (by simp only [World.size_alloc]; omega) _).grown hgrow (by simp only [World.size_alloc]; omega) (fun j hj => (HO.out.lt j hj).1)
          clear hown' hgrow hnil hat
          go_wp2
          go_roundw
          case rel => exact ⟨k + 1, v', rfl, by omega, by go_num, HOW.out, HBW.out⟩
          case measure => simp [intOf]; omega
        · rw [hsk] at hlk
          have HSK : Hid (s k = true) := hsk
          clear hsk
          go_wp2
          go_roundw
          case rel => exact ⟨k + 1, _, rfl, by omega, by go_num, by rw [kept_in HSK.out]; exact HO.out.alloc _, HB.out.alloc HB.out.size _⟩
          case measure => simp [intOf]; omega
      · have hkn : ¬ (k : Int) < n := by omega
        have hn' : n = k := by omega
        subst hn'
        go_wp2
        go_ret
        exact ⟨_, rfl, own_list HO.out (fun _ => rfl), fun b o l c h => Or.inr (own_where HO.out b o l c h), HB.out⟩

end Go.Proofs.Qxb6615139a
