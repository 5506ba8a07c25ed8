/- The walks of encPos, cmpBytes17, cmpPosModel. -/
import Derived.Test.Qxb6616641aCmp
import Derived.Deep.MidRow
import Derived.BigQuiet
import Derived.Deep.QuietTactic
namespace Go.Proofs.Qxb6616641a
open Go.RowKit PlainPos

/-- What encPos keeps of a key or a stamp. -/
def flip63 (k : Int) : Int := bits BinOp.xor IntKind.u64 (IntKind.u64.wrap k) 9223372036854775808

/-- Byte m of the encoding behind j rounds. -/
def encB (s K T : Int) (j m : Nat) : Int :=
  if m = 0 then s else if m < 9 then (if m - 1 < j then K / 2 ^ (56 - 8 * (m - 1)) % 256 else 0) else (if m - 9 < j then T / 2 ^ (56 - 8 * (m - 9)) % 256 else 0)

def encL (f : Nat → Int) : List Value := (List.range 17).map fun m => .int .u8 (f m)
theorem encL_length (f : Nat → Int) : (encL f).length = 17 := by simp [encL]
theorem encA_size (f : Nat → Int) : (encL f).toArray.size = 17 := by rw [List.size_toArray, encL_length]
theorem encL_get (f : Nat → Int) (m : Nat) (h : m < 17) : (encL f)[m]? = some (.int .u8 (f m)) := by
  unfold encL; rw [List.getElem?_map, List.getElem?_range h]; rfl
theorem encL_one (f : Nat → Int) : ∀ v ∈ encL f, v.oneCell' = true := by
  intro v hv; unfold encL at hv; obtain ⟨m, _, rfl⟩ := List.mem_map.1 hv; rfl
theorem range_of {w : World} {b : Nat} {f : Nat → Int} (h : ∀ m < 17, w.cell? ⟨b, m, none⟩ = some (.int .u8 (f m))) : w.rangeAt b 0 (encL f) := by
  intro j v hv
  have hj : j < 17 := by
    have := (List.getElem?_eq_some_iff.1 hv).1
    rw [encL_length] at this; exact this
  rw [encL_get f j hj] at hv
  rw [Nat.zero_add, h j hj]; exact hv

theorem cs_same {w : World} {a : Addr} {u : Value} (h : w.cell? a = some u) (v : Value) : (w.setCell a v).cell? a = some v := World.cell?_setCell_same _ _ _ h
theorem cs_other {w : World} {b m m' : Nat} (h : m ≠ m') (v : Value) : (w.setCell ⟨b, m, none⟩ v).cell? ⟨b, m', none⟩ = w.cell? ⟨b, m', none⟩ :=
  World.cell?_setCell_other _ _ _ _ (by intro e; injection e with _ e; exact h e)
theorem there_set {w : World} {b o n : Nat} (h : w.there b o n) (a : Addr) (v : Value) : (w.setCell a v).there b o n := fun j hj => by
  obtain ⟨h1, h2⟩ := h j hj
  obtain ⟨u, hu⟩ := Option.isSome_iff_exists.1 h1
  obtain ⟨v', hv⟩ := cell?_setCell_some (p := a) (x := v) hu
  exact ⟨by rw [hv]; rfl, by rw [World.frozen?_setCell]; exact h2⟩

/-- The cells behind one round. -/
theorem enc_round (s K T : Int) (j : Nat) (hj : j < 8) (b : Nat) (wr : World)
    (hc : ∀ m < 17, wr.cell? ⟨b, m, none⟩ = some (.int .u8 (encB s K T j m))) :
    ∀ m < 17, ((wr.setCell ⟨b, 1 + j, none⟩ (.int .u8 (K / 2 ^ (56 - 8 * j) % 256))).setCell ⟨b, 9 + j, none⟩ (.int .u8 (T / 2 ^ (56 - 8 * j) % 256))).cell? ⟨b, m, none⟩ = some (.int .u8 (encB s K T (j + 1) m)) := by
  intro m hm
  have h0 := hc m hm
  have h1 := hc (1 + j) (by omega)
  have h2 := hc (9 + j) (by omega)
  by_cases e2 : m = 9 + j
  · subst e2
    rw [cs_same (u := .int .u8 (encB s K T j (9 + j))) (by rw [cs_other (by omega)]; exact h2)]
    unfold encB
    rw [if_neg (by omega), if_neg (by omega), if_pos (by omega), show 9 + j - 9 = j by omega]
  · rw [cs_other (by omega)]
    by_cases e1 : m = 1 + j
    · subst e1
      rw [cs_same h1]
      unfold encB
      rw [if_neg (by omega), if_pos (by omega), if_pos (by omega), show 1 + j - 1 = j by omega]
    · rw [cs_other (by omega), h0]
      unfold encB
      by_cases c0 : m = 0
      · rw [if_pos c0, if_pos c0]
      · rw [if_neg c0, if_neg c0]
        by_cases c9 : m < 9
        · rw [if_pos c9, if_pos c9]
          by_cases c : m - 1 < j
          · rw [if_pos c, if_pos (by omega)]
          · rw [if_neg c, if_neg (by omega)]
        · rw [if_neg c9, if_neg c9]
          by_cases c : m - 9 < j
          · rw [if_pos c, if_pos (by omega)]
          · rw [if_neg c, if_neg (by omega)]

theorem enc_start (s K T : Int) (w : World) (Z : Array Value) (hZ : Z.size = 17) :
    (∀ m < 17, ((w.alloc (.cells Z 64)).alloc (.cells (encL (encB s K T 0)).toArray 64)).cell? ⟨w.heap.size + 1, m, none⟩ = some (.int .u8 (encB s K T 0 m))) ∧
    (∀ m < 17, ((w.alloc (.cells Z 64)).alloc (.cells (encL (encB s K T 0)).toArray 64)).frozen? ⟨w.heap.size + 1, m, none⟩ = false) ∧
    ((w.alloc (.cells Z 64)).alloc (.cells (encL (encB s K T 0)).toArray 64)).there w.heap.size 0 17 := by
  have hs : (w.alloc (.cells Z 64)).heap.size = w.heap.size + 1 := by simp
  have hb : w.frozen? ⟨w.heap.size, 0, none⟩ = w.frozen? ⟨w.heap.size, 0, none⟩ := rfl
  refine ⟨fun m hm => ?_, fun m hm => ?_, fun j hj => ⟨?_, ?_⟩⟩
  · rw [← hs, World.cell?_alloc_new]
    simpa using encL_get _ m hm
  · rw [frozen?_alloc_cells, frozen?_alloc_cells]
    simp [World.frozen?]
  · rw [World.cell?_alloc_lt _ _ _ (by simp)]
    rw [World.cell?_alloc_new]
    simp [hZ]; omega
  · rw [frozen?_alloc_cells, frozen?_alloc_cells]
    simp [World.frozen?]

theorem grown_drewN {W w' : World} (h : Grown W w') : ∀ n, Grown W (w'.drewN n) := by
  intro n
  induction n generalizing w' with
  | zero => exact h
  | succ n ih => exact ih h.drew

theorem grown_setCells {W w' : World} (h : Grown W w') {b : Nat} (ha : W.heap.size ≤ b) : ∀ (vs : List Value) (o : Nat), Grown W (w'.setCells b o vs) := by
  intro vs
  induction vs generalizing w' with
  | nil => intro o; exact h
  | cons v vs ih => intro o; exact ih (h.setCell (a := ⟨b, o, none⟩) ha v) (o + 1)

theorem results_cell1 {fn : Func} {p : Tmp} {ty : TypeId} (h : fn.results = #[.cell p ty]) (tmps : Array Value) {P : Program} {w : World} {a : Addr} {v : Value}
    (hp : tmps.getD p undef = .pointer (some a)) (hl : (loadVar ty a).run P w = .ok v w) : (results fn tmps).run P w = .ok v w := by
  simp only [results, h]
  have hp' : tmps[p]?.getD undef = .pointer (some a) := by simpa using hp
  simp [hp', asAddr, hl]

theorem size64 {f : Nat → Int} : (Try.prog.info? 64).map (·.size) = some (encL f).length := by rw [encL_length]; kernel_rfl
theorem size64' {f : Nat → Int} : (Try.prog.info? 64).map (·.size) = some (encL f).toArray.size := by rw [encA_size]; kernel_rfl

set_option maxHeartbeats 1000000 in
theorem encPosW (s k t : Int) (w : World) :
    Calls Try.prog 31 #[.int .u8 s, .int .i64 k, .int .i64 t] w fun e w' => e = .returned (.agg (encL (encB s (flip63 k) (flip63 t) 8)).toArray) ∧ Grown w w' := by
  have HK : Hid (flip63 k = bits BinOp.xor IntKind.u64 (IntKind.u64.wrap k) 9223372036854775808) := rfl
  have HT : Hid (flip63 t = bits BinOp.xor IntKind.u64 (IntKind.u64.wrap t) 9223372036854775808) := rfl
  go_enter Try.func31, Try.ntmps31
  go_wp2
  go_loopw [10] (fun i wr => ∃ j : Nat, j ≤ 8 ∧ i = .int .i64 j ∧ Grown w wr ∧ (∀ m < 17, wr.cell? ⟨w.heap.size + 1, m, none⟩ = some (.int .u8 (encB s (flip63 k) (flip63 t) j m))) ∧
      (∀ m < 17, wr.frozen? ⟨w.heap.size + 1, m, none⟩ = false) ∧ wr.there w.heap.size 0 17) (fun i _ => 8 - (intOf i).toNat)
  case atStart =>
    obtain ⟨g1, g2, g3⟩ := enc_start s (flip63 k) (flip63 t) w #[.int .u8 0, .int .u8 0, .int .u8 0, .int .u8 0, .int .u8 0, .int .u8 0, .int .u8 0, .int .u8 0, .int .u8 0, .int .u8 0, .int .u8 0, .int .u8 0, .int .u8 0, .int .u8 0, .int .u8 0, .int .u8 0, .int .u8 0] rfl
    exact ⟨0, by omega, rfl, ((Grown.refl w).alloc _ _).alloc _ _, g1, g2, g3⟩
  case round =>
    obtain ⟨j, hj, rfl, hg, hc, hf, ht⟩ := hrel
    by_cases hlt : j < 8
    · have HR : Hid (∀ m < 17, ((wr.setCell ⟨w.heap.size + 1, 1 + j, none⟩ (.int .u8 (flip63 k / 2 ^ (56 - 8 * j) % 256))).setCell ⟨w.heap.size + 1, 9 + j, none⟩ (.int .u8 (flip63 t / 2 ^ (56 - 8 * j) % 256))).cell? ⟨w.heap.size + 1, m, none⟩ = some (.int .u8 (encB s (flip63 k) (flip63 t) (j + 1) m))) := enc_round s _ _ j hlt _ wr hc
      have h1 := hc (1 + j) (by omega)
      have h2 := hc (9 + j) (by omega)
      have f1 := hf (1 + j) (by omega)
      have f2 := hf (9 + j) (by omega)
      have HF : Hid (∀ m < 17, wr.frozen? ⟨w.heap.size + 1, m, none⟩ = false) := hf
      have HT' : Hid (wr.there w.heap.size 0 17) := ht
      clear hc hf ht
      go_wp2
      go_roundw
      case rel =>
        refine ⟨j + 1, by omega, by go_num, ?_, ?_, ?_, ?_⟩
        · exact (hg.setCell (by simp) _).setCell (by simp) _
        · rw [← HK.out, ← HT.out]; exact HR.out
        · intro m hm; rw [World.frozen?_setCell, World.frozen?_setCell]; exact HF.out m hm
        · exact there_set (there_set HT'.out _ _) _ _
      case measure => simp [intOf]; omega
    · have hj8 : j = 8 := by omega
      subst hj8
      have hr : wr.rangeAt (w.heap.size + 1) 0 (encL (encB s (flip63 k) (flip63 t) 8)) := range_of hc
      have HG : Hid (Grown w wr) := hg
      have HR : Hid (wr.rangeAt (w.heap.size + 1) 0 (encL (encB s (flip63 k) (flip63 t) 8))) := hr
      have HT' : Hid (wr.there w.heap.size 0 17) := ht
      have ht17 : wr.there w.heap.size 0 (encL (encB s (flip63 k) (flip63 t) 8)).toArray.size := by rw [encA_size]; exact ht
      clear hc hf hr hg ht
      go_wp2_with (first | (refine wpList_load_mid rfl 64 (.tmp 7) rfl (w.heap.size + 1) 0 (by rfl) (encL (encB s (flip63 k) (flip63 t) 8)) _ HR.out Try.underlying64 rfl size64 ?_) | (refine wpList_store_mid rfl 64 (.tmp 6) (.tmp 43) rfl w.heap.size 0 (encL (encB s (flip63 k) (flip63 t) 8)).toArray (by rfl) (by rfl) ht17 size64' (all_oneCell_toArray (encL_one _)) ?_))
      refine bodyPost_ret (v := .agg (encL (encB s (flip63 k) (flip63 t) 8)).toArray) ?_ rfl ⟨rfl, grown_setCells HG.out (Nat.le_refl _) _ _⟩
      have hrow := run_loadVar_mid (P := Try.prog) (wr.setCells w.heap.size 0 (encL (encB s (flip63 k) (flip63 t) 8)).toArray.toList) w.heap.size 0 64 (encL (encB s (flip63 k) (flip63 t) 8)) _ (by
        rw [List.toList_toArray]; exact World.rangeAt_setCells_same _ _ _ _ (by rw [encL_length]; exact HT'.out)) Try.underlying64 rfl size64
      exact results_cell1 Try.results31 _ rfl hrow

/-- Compared byte by byte from byte k on (n bytes are left). -/
def cmpFrom (f g : Nat → Int) : Nat → Nat → Int
  | _, 0 => 0
  | k, n + 1 => if f k < g k then -1 else if g k < f k then 1 else cmpFrom f g (k + 1) n

theorem cmpFrom_lt (f g : Nat → Int) (k : Nat) (hk : k < 17) (h : f k < g k) : cmpFrom f g k (17 - k) = -1 := by
  rw [show 17 - k = (16 - k) + 1 by omega, cmpFrom, if_pos h]
theorem cmpFrom_gt (f g : Nat → Int) (k : Nat) (hk : k < 17) (h : g k < f k) : cmpFrom f g k (17 - k) = 1 := by
  rw [show 17 - k = (16 - k) + 1 by omega, cmpFrom, if_neg (by omega), if_pos h]
theorem cmpFrom_eq (f g : Nat → Int) (k : Nat) (hk : k < 17) (h : f k = g k) : cmpFrom f g k (17 - k) = cmpFrom f g (k + 1) (17 - (k + 1)) := by
  rw [show 17 - k = (17 - (k + 1)) + 1 by omega, cmpFrom, if_neg (by omega), if_neg (by omega)]

theorem cells_start (f g : Nat → Int) (w : World) :
    (∀ m < 17, ((w.alloc (.cells (encL f).toArray 64)).alloc (.cells (encL g).toArray 64)).cell? ⟨w.heap.size, m, none⟩ = some (.int .u8 (f m))) ∧
    (∀ m < 17, ((w.alloc (.cells (encL f).toArray 64)).alloc (.cells (encL g).toArray 64)).cell? ⟨w.heap.size + 1, m, none⟩ = some (.int .u8 (g m))) := by
  have hs : (w.alloc (.cells (encL f).toArray 64)).heap.size = w.heap.size + 1 := by simp
  refine ⟨fun m hm => ?_, fun m hm => ?_⟩
  · rw [World.cell?_alloc_lt _ _ _ (by simp), World.cell?_alloc_new]
    simpa using encL_get _ m hm
  · rw [← hs, World.cell?_alloc_new]
    simpa using encL_get _ m hm

set_option maxHeartbeats 1000000 in
theorem cmpBytesW (f g : Nat → Int) (w : World) :
    Calls Try.prog 30 #[.agg (encL f).toArray, .agg (encL g).toArray] w fun e w' => e = .returned (.int .i64 (cmpFrom f g 0 17)) ∧ Grown w w' := by
  go_enter Try.func30, Try.ntmps30
  go_wp2
  go_loopw [5] (fun i wr => ∃ k : Nat, k ≤ 17 ∧ i = .int .i64 k ∧ cmpFrom f g 0 17 = cmpFrom f g k (17 - k) ∧ Grown w wr ∧
      (∀ m < 17, wr.cell? ⟨w.heap.size, m, none⟩ = some (.int .u8 (f m))) ∧ (∀ m < 17, wr.cell? ⟨w.heap.size + 1, m, none⟩ = some (.int .u8 (g m)))) (fun i _ => 17 - (intOf i).toNat)
  case atStart =>
    obtain ⟨g1, g2⟩ := cells_start f g w
    exact ⟨0, by omega, rfl, rfl, ((Grown.refl w).alloc _ _).alloc _ _, g1, g2⟩
  case round =>
    obtain ⟨k, hk, rfl, he, hg, hc, hd⟩ := hrel
    have HE : Hid (cmpFrom f g 0 17 = cmpFrom f g k (17 - k)) := he
    have HG : Hid (Grown w wr) := hg
    have HC : Hid (∀ m < 17, wr.cell? ⟨w.heap.size, m, none⟩ = some (.int .u8 (f m))) := hc
    have HD : Hid (∀ m < 17, wr.cell? ⟨w.heap.size + 1, m, none⟩ = some (.int .u8 (g m))) := hd
    clear he hg
    by_cases hlt : k < 17
    · have c1 := hc k hlt
      have c2 := hd k hlt
      have hk0 : (0 : Int) ≤ (k : Int) := by omega
      have hk1 : (k : Int) < 17 := by omega
      clear hc hd
      rcases Int.lt_trichotomy (f k) (g k) with h | h | h
      · go_wp2
        go_quiet (fail)
        go_wp2
        go_ret
        exact ⟨by rw [HE.out, cmpFrom_lt f g k hlt h]; rfl, grown_drewN HG.out _⟩
      · have n1 : ¬ f k < g k := by omega
        have n2 : ¬ g k < f k := by omega
        have H : Hid (f k = g k) := h
        clear h
        go_wp2
        go_quiet (fail)
        go_wp2
        go_quiet (fail)
        go_wp2
        go_roundw
        case rel => exact ⟨k + 1, by omega, by go_num, by rw [HE.out, cmpFrom_eq f g k hlt H.out], grown_drewN HG.out _, fun m hm => by simpa using HC.out m hm, fun m hm => by simpa using HD.out m hm⟩
        case measure => simp [intOf]; omega
      · have n1 : ¬ f k < g k := by omega
        go_wp2
        go_quiet (fail)
        go_wp2
        go_quiet (fail)
        go_wp2
        go_ret
        exact ⟨by rw [HE.out, cmpFrom_gt f g k hlt h]; rfl, by first | exact grown_drewN HG.out _ | exact grown_drewN (grown_drewN HG.out _) _⟩
    · have hk17 : k = 17 := by omega
      subst hk17
      clear hc hd
      go_wp2
      go_ret
      exact ⟨by rw [HE.out]; rfl, HG.out⟩

set_option maxHeartbeats 1000000 in
theorem cmpPosModelW (s k t s' k' t' : Int) (w : World) :
    Calls Try.prog 11 #[.int .u8 s, .int .i64 k, .int .i64 t, .int .u8 s', .int .i64 k', .int .i64 t'] w fun e w' =>
      e = .returned (.int .i64 (cmpFrom (encB s (flip63 k) (flip63 t) 8) (encB s' (flip63 k') (flip63 t') 8) 0 17)) ∧ Grown w w' := by
  go_enter Try.func11, Try.ntmps11
  go_wp2_with (first | (go_at_call 31; refine (encPosW _ _ _ _).mono ?_; rintro e w' ⟨rfl, hg⟩) | (go_at_call 30; refine (cmpBytesW _ _ _).mono ?_; rintro e w' ⟨rfl, hg⟩))
  go_ret
  exact ⟨rfl, by repeat (first | assumption | refine grown_trans ?_ (by assumption))⟩

end Go.Proofs.Qxb6616641a
