/- The walk of sort.SliceStable. -/
import Derived.Test.Qxb6615139aStab
import Derived.Lib.ReflectliteSlice
namespace Go.Proofs.Qxb6615139a
open Go.RowKit Go.Lib

set_option maxRecDepth 100000 in
theorem insertTiny (x y : Value) (n : Nat) (hn : n ≤ 1) (w : World) : Calls Try.prog 44 #[.agg #[x, y], .int .i64 0, .int .i64 n] w fun e w' => e = .returned (.tuple #[]) ∧ Below w.heap.size w w' := by
  have h1 : ¬ (1 : Int) < n := by omega
  go_enter Try.func44, Try.ntmps44
  go_wp2
  refine wp_loop_rounds 1 ?_
  rw [rounds_succ]
  go_wp2
  go_end0
  exact ⟨rfl, (Below.refl _ _).alloc (Nat.le_refl _) _⟩
set_option maxRecDepth 100000 in
theorem stableTiny (x y : Value) (n : Nat) (hn : n ≤ 1) (w : World) : Calls Try.prog 33 #[.agg #[x, y], .int .i64 n] w fun e w' => e = .returned (.tuple #[]) ∧ Below w.heap.size w w' := by
  have h1 : ¬ (20 : Int) ≤ n := by omega
  have h2 : ¬ (20 : Int) < n := by omega
  go_enter Try.func33, Try.ntmps33
  go_wp2
  refine wp_loop_rounds 1 ?_
  rw [rounds_succ]
  go_wp2_with fail
  refine (insertTiny x y n hn _).mono ?_
  rintro e w' ⟨rfl, hb⟩
  go_wp2_with fail
  refine wp_loop_rounds 1 ?_
  rw [rounds_succ]
  go_wp2_with fail
  go_end0
  exact ⟨rfl, ((Below.refl _ _).alloc (Nat.le_refl _) _).trans (hb.mono (by simp))⟩

theorem info83 : ∃ i, Try.prog.info? 83 = some i ∧ i.desc = .slice 85 := by
  have h : (Try.prog.info? 83).map (fun i => i.desc) = some (.slice 85) := by kernel_rfl
  obtain ⟨i, h1, h2⟩ := Option.map_eq_some_iff.1 h
  exact ⟨i, h1, h2⟩
theorem kind85 (w : World) : (Extern.Rtype.kind 85).run Try.prog w = .ok 25 w := by kernel_rfl
theorem packed83 : Try.prog.packed 83 = false := by kernel_rfl

set_option maxRecDepth 100000 in
set_option maxHeartbeats 2000000 in
/-- The whole of sort.SliceStable, stable_func given. -/
theorem sliceStable_of (p : Option Addr) (n c f : Nat) (B : Array Value) (l1 l2 : Value) (w : World) (R : World → Prop)
    (hs : ∀ W, (Extern.ReflectliteSwapper.swapper "internal/reflectlite" (Extern.ReflectliteValue.valueError "Swapper") #[.iface 83 (.slice p n c)]).run Try.prog W = .ok (.func (.func f) #[] B) W)
    (hp : ∀ W, Below w.heap.size w W → Calls Try.prog 33 #[.agg #[.func (.func 30) #[] #[l1, l2], .func (.func f) #[] B], .int .i64 n] W fun e w' => e = .returned (.tuple #[]) ∧ R w') :
    Calls Try.prog 29 #[.iface 83 (.slice p n c), .func (.func 30) #[] #[l1, l2]] w fun e w' => e = .returned (.tuple #[]) ∧ R w' := by
  obtain ⟨i, hi, hd⟩ := info83
  have hv := run_valueOf_slice (P := Try.prog) 83 85 i hi hd p n c w
  have hl := fun a w ha => run_valueLen_slice (P := Try.prog) 83 85 i hi hd packed83 a p n c w ha
  have g0 : Try.prog.globals.size = 0 := by kernel_rfl
  simp only [typeHandle, g0] at hv hl
  have HP : Hid _ := hp
  clear hp
  go_enter Try.func29, Try.ntmps29
  go_wp2
  rw [run_callFunc_extern Try.func31 (by kernel_rfl) (by kernel_rfl) (by kernel_rfl) (e := fun args => Extern.ReflectliteValue.unpack (args.getD 0 (.tuple #[]))) (by kernel_rfl),
    show Sem.run Try.prog ((fun args : Array Value => Extern.ReflectliteValue.unpack (args.getD 0 (.tuple #[]))) #[.iface 83 (.slice p n c)]) w = _ from hv]
  simp only [Result.andThen]
  rw [Oper.upon_value]
  go_wp2
  rw [run_callFunc_extern Try.func32 (by kernel_rfl) (by kernel_rfl) (by kernel_rfl) (e := Extern.ReflectliteSwapper.swapper "internal/reflectlite" (Extern.ReflectliteValue.valueError "Swapper")) (by kernel_rfl), hs]
  simp only [Result.andThen]
  rw [Oper.upon_value]
  go_wp2
  rw [run_callFunc_extern Try.func34 (by kernel_rfl) (by kernel_rfl) (by kernel_rfl) (e := Extern.ReflectliteValue.method (Extern.ReflectliteValue.valueError "reflectlite.Value.Len" 0) Extern.ReflectliteValue.len) (by kernel_rfl),
    hl _ _ (by simp)]
  simp only [Result.andThen]
  rw [Oper.upon_value]
  go_wp2_with fail
  refine (HP.out _ (((Below.refl _ _).alloc (Nat.le_refl _) _).alloc (by simp) _)).mono ?_
  rintro e w' ⟨rfl, hR⟩
  go_wp2_with fail
  go_end0
  exact ⟨rfl, hR⟩

theorem swapK_many {n : Nat} (h : 2 ≤ n) {ie : TypeInfo} (h1 : ie.hasPointers = false) (h2 : ie.bytes = 16) (ke : Nat) : swapperK n ie ke = 9 := by
  unfold swapperK
  have e1 : (n == 0) = false := by rw [beq_eq_false_iff_ne]; omega
  have e2 : (n == 1) = false := by rw [beq_eq_false_iff_ne]; omega
  simp [e1, e2, h1, h2]
theorem sliceStableW (K : Sx) (hn : K.n ≤ 1048576) (h2 : 2 ≤ K.n) (hL : LessOk K) (hS : Swo K.lt) (w : World) (h : At K id w) :
    Calls Try.prog 29 #[.iface 83 (.slice (some ⟨K.g, 0, none⟩) K.n K.cap), .func (.func 30) #[] #[K.l1, K.l2]] w fun e w' => e = .returned (.tuple #[]) ∧ Kp K.g w w' ∧ ∃ t, At K t w' ∧ Prm 0 K.n id t ∧ Srtd K.lt t 0 K.n := by
  obtain ⟨i, hi, hd⟩ := info83
  obtain ⟨ie, hie, hsz, hby, hpt⟩ := info85
  refine sliceStable_of _ _ _ 43 K.sb K.l1 K.l2 w _ (fun W => ?_) (fun W hb => ?_)
  · have hk := swapK_many h2 hpt hby 25
    have := run_swapper_slice (P := Try.prog) 83 85 i ie hi hd hie 25 kind85 (some ⟨K.g, 0, none⟩) K.n K.cap 43 (by rw [hk]; kernel_rfl) W
    rw [hk] at this
    exact this
  · have hkp : Kp K.g w W := Kp.of_below hb
    refine (stableW K hn hL hS W ⟨h.kp.trans hkp, h.row.below hb, h.rng⟩).mono ?_
    rintro e w' ⟨rfl, hk, t, ht⟩
    exact ⟨rfl, hkp.trans hk, t, ht⟩
theorem sliceStableTiny (p : Option Addr) (n c : Nat) (hn : n ≤ 1) (l1 l2 : Value) (w : World) :
    Calls Try.prog 29 #[.iface 83 (.slice p n c), .func (.func 30) #[] #[l1, l2]] w fun e w' => e = .returned (.tuple #[]) ∧ Below w.heap.size w w' := by
  obtain ⟨i, hi, hd⟩ := info83
  obtain ⟨ie, hie, hsz, hby, hpt⟩ := info85
  by_cases h0 : n = 0
  · subst h0
    refine sliceStable_of _ _ _ 35 #[] l1 l2 w _ (fun W => ?_) (fun W hb => ?_)
    · have := run_swapper_slice (P := Try.prog) 83 85 i ie hi hd hie 25 kind85 p 0 c 35 (by kernel_rfl) W
      exact this
    · refine (stableTiny _ _ 0 (by omega) W).mono ?_
      rintro e w' ⟨rfl, hb'⟩
      exact ⟨rfl, hb.trans (hb'.mono hb.size)⟩
  · have h1 : n = 1 := by omega
    subst h1
    refine sliceStable_of _ _ _ 36 #[] l1 l2 w _ (fun W => ?_) (fun W hb => ?_)
    · have := run_swapper_slice (P := Try.prog) 83 85 i ie hi hd hie 25 kind85 p 1 c 36 (by kernel_rfl) W
      exact this
    · refine (stableTiny _ _ 1 (by omega) W).mono ?_
      rintro e w' ⟨rfl, hb'⟩
      exact ⟨rfl, hb.trans (hb'.mono hb.size)⟩
end Go.Proofs.Qxb6615139a
