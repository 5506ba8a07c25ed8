/- FnSensorSetTogglingOneInputFlipsItsBitAlone: the row. -/
import Derived.Test.Qxb6615186aToggle
import Derived.Test.Qxb6615186aOpen
namespace Go.Proofs.Qxb6615186a.toggled
open Go.ChangeShapes Go.WideShapes Go.ChangeAt Go.RowKit

set_option maxRecDepth 100000 in
theorem lifted (os : Os) (started : os.Started) (H : Type) (enc : TypeId × Value → H) :
    ReturnsInHanded {} Try.checked os 4 .any (Rows.fnSensorSetTogglingOneInputFlipsItsBitAloneSpec.pre6 enc Try.prog Try.f4 Rows.fnSensorSetTogglingOneInputFlipsItsBitAloneRow.domain false) (Rows.fnSensorSetTogglingOneInputFlipsItsBitAloneSpec.post enc Try.prog Try.f4 false true false false) := by
  refine returnsInHanded_of_change_sized (C := Try.checked) own started (by kernel_rfl) Try.func4
    (ChangeSpec.witness6 (enc := enc) (C := Try.checked) false ⟨#[], #[.slice none 0 0, .int .i64 0], []⟩ 8 (by kernel_rfl) (by kernel_rfl) (by kernel_rfl) (by kernel_rfl)) ?_
  intro W base args ds gs before hval0 hW _ hsz0 _
  have hsz : (DataW.weightsEach Try.prog (Try.f4.params.toList ++ Rows.fnSensorSetTogglingOneInputFlipsItsBitAloneSpec.plain.varTypes Try.prog) (ds ++ gs)).all (· ≤ reachBytes) = true := hsz0
  clear hsz0
  have hval : ∀ (j : Nat) t v, Try.f4.params[j]? = some t → args[j]? = some v → Value.okWide Try.prog W .any base t v := hval0
  have hW' := hW
  obtain ⟨p, q, hA0, hV, rfl, _, _⟩ := hW
  have hA : DataW.TrodAll enc Try.prog W 0 (fun _ => true) true Try.f4.params.toList args.toList ds p := hA0
  rw [Try.params4] at hA hval hsz
  obtain ⟨v0, v1, d0, d1, p0, p1, rfl, rfl, rfl, h0, h1⟩ := trodAll_two hA
  obtain ⟨rfl, rfl⟩ := trodVars_none hV
  obtain ⟨a0, len, cap, rfl⟩ := okWide_slice Try.underlying22 (hval 0 22 v0 rfl rfl)
  obtain ⟨j, rfl, rfl, rfl, wj⟩ := open_int Try.underlying3 (hval 1 3 v1 rfl rfl) h1
  clear hA0 hval0
  simp only [List.append_nil] at hW'
  have hlt : ∀ x ∈ p0, x.block < W.heap.size := fun x hx => hW'.lt x (by simpa using hx)
  have hargs : ∀ (W' : World), Below W.heap.size W W' → DataW.TrodAll enc Try.prog W' 0 (fun b => decide (b < W.heap.size)) true [22, 3] [.slice a0 len cap, .int .i64 j] [d0, .lit (.int .i64 j)] p0 := fun W' hn => by
    have h := Below.trod laidOut (by kernel_rfl) (of_decide_eq_true (by kernel_rfl)) h0 hn hlt
    have := trodAll_mk2 h (shut_int Try.underlying3 wj)
    rwa [List.append_nil] at this
  have hwalk : Calls Try.prog 4 #[.slice a0 len cap, .int .i64 j] W fun e w' => e = .returned (.bool true) ∧ Below W.heap.size W w' := by
    rcases open_inputs hlt h0 with ⟨rfl, rfl, rfl⟩ | ⟨a, f, q, es, rs, rfl, hlc, rfl, hes, hst⟩
    · exact toggle_nil j W
    · have hreach : len ≤ 140737488355328 := by
        have := sized_slice hsz (j := 0) (t := 22) (e := 29) rfl rfl Try.underlying22
        rw [bytes29] at this
        simp only [reachBytes] at this
        omega
      exact toggle_some a len cap j f q W hreach hst
  refine hwalk.mono fun e W' ⟨he, hnx⟩ => ?_
  subst he
  refine ⟨_, rfl, _, _, _, [], p0, [], hW', ?_, hargs _ hnx, rfl, hnx.frame _, fun h => by cases h⟩
  exact trodAll_mk1 (shut_bool Try.underlying4 _)

theorem proved : Rows.FnSensorSetTogglingOneInputFlipsItsBitAloneSaid :=
  OpenClaim.holds_of_wide 4 Try.f4 rfl rfl rfl rfl rfl rfl rfl ⟨rfl, rfl, rfl, rfl, rfl⟩ rfl rfl rfl rfl rfl (by kernel_rfl) Try.func4 (by kernel_rfl)
    (of_decide_eq_true (by kernel_rfl)) (by unfold Func.isWrapper; first | (rw [if_pos (by decide +kernel)]; kernel_rfl) | (rw [if_neg (by decide +kernel)]; exact ⟨rfl, rfl⟩))
    (fun os started H enc _ => lifted os started H enc)
#print axioms proved

end Go.Proofs.Qxb6615186a.toggled
