/- FnSensorSetJoinsAtAnyCut: the row. -/
import Derived.Test.Qxb6615186aJoin
import Derived.Test.Qxb6615186aOpen
namespace Go.Proofs.Qxb6615186a.joined
open Go.ChangeShapes Go.WideShapes Go.ChangeAt Go.RowKit

set_option maxRecDepth 100000 in
theorem lifted (os : Os) (started : os.Started) (H : Type) (enc : TypeId × Value → H) :
    ReturnsInHanded {} Try.checked os 3 .any (Rows.fnSensorSetJoinsAtAnyCutSpec.pre6 enc Try.prog Try.f3 Rows.fnSensorSetJoinsAtAnyCutRow.domain false) (Rows.fnSensorSetJoinsAtAnyCutSpec.post enc Try.prog Try.f3 false true false false) := by
  refine returnsInHanded_of_change_sized (C := Try.checked) own started (by kernel_rfl) Try.func3
    (ChangeSpec.witness6 (enc := enc) (C := Try.checked) false ⟨#[], #[.slice none 0 0, .slice none 0 0], []⟩ 8 (by kernel_rfl) (by kernel_rfl) (by kernel_rfl) (by kernel_rfl)) ?_
  intro W base args ds gs before hval0 hW _ hsz0 _
  have hsz : (DataW.weightsEach Try.prog (Try.f3.params.toList ++ Rows.fnSensorSetJoinsAtAnyCutSpec.plain.varTypes Try.prog) (ds ++ gs)).all (· ≤ reachBytes) = true := hsz0
  clear hsz0
  have hval : ∀ (j : Nat) t v, Try.f3.params[j]? = some t → args[j]? = some v → Value.okWide Try.prog W .any base t v := hval0
  have hW' := hW
  obtain ⟨p, q, hA0, hV, rfl, _, _⟩ := hW
  have hA : DataW.TrodAll enc Try.prog W 0 (fun _ => true) true Try.f3.params.toList args.toList ds p := hA0
  rw [Try.params3] at hA hval hsz
  obtain ⟨v0, v1, d0, d1, p0, p1, rfl, rfl, rfl, h0, h1⟩ := trodAll_two hA
  obtain ⟨rfl, rfl⟩ := trodVars_none hV
  obtain ⟨a0, len, cap, rfl⟩ := okWide_slice Try.underlying22 (hval 0 22 v0 rfl rfl)
  obtain ⟨a1, len1, cap1, rfl⟩ := okWide_slice Try.underlying22 (hval 1 22 v1 rfl rfl)
  clear hA0 hval0
  simp only [List.append_nil] at hW'
  have hlt0 : ∀ x ∈ p0, x.block < W.heap.size := fun x hx => hW'.lt x (by simp [hx])
  have hlt1 : ∀ x ∈ p1, x.block < W.heap.size := fun x hx => hW'.lt x (by simp [hx])
  have hargs : ∀ (W' : World), Below W.heap.size W W' → DataW.TrodAll enc Try.prog W' 0 (fun b => decide (b < W.heap.size)) true [22, 22] [.slice a0 len cap, .slice a1 len1 cap1] [d0, d1] (p0 ++ p1) := fun W' hn =>
    trodAll_mk2 (Below.trod laidOut (by kernel_rfl) (of_decide_eq_true (by kernel_rfl)) h0 hn hlt0) (Below.trod laidOut (by kernel_rfl) (of_decide_eq_true (by kernel_rfl)) h1 hn hlt1)
  have side : ∀ {j : Nat} {aa : Option Addr} {l c : Nat} {d : DataW H} {p : List MemPlace}, [22, 22][j]? = some 22 → [d0, d1][j]? = some d → (∀ x ∈ p, x.block < W.heap.size) → DataW.Trod enc Try.prog W 0 (fun _ => true) true 22 (.slice aa l c) d p →
      ∃ f q, (aa = none → l = 0 ∧ c = 0) ∧ InpAt W aa l f q ∧ l ≤ 140737488355328 := by
    intro j aa l c d p ht hd hl h
    rcases open_inputs hl h with ⟨rfl, rfl, rfl⟩ | ⟨a, f, q, es, rs, rfl, hlc, rfl, hes, hst⟩
    · exact ⟨fun _ => 0, fun _ => false, fun _ => ⟨rfl, rfl⟩, Or.inl rfl, by omega⟩
    · refine ⟨f, q, (fun h => by cases h), hst, ?_⟩
      have := sized_slice hsz (j := j) (t := 22) (e := 29) ht (by simpa using hd) Try.underlying22
      rw [bytes29] at this
      simp only [reachBytes] at this
      omega
  obtain ⟨fa, pa, n0, i0, l0⟩ := side (j := 0) rfl rfl hlt0 h0
  obtain ⟨fb, pb, n1, i1, l1⟩ := side (j := 1) rfl rfl hlt1 h1
  have hwalk : Calls Try.prog 3 #[.slice a0 len cap, .slice a1 len1 cap1] W fun e w' => e = .returned (.bool true) ∧ Below W.heap.size W w' :=
    join_all a0 a1 len len1 cap cap1 fa fb pa pb W n0 n1 i0 i1 l0 l1
  refine hwalk.mono fun e W' ⟨he, hnx⟩ => ?_
  subst he
  refine ⟨_, rfl, _, _, _, [], p0 ++ p1, [], hW', ?_, hargs _ hnx, rfl, hnx.frame _, fun h => by cases h⟩
  exact trodAll_mk1 (shut_bool Try.underlying4 _)

theorem proved : Rows.FnSensorSetJoinsAtAnyCutSaid :=
  OpenClaim.holds_of_wide 3 Try.f3 rfl rfl rfl rfl rfl rfl rfl ⟨rfl, rfl, rfl, rfl, rfl⟩ rfl rfl rfl rfl rfl (by kernel_rfl) Try.func3 (by kernel_rfl)
    (of_decide_eq_true (by kernel_rfl)) (by unfold Func.isWrapper; first | (rw [if_pos (by decide +kernel)]; kernel_rfl) | (rw [if_neg (by decide +kernel)]; exact ⟨rfl, rfl⟩))
    (fun os started H enc _ => lifted os started H enc)
#print axioms proved

end Go.Proofs.Qxb6615186a.joined
