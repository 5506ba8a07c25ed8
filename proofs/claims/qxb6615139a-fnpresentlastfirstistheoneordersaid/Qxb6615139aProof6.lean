/- FnPresentLastFirstIsTheOneOrder: the row. -/
import Derived.Test.Qxb6615139aLawP
import Derived.Test.Qxb6615139aLess
import Derived.Test.Qxb6615139aOpen
namespace Go.Proofs.Qxb6615139a.presents
open Go.ChangeShapes Go.WideShapes Go.ChangeAt Go.RowKit Go.Deep

section
variable {H : Type} {enc : TypeId × Value → H}
theorem slice_len {W : World} {t e : TypeId} (ht : Try.prog.underlying t = some (.slice e)) {fuel : Nat} {a0 : Option Addr} {len cap : Nat} {x : DataW H × List MemPlace}
    (h : DataW.trod enc Try.prog W 0 (fun _ => true) true fuel t [.slice a0 len cap] = some x) : len = 0 ∨ ∃ es rs, x.1 = .slice es rs ∧ len ≤ es.length + rs.length := by
  rcases open_slice ht h with ⟨hcs, hx⟩ | ⟨a, len', cap', m, n, D, Pl, hcs, _, hl, _, hm, hx, hcell⟩
  · simp at hcs
    exact Or.inl hcs.2.1
  · simp at hcs
    obtain ⟨rfl, rfl, rfl⟩ := hcs
    subst hx
    exact Or.inr ⟨_, _, rfl, by first | (simp; done) | (simp; omega)⟩
theorem mkc {w : World} {base : Nat} {spare : Nat → Bool} {held : Bool} {t : TypeId} {ts : List TypeId} {v : Value} {vs : List Value} {d : DataW H} {ds : List (DataW H)} {p q : List MemPlace}
    (h : DataW.Trod enc Try.prog w base spare held t v d p) (r : DataW.TrodAll enc Try.prog w base spare held ts vs ds q) : DataW.TrodAll enc Try.prog w base spare held (t :: ts) (v :: vs) (d :: ds) (p ++ q) := ⟨p, q, h, r, rfl⟩
end

theorem bytes74 : Try.prog.bytesOf 74 = 56 := by kernel_rfl

set_option maxRecDepth 100000 in
theorem lifted (os : Os) (started : os.Started) (H : Type) (enc : TypeId × Value → H) :
    ReturnsInHanded {} Try.checked os 4 .any (Rows.fnPresentLastFirstIsTheOneOrderSpec.pre6 enc Try.prog Try.f4 Rows.fnPresentLastFirstIsTheOneOrderRow.domain false) (Rows.fnPresentLastFirstIsTheOneOrderSpec.post enc Try.prog Try.f4 false true false false) := by
  refine returnsInHanded_of_change_sized (C := Try.checked) own started (by kernel_rfl) Try.func4
    (ChangeSpec.witness6 (enc := enc) (C := Try.checked) false ⟨#[], #[.slice none 0 0], []⟩ 8 (by kernel_rfl) (by kernel_rfl) (by kernel_rfl) (by kernel_rfl)) ?_
  intro W base args ds gs before hval0 hW _ hsz0 _
  have hsz : (DataW.weightsEach Try.prog (Try.f4.params.toList ++ Rows.fnPresentLastFirstIsTheOneOrderSpec.plain.varTypes Try.prog) (ds ++ gs)).all (· ≤ reachBytes) = true := hsz0
  clear hsz0
  have hval : ∀ (j : Nat) t v, Try.f4.params[j]? = some t → args[j]? = some v → Value.okWide Try.prog W .any base t v := hval0
  have hW' := hW
  obtain ⟨p, q, hA0, hV, rfl, _, _⟩ := hW
  have hA : DataW.TrodAll enc Try.prog W 0 (fun _ => true) true Try.f4.params.toList args.toList ds p := hA0
  rw [Try.params4] at hA hval hsz
  obtain ⟨rfl, rfl⟩ := trodVars_none hV
  clear hA0 hval0
  simp only [List.append_nil] at hW'
  obtain ⟨v0, vs0, d0, ds0, p0, q0, ha0, hd0, hp0, h0, r0⟩ := trodAll_cons hA
  obtain ⟨e1, e2, e3⟩ := trodAll_nil r0
  subst e1 e2
  obtain rfl : args = #[v0] := by cases args; simp_all
  subst hd0
  clear ha0
  obtain ⟨a0, ns, cs, rfl⟩ := okWide_slice Try.underlying24 (hval 0 24 v0 rfl rfl)
  have hlt0 : ∀ x ∈ p0, x.block < W.heap.size := fun x hx => hW'.lt x (by rw [hp0]; simp [hx])
  have hargs : ∀ (W' : World), Below W.heap.size W W' → DataW.TrodAll enc Try.prog W' 0 (fun b => decide (b < W.heap.size)) true [24] [.slice a0 ns cs] [d0] p := fun W' hn => by
    rw [hp0, e3]
    exact (mkc (Below.trod laidOut (by kernel_rfl) (of_decide_eq_true (by kernel_rfl)) h0 hn hlt0) trodAll_mk0)
  obtain ⟨k0, f0⟩ := h0
  have s0 : ns ≤ 140737488355328 := by
    rcases slice_len Try.underlying24 f0 with h | ⟨es, rs, hx, hl⟩
    · omega
    · have hd' : d0 = .slice es rs := hx
      subst hd'
      have := sized_slice hsz (j := 0) (t := 24) (e := 74) rfl rfl Try.underlying24
      have h2 : es.length + rs.length ≤ (es.length + rs.length) * Try.prog.bytesOf 74 := Nat.le_mul_of_pos_right _ (by rw [bytes74]; omega)
      simp only [reachBytes] at this
      omega
  obtain ⟨S, c0⟩ := open_scenes hlt0 f0
  refine (lawPW_of lessOk a0 ns cs S W c0 s0).mono fun e W' ⟨he, hnx⟩ => ?_
  subst he
  refine ⟨_, rfl, _, _, _, [], p, [], hW', ?_, hargs _ hnx, rfl, hnx.frame _, fun h => by cases h⟩
  exact trodAll_mk1 (shut_bool Try.underlying4 _)

theorem proved : Rows.FnPresentLastFirstIsTheOneOrderSaid :=
  OpenClaim.holds_of_wide 4 Try.f4 rfl rfl rfl rfl rfl rfl rfl ⟨rfl, rfl, rfl, rfl, rfl⟩ rfl rfl rfl rfl rfl (by kernel_rfl) Try.func4 (by kernel_rfl)
    (of_decide_eq_true (by kernel_rfl)) (by unfold Func.isWrapper; first | (rw [if_pos (by decide +kernel)]; kernel_rfl) | (rw [if_neg (by decide +kernel)]; exact ⟨rfl, rfl⟩))
    (fun os started H enc _ => lifted os started H enc)
#print axioms proved

end Go.Proofs.Qxb6615139a.presents
