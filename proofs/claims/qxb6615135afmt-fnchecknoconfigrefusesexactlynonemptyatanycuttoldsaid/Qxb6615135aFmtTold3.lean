/- FnCheckNoConfigRefusesExactlyNonEmptyAtAnyCut: the told card. -/
import Derived.Test.Qxb6615135aFmtCards
import Derived.Test.Qxb6615135aFmtPos
import Derived.Test.Qxb6615135aFmtRefuse
import Derived.ProofKit
import Derived.ChangeSlices
import Derived.ChangeSame
import Derived.ChangeMaps5
import Derived.JoinedOf
import Derived.Carry
import Derived.Stop.JoinedAt
import Derived.Stop.Texts
import Derived.Stop.JoinedTold
import Derived.SizedLaws
import Derived.SliceStrings
import Derived.SevenToldRow
namespace Go.Proofs.Qxb6615135aFmt.Refused
open Go.ChangeShapes Go.WideShapes Go.ChangeAt Go.RowKit Go.Kit
open Go.Extern.Stop Go.Stop Go.Extern

theorem own : ownKnob Tryf.prog.godebug = none := by kernel_rfl
theorem laidOut : laidOutB Tryf.pinned.checked.prog = true := by kernel_rfl
theorem cells9 : Tryf.prog.cellsOf 9 = 1 := by kernel_rfl
theorem bytes9 : Tryf.checked.prog.bytesOf 9 = 16 := by kernel_rfl

/-- What an argument that reads as a slice of strings is. -/
theorem open_strs9 {H : Type} {enc : TypeId × Value → H} {W : World} {a0 : Option Addr} {len cap : Nat} {d : DataW H} {p : List MemPlace} (hlt : ∀ x ∈ p, x.block < W.heap.size)
    (h : DataW.Trod enc Tryf.prog W 0 (fun _ => true) true 22 (.slice a0 len cap) d p) :
    (a0 = none ∧ len = 0 ∧ cap = 0) ∨ ∃ a f es rs, a0 = some a ∧ len ≤ cap ∧ d = .slice es rs ∧ es.length + rs.length = cap ∧ StrsAt W (some a) len f ∧ ∀ j < len, (f j).size ≤ 9223372036854775807 := by
  obtain ⟨fuel, hf⟩ := h
  rcases open_strings Tryf.underlying22 Tryf.underlying9 cells9 hf with ⟨hcs, hx⟩ | ⟨a, len', cap', ss, hcs, _, hl, hm, hz, hx, hcell, hws⟩
  · simp [Value.cells] at hcs
    exact Or.inl hcs
  · simp [Value.cells] at hcs
    obtain ⟨rfl, rfl, rfl⟩ := hcs
    simp only [Prod.mk.injEq] at hx
    obtain ⟨rfl, rfl⟩ := hx
    simp only [if_true] at hz
    refine Or.inr ⟨a, fun j => ss.getD j ByteArray.empty, _, _, rfl, hl, rfl, by simp [strs]; omega, ?_, fun j hj => ?_⟩
    · by_cases hl0 : len = 0
      · exact Or.inl hl0
      · obtain ⟨b, off, spot⟩ := a
        have hspot : spot = none := by simpa [Addr.add] using World.cell?_spot (hcell 0 (by omega))
        subst hspot
        have hbW : b < W.heap.size := hlt (.cell b off) (MemPlace.mem_row.2 ⟨0, by omega, by simp⟩)
        exact Or.inr ⟨b, off, rfl, hbW, fun j hj => by rw [← add_plain]; exact hcell j (by omega)⟩
    · have hj' : j < ss.length := by omega
      have := hws _ (List.getElem_mem hj')
      unfold maxLen at this
      simp only [List.getD, List.getElem?_eq_getElem hj', Option.getD_some]
      omega

set_option maxRecDepth 100000 in
theorem lifted3 (os : Os) (started : os.Started) (H : Type) (enc : TypeId × Value → H) :
    ReturnsInTold none {} Tryf.checked os 3 .any Input.okWide ((OpenSpec.ofChange Rows.fnCheckNoConfigRefusesExactlyNonEmptyAtAnyCutSpec).preRow enc Tryf.prog Tryf.f3 [] false []) (fun F => ((OpenSpec.ofChange Rows.fnCheckNoConfigRefusesExactlyNonEmptyAtAnyCutSpec).at F).post enc Tryf.prog Tryf.f3 false true false false) (aloneAtReturn Tryf.prog) nothingAlways := by
  refine returnsInTold_of_row (C := Tryf.checked) (s := OpenSpec.ofChange Rows.fnCheckNoConfigRefusesExactlyNonEmptyAtAnyCutSpec) (by kernel_rfl) own started (by kernel_rfl) Tryf.func3
    (OpenSpec.witness_stopped (enc := enc) (C := Tryf.checked) false ⟨#[], #[.slice none 0 0, .int .i64 0], []⟩ 8 (by kernel_rfl) (by kernel_rfl) (by kernel_rfl) (by kernel_rfl)) ?_
  intro F W base args ds gs before _ hF hval0 hW _ _ hsz _ _
  have hval : ∀ (j : Nat) t v, Tryf.f3.params[j]? = some t → args[j]? = some v → Value.okWide Tryf.prog W .any base t v := hval0
  have hW' := hW
  obtain ⟨p, q, hA0, hV, rfl, _, _⟩ := hW
  have hA : DataW.TrodAll enc Tryf.prog W 0 (fun _ => true) true Tryf.f3.params.toList args.toList ds p := hA0
  rw [Tryf.params3] at hA hval
  obtain ⟨v0, v1, d0, d1, p0, p1, rfl, rfl, rfl, h0, h1⟩ := trodAll_two hA
  obtain ⟨rfl, rfl⟩ := trodVars_none hV
  obtain ⟨a0, len, cap, rfl⟩ := okWide_slice Tryf.underlying22 (hval 0 22 v0 rfl rfl)
  obtain ⟨cut, rfl, rfl, rfl, wcut⟩ := open_int Tryf.underlying3 (hval 1 3 v1 rfl rfl) h1
  clear hA0 hval0
  simp only [List.append_nil] at hW'
  have hlt : ∀ x ∈ p0, x.block < W.heap.size := fun x hx => hW'.lt x (by simpa using hx)
  have hargs : ∀ (W' : World), Below W.heap.size W W' → DataW.Trod enc Tryf.prog W' 0 (fun b => decide (b < W.heap.size)) true 22 (.slice a0 len cap) d0 p0 :=
    fun W' hn => Below.trod laidOut (by kernel_rfl) (of_decide_eq_true (by kernel_rfl)) h0 hn hlt
  have hargs2 : ∀ (W' : World), Below W.heap.size W W' → DataW.TrodAll enc Tryf.prog W' 0 (fun b => decide (b < W.heap.size)) true [22, 3] [.slice a0 len cap, .int .i64 cut] [d0, .lit (.int .i64 cut)] p0 := fun W' hn => by
    have := trodAll_mk2 (hargs W' hn) (shut_int Tryf.underlying3 wcut)
    rwa [List.append_nil] at this
  have hwalk : Calls Tryf.prog 3 #[.slice a0 len cap, .int .i64 cut] W fun e w' => e = .returned (.bool true) ∧ Below W.heap.size W w' := by
    rcases open_strs9 hlt h0 with ⟨rfl, rfl, rfl⟩ | ⟨a, f, es, rs, rfl, hlc, rfl, hes, hst, hfs⟩
    · exact refuse_nil cut W
    · have hreach : len ≤ 140737488355328 := by
        have := sized_slice hsz (j := 0) (t := 22) (e := 9) rfl rfl Tryf.underlying22
        rw [bytes9] at this
        simp only [reachBytes] at this
        omega
      exact refuse_some checkPos a len cap f cut W hreach hfs hst
  refine hwalk.mono fun e W' ⟨he, hnx⟩ => ?_
  subst he
  refine ⟨_, rfl, _, _, _, [], p0, [], hW', ?_, hargs2 _ hnx, rfl, hnx.frame _, fun h => by cases h⟩
  exact trodAll_mk1 (shut_bool Tryf.underlying4 _)

theorem stops : Tryf.pinned.checked.prog.stops = ["fmt.errorf"] := by kernel_rfl
theorem stopKnobs : Tryf.pinned.checked.prog.stopKnobs = [] := by kernel_rfl
theorem quiet (os : Os) : Stop.quiet Tryf.pinned.checked.prog os := by
  intro k hk
  rw [stopKnobs] at hk
  cases hk

theorem refused_told : Rows.FnCheckNoConfigRefusesExactlyNonEmptyAtAnyCutToldSaid :=
  Claim7.holds_of_told_any 3 Tryf.f3 "fmt.errorf" [] [] (true, "fc28f5a7c0af73ecb9dcfa25ae8f5b08f1138c0a1fd7ecc57b8efbc6f54d97f5") false false (by kernel_rfl) rfl rfl rfl laidOut (by kernel_rfl) rfl ⟨rfl, rfl, rfl, rfl, rfl, rfl, rfl⟩ rfl rfl (by kernel_rfl) (by kernel_rfl) Tryf.func3 (by kernel_rfl)
    (of_decide_eq_true (by kernel_rfl)) (of_decide_eq_true (by kernel_rfl)) stops.symm rfl stopKnobs.symm (by kernel_rfl)
    (by kernel_rfl) (by kernel_rfl) (by kernel_rfl) (by kernel_rfl) (by kernel_rfl) (by kernel_rfl) (by kernel_rfl) (by kernel_rfl) (by kernel_rfl) rfl (by kernel_rfl) rfl rfl
    rfl rfl
    rfl (by kernel_rfl) (by kernel_rfl) (by kernel_rfl) (by decide) (by kernel_rfl)
    (OpenClaim.moreEntering_of (by kernel_rfl) (by kernel_rfl) (by kernel_rfl) (by kernel_rfl) (by kernel_rfl) (by kernel_rfl) (by kernel_rfl) (by kernel_rfl) (by kernel_rfl) (by kernel_rfl))
    ⟨_, WideRow.started_initial, quiet _⟩
    (fun os started _ H enc _ => lifted3 os started H enc)

#print axioms refused_told

end Go.Proofs.Qxb6615135aFmt.Refused
