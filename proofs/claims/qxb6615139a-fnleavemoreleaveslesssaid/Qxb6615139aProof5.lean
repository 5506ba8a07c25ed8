/- FnLeaveMoreLeavesLess: the row. -/
import Derived.Test.Qxb6615139aLaw
import Derived.Test.Qxb6615139aOpen
namespace Go.Proofs.Qxb6615139a.leaves
open Go.ChangeShapes Go.WideShapes Go.ChangeAt Go.RowKit Go.Deep

section
variable {H : Type} {enc : TypeId × Value → H}
theorem slice_len {W : World} {t e : TypeId} (ht : Try.prog.underlying t = some (.slice e)) {fuel : Nat} {a0 : Option Addr} {len cap : Nat} {x : DataW H × List MemPlace}
    (h : DataW.trod enc Try.prog W 0 (fun _ => true) true fuel t [.slice a0 len cap] = some x) : len = 0 ∨ ∃ es rs, x.1 = .slice es rs ∧ len ≤ es.length + rs.length := by
  rcases open_slice ht h with ⟨hcs, hx⟩ | ⟨a, len', cap', m, n, D, Pl, hcs, _, hl, _, hm, hx, hcell⟩
  · simp at hcs
    exact Or.inl hcs.2.1
  · simp at hcs
    obtain ⟨rfl, rfl, rfl⟩ := hcs
    subst hx
    exact Or.inr ⟨_, _, rfl, by first | (simp; done) | (simp; omega)⟩
theorem mkc {w : World} {base : Nat} {spare : Nat → Bool} {held : Bool} {t : TypeId} {ts : List TypeId} {v : Value} {vs : List Value} {d : DataW H} {ds : List (DataW H)} {p q : List MemPlace}
    (h : DataW.Trod enc Try.prog w base spare held t v d p) (r : DataW.TrodAll enc Try.prog w base spare held ts vs ds q) : DataW.TrodAll enc Try.prog w base spare held (t :: ts) (v :: vs) (d :: ds) (p ++ q) := ⟨p, q, h, r, rfl⟩
end

theorem bytes2 : Try.prog.bytesOf 2 = 8 := by kernel_rfl
theorem bytes3 : Try.prog.bytesOf 3 = 8 := by kernel_rfl
theorem bytes9 : Try.prog.bytesOf 9 = 16 := by kernel_rfl
theorem bytes74 : Try.prog.bytesOf 74 = 56 := by kernel_rfl
theorem bytes82 : Try.prog.bytesOf 82 = 16 := by kernel_rfl

set_option maxRecDepth 100000 in
theorem lifted (os : Os) (started : os.Started) (H : Type) (enc : TypeId × Value → H) :
    ReturnsInHanded {} Try.checked os 3 .any (Rows.fnLeaveMoreLeavesLessSpec.pre6 enc Try.prog Try.f3 Rows.fnLeaveMoreLeavesLessRow.domain false) (Rows.fnLeaveMoreLeavesLessSpec.post enc Try.prog Try.f3 false true false false) := by
  refine returnsInHanded_of_change_sized (C := Try.checked) own started (by kernel_rfl) Try.func3
    (ChangeSpec.witness6 (enc := enc) (C := Try.checked) false ⟨#[], #[.slice none 0 0, .slice none 0 0, .slice none 0 0, .int .i64 0, .int .i64 0, .int .i64 0, .slice none 0 0, .slice none 0 0, .int .i64 0, .int .i64 0, .bool false], []⟩ 8 (by kernel_rfl) (by kernel_rfl) (by kernel_rfl) (by kernel_rfl)) ?_
  intro W base args ds gs before hval0 hW _ hsz0 _
  have hsz : (DataW.weightsEach Try.prog (Try.f3.params.toList ++ Rows.fnLeaveMoreLeavesLessSpec.plain.varTypes Try.prog) (ds ++ gs)).all (· ≤ reachBytes) = true := hsz0
  clear hsz0
  have hval : ∀ (j : Nat) t v, Try.f3.params[j]? = some t → args[j]? = some v → Value.okWide Try.prog W .any base t v := hval0
  have hW' := hW
  obtain ⟨p, q, hA0, hV, rfl, _, _⟩ := hW
  have hA : DataW.TrodAll enc Try.prog W 0 (fun _ => true) true Try.f3.params.toList args.toList ds p := hA0
  rw [Try.params3] at hA hval hsz
  obtain ⟨rfl, rfl⟩ := trodVars_none hV
  clear hA0 hval0
  simp only [List.append_nil] at hW' 
  obtain ⟨v0, vs0, d0, ds0, p0, q0, ha0, hd0, hp0, h0, r0⟩ := trodAll_cons hA
  obtain ⟨v1, vs1, d1, ds1, p1, q1, ha1, hd1, hp1, h1, r1⟩ := trodAll_cons r0
  obtain ⟨v2, vs2, d2, ds2, p2, q2, ha2, hd2, hp2, h2, r2⟩ := trodAll_cons r1
  obtain ⟨v3, vs3, d3, ds3, p3, q3, ha3, hd3, hp3, h3, r3⟩ := trodAll_cons r2
  obtain ⟨v4, vs4, d4, ds4, p4, q4, ha4, hd4, hp4, h4, r4⟩ := trodAll_cons r3
  obtain ⟨v5, vs5, d5, ds5, p5, q5, ha5, hd5, hp5, h5, r5⟩ := trodAll_cons r4
  obtain ⟨v6, vs6, d6, ds6, p6, q6, ha6, hd6, hp6, h6, r6⟩ := trodAll_cons r5
  obtain ⟨v7, vs7, d7, ds7, p7, q7, ha7, hd7, hp7, h7, r7⟩ := trodAll_cons r6
  obtain ⟨v8, vs8, d8, ds8, p8, q8, ha8, hd8, hp8, h8, r8⟩ := trodAll_cons r7
  obtain ⟨v9, vs9, d9, ds9, p9, q9, ha9, hd9, hp9, h9, r9⟩ := trodAll_cons r8
  obtain ⟨v10, vs10, d10, ds10, p10, q10, ha10, hd10, hp10, h10, r10⟩ := trodAll_cons r9
  obtain ⟨e1, e2, e3⟩ := trodAll_nil r10
  subst e1 e2
  subst ha10 hd10
  subst ha9 hd9
  subst ha8 hd8
  subst ha7 hd7
  subst ha6 hd6
  subst ha5 hd5
  subst ha4 hd4
  subst ha3 hd3
  subst ha2 hd2
  subst ha1 hd1
  obtain rfl : args = #[v0, v1, v2, v3, v4, v5, v6, v7, v8, v9, v10] := by cases args; simp_all
  subst hd0
  clear ha0
  obtain ⟨a0, nr, cr, rfl⟩ := okWide_slice Try.underlying22 (hval 0 22 v0 rfl rfl)
  obtain ⟨a1, nf, cf, rfl⟩ := okWide_slice Try.underlying23 (hval 1 23 v1 rfl rfl)
  obtain ⟨a2, ns, cs, rfl⟩ := okWide_slice Try.underlying24 (hval 2 24 v2 rfl rfl)
  obtain ⟨a6, no, co, rfl⟩ := okWide_slice Try.underlying25 (hval 6 25 v6 rfl rfl)
  obtain ⟨a7, np, cp, rfl⟩ := okWide_slice Try.underlying26 (hval 7 26 v7 rfl rfl)
  obtain ⟨b1, rfl, rfl, rfl, wb1⟩ := open_int Try.underlying3 (hval 3 3 v3 rfl rfl) h3
  obtain ⟨b2, rfl, rfl, rfl, wb2⟩ := open_int Try.underlying3 (hval 4 3 v4 rfl rfl) h4
  obtain ⟨b3, rfl, rfl, rfl, wb3⟩ := open_int Try.underlying3 (hval 5 3 v5 rfl rfl) h5
  obtain ⟨n, rfl, rfl, rfl, wn⟩ := open_int Try.underlying3 (hval 8 3 v8 rfl rfl) h8
  obtain ⟨m, rfl, rfl, rfl, wm⟩ := open_int Try.underlying3 (hval 9 3 v9 rfl rfl) h9
  obtain ⟨over, rfl, rfl, rfl⟩ := open_bool Try.underlying4 (hval 10 4 v10 rfl rfl) h10
  have hlt0 : ∀ x ∈ p0, x.block < W.heap.size := fun x hx => hW'.lt x (by rw [hp0, hp1, hp2, hp3, hp4, hp5, hp6, hp7]; simp [hx])
  have hlt1 : ∀ x ∈ p1, x.block < W.heap.size := fun x hx => hW'.lt x (by rw [hp0, hp1, hp2, hp3, hp4, hp5, hp6, hp7]; simp [hx])
  have hlt2 : ∀ x ∈ p2, x.block < W.heap.size := fun x hx => hW'.lt x (by rw [hp0, hp1, hp2, hp3, hp4, hp5, hp6, hp7]; simp [hx])
  have hlt6 : ∀ x ∈ p6, x.block < W.heap.size := fun x hx => hW'.lt x (by rw [hp0, hp1, hp2, hp3, hp4, hp5, hp6, hp7]; simp [hx])
  have hlt7 : ∀ x ∈ p7, x.block < W.heap.size := fun x hx => hW'.lt x (by rw [hp0, hp1, hp2, hp3, hp4, hp5, hp6, hp7]; simp [hx])
  have hargs : ∀ (W' : World), Below W.heap.size W W' → DataW.TrodAll enc Try.prog W' 0 (fun b => decide (b < W.heap.size)) true [22, 23, 24, 3, 3, 3, 25, 26, 3, 3, 4] [.slice a0 nr cr, .slice a1 nf cf, .slice a2 ns cs, .int .i64 b1, .int .i64 b2, .int .i64 b3, .slice a6 no co, .slice a7 np cp, .int .i64 n, .int .i64 m, .bool over] [d0, d1, d2, .lit (.int .i64 b1), .lit (.int .i64 b2), .lit (.int .i64 b3), d6, d7, .lit (.int .i64 n), .lit (.int .i64 m), .lit (.bool over)] p := fun W' hn => by
    rw [hp0, hp1, hp2, hp3, hp4, hp5, hp6, hp7, hp8, hp9, hp10, e3]
    exact (mkc (Below.trod laidOut (by kernel_rfl) (of_decide_eq_true (by kernel_rfl)) h0 hn hlt0) (mkc (Below.trod laidOut (by kernel_rfl) (of_decide_eq_true (by kernel_rfl)) h1 hn hlt1) (mkc (Below.trod laidOut (by kernel_rfl) (of_decide_eq_true (by kernel_rfl)) h2 hn hlt2) (mkc (shut_int Try.underlying3 wb1) (mkc (shut_int Try.underlying3 wb2) (mkc (shut_int Try.underlying3 wb3) (mkc (Below.trod laidOut (by kernel_rfl) (of_decide_eq_true (by kernel_rfl)) h6 hn hlt6) (mkc (Below.trod laidOut (by kernel_rfl) (of_decide_eq_true (by kernel_rfl)) h7 hn hlt7) (mkc (shut_int Try.underlying3 wn) (mkc (shut_int Try.underlying3 wm) (mkc (shut_bool Try.underlying4 _) trodAll_mk0)))))))))))
  obtain ⟨k0, f0⟩ := h0
  obtain ⟨k1, f1⟩ := h1
  obtain ⟨k2, f2⟩ := h2
  obtain ⟨k6, f6⟩ := h6
  obtain ⟨k7, f7⟩ := h7
  have side : ∀ (j : Nat) (t e : TypeId) (a : Option Addr) (l c fuel : Nat) (d : DataW H) (pp : List MemPlace), [22, 23, 24, 3, 3, 3, 25, 26, 3, 3, 4][j]? = some t → ([d0, d1, d2, .lit (.int .i64 b1), .lit (.int .i64 b2), .lit (.int .i64 b3), d6, d7, .lit (.int .i64 n), .lit (.int .i64 m), .lit (.bool over)] : List (DataW H))[j]? = some d → Try.prog.underlying t = some (.slice e) → 0 < Try.prog.bytesOf e → DataW.trod enc Try.prog W 0 (fun _ => true) true fuel t [.slice a l c] = some (d, pp) → l ≤ 140737488355328 := by
    intro j t e a l c fuel d pp ht hd hu hb h
    rcases slice_len hu h with h | ⟨es, rs, hx, hl⟩
    · omega
    · have hd' : d = .slice es rs := hx
      subst hd'
      have := sized_slice hsz (j := j) (t := t) (e := e) ht (by simpa using hd) hu
      have h2 : es.length + rs.length ≤ (es.length + rs.length) * Try.prog.bytesOf e := Nat.le_mul_of_pos_right _ hb
      simp only [reachBytes] at this
      omega
  have s0 := side 0 22 2 _ _ _ _ _ _ rfl rfl Try.underlying22 (by rw [bytes2]; omega) f0
  have s1 := side 1 23 9 _ _ _ _ _ _ rfl rfl Try.underlying23 (by rw [bytes9]; omega) f1
  have s2 := side 2 24 74 _ _ _ _ _ _ rfl rfl Try.underlying24 (by rw [bytes74]; omega) f2
  have s6 := side 6 25 3 _ _ _ _ _ _ rfl rfl Try.underlying25 (by rw [bytes3]; omega) f6
  have s7 := side 7 26 82 _ _ _ _ _ _ rfl rfl Try.underlying26 (by rw [bytes82]; omega) f7
  obtain ⟨⟨I, c0⟩, _⟩ := open_i64s Try.underlying22 cells2 Try.underlying2 hlt0 f0
  obtain ⟨⟨T, c1⟩, _⟩ := open_strs hlt1 f1
  obtain ⟨S, c2⟩ := open_scenes hlt2 f2
  obtain ⟨⟨fo, c6⟩, n6⟩ := open_i64s Try.underlying25 cells3 Try.underlying3 hlt6 f6
  obtain ⟨of, ix, c7⟩ := open_pairs hlt7 f7
  refine (lawW a0 a1 a2 a6 a7 nr nf ns no np cr cf cs co cp b1 b2 b3 n m over I T S fo of ix W c0 c1 c2 c6 c7 n6 s0 s1 s2 s6 s7).mono fun e W' ⟨he, hnx⟩ => ?_
  subst he
  refine ⟨_, rfl, _, _, _, [], p, [], hW', ?_, hargs _ hnx, rfl, hnx.frame _, fun h => by cases h⟩
  exact trodAll_mk1 (shut_bool Try.underlying4 _)

theorem proved : Rows.FnLeaveMoreLeavesLessSaid :=
  OpenClaim.holds_of_wide 3 Try.f3 rfl rfl rfl rfl rfl rfl rfl ⟨rfl, rfl, rfl, rfl, rfl⟩ rfl rfl rfl rfl rfl (by kernel_rfl) Try.func3 (by kernel_rfl)
    (of_decide_eq_true (by kernel_rfl)) (by unfold Func.isWrapper; first | (rw [if_pos (by decide +kernel)]; kernel_rfl) | (rw [if_neg (by decide +kernel)]; exact ⟨rfl, rfl⟩))
    (fun os started H enc _ => lifted os started H enc)
#print axioms proved

end Go.Proofs.Qxb6615139a.leaves
