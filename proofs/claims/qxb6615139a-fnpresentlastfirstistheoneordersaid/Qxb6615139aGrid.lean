/- Rows of bools behind a row of slices. -/
import Derived.Test.Qxb6615139aBytes
namespace Go.Proofs.Qxb6615139a
open Go.RowKit

theorem Row.drewN {w : World} {g N : Nat} {V : Nat → Value} (h : Row w g N V) (n : Nat) : Row (w.drewN n) g N V := ⟨h.lt, h.val, h.open_⟩
theorem Row.drew {w : World} {g N : Nat} {V : Nat → Value} (h : Row w g N V) : Row w.drew g N V := ⟨h.lt, h.val, h.open_⟩

theorem row_bools (w : World) (n : Nat) : Row (w.alloc (.cells (madeCells #[.bool false] n) 4)) w.heap.size n (fun _ => .bool false) :=
  (Row.made w _ n 4).ext (fun m _ => by simp [Nat.mod_one])

structure Grid (w : World) (g ns s : Nat) (pl : Nat → Nat) (sn : Nat → Nat → Bool) (G : Nat → Nat) : Prop where
  row : Row w g ns (fun m => if m < s then .slice (some ⟨G m, 0, none⟩) (pl m) (pl m) else .slice none 0 0)
  gt : ∀ m < s, g < G m
  ne : ∀ m < s, ∀ m' < s, m ≠ m' → G m ≠ G m'
  inner : ∀ m < s, Row w (G m) (pl m) (fun i => .bool (sn m i))

theorem Grid.made (w : World) (ns : Nat) (pl : Nat → Nat) (G : Nat → Nat) : Grid (w.alloc (.cells (madeCells #[.slice none 0 0] ns) 71)) w.heap.size ns 0 pl (fun _ _ => false) G :=
  ⟨(Row.made w _ ns 71).ext (fun m _ => by simp [Nat.mod_one]), fun m hm => by omega, fun m hm => by omega, fun m hm => by omega⟩

theorem Grid.grow {w : World} {g ns s : Nat} {pl : Nat → Nat} {sn : Nat → Nat → Bool} {G : Nat → Nat} (h : Grid w g ns s pl sn G) (hs : s < ns) (hsn : ∀ i, sn s i = false) :
    Grid ((w.setCell ⟨g, s, none⟩ (.slice (some ⟨w.heap.size, 0, none⟩) (pl s) (pl s))).alloc (.cells (madeCells #[.bool false] (pl s)) 4)) g ns (s + 1) pl sn (fun m => if m = s then w.heap.size else G m) := by
  have hlt := h.row.lt
  have hsz : ∀ v, (w.setCell ⟨g, s, none⟩ v).heap.size = w.heap.size := fun v => by simp [World.setCell]
  refine ⟨((h.row.put hs _).alloc _).ext (fun m hm => ?_), fun m hm => ?_, fun m hm m' hm' hne => ?_, fun m hm => ?_⟩
  · by_cases e : m = s
    · subst e; simp
    · have e1 : (m < s) ↔ (m < s + 1) := by omega
      simp [e, e1]
  · by_cases e : m = s
    · simp only [e, if_true]; exact hlt
    · simp only [e, if_false]; exact h.gt m (by omega)
  · by_cases e : m = s <;> by_cases e' : m' = s
    · omega
    · simp only [e, e', if_true, if_false]
      have := (h.inner m' (by omega)).lt; omega
    · simp only [e, e', if_true, if_false]
      have := (h.inner m (by omega)).lt; omega
    · simp only [e, e', if_false]
      exact h.ne m (by omega) m' (by omega) hne
  · by_cases e : m = s
    · subst e
      simp only [if_true]
      have := row_bools (w.setCell ⟨g, m, none⟩ (.slice (some ⟨w.heap.size, 0, none⟩) (pl m) (pl m))) (pl m)
      rw [hsz] at this
      exact this.ext (fun i _ => by rw [hsn])
    · simp only [e, if_false]
      have := h.gt m (by omega)
      exact ((h.inner m (by omega)).far (by show g ≠ G m; omega) _).alloc _

theorem Grid.mark {w : World} {g ns : Nat} {pl : Nat → Nat} {sn : Nat → Nat → Bool} {G : Nat → Nat} (h : Grid w g ns ns pl sn G) {m i : Nat} (hm : m < ns) (hi : i < pl m) :
    Grid (w.setCell ⟨G m, i, none⟩ (.bool true)) g ns ns pl (fun a b => if a = m ∧ b = i then true else sn a b) G := by
  have hgm := h.gt m hm
  refine ⟨h.row.far (by show G m ≠ g; omega) _, h.gt, h.ne, fun a ha => ?_⟩
  by_cases e : a = m
  · subst e
    exact ((h.inner a ha).put hi _).ext (fun b _ => by by_cases e : b = i <;> simp [e])
  · refine ((h.inner a ha).far (by exact fun h' => h.ne m hm a ha (fun x => e x.symm) h') _).ext (fun b _ => by simp [e])

theorem Grid.alloc {w : World} {g ns s : Nat} {pl : Nat → Nat} {sn : Nat → Nat → Bool} {G : Nat → Nat} (h : Grid w g ns s pl sn G) (o : Obj) : Grid (w.alloc o) g ns s pl sn G :=
  ⟨h.row.alloc o, h.gt, h.ne, fun m hm => (h.inner m hm).alloc o⟩
theorem Grid.drewN {w : World} {g ns s : Nat} {pl : Nat → Nat} {sn : Nat → Nat → Bool} {G : Nat → Nat} (h : Grid w g ns s pl sn G) (n : Nat) : Grid (w.drewN n) g ns s pl sn G :=
  ⟨h.row.drewN n, h.gt, h.ne, fun m hm => (h.inner m hm).drewN n⟩
theorem Grid.drew {w : World} {g ns s : Nat} {pl : Nat → Nat} {sn : Nat → Nat → Bool} {G : Nat → Nat} (h : Grid w g ns s pl sn G) : Grid w.drew g ns s pl sn G :=
  ⟨h.row.drew, h.gt, h.ne, fun m hm => (h.inner m hm).drew⟩

/-- seen after one more mark. -/
theorem seen2_step {of ix : Nat → Int} {sn : Nat → Nat → Bool} {k x y : Nat} {ns : Nat} {pl : Nat → Nat} (h : ∀ m < ns, ∀ i < pl m, sn m i = true ↔ ∃ p < k, of p = (m : Int) ∧ ix p = (i : Int)) (hx : of k = x) (hy : ix k = y) :
    ∀ m < ns, ∀ i < pl m, (if m = x ∧ i = y then true else sn m i) = true ↔ ∃ p < k + 1, of p = (m : Int) ∧ ix p = (i : Int) := by
  intro m hm i hi
  by_cases e : m = x ∧ i = y
  · obtain ⟨rfl, rfl⟩ := e
    simp only [and_self, if_true, true_iff]
    exact ⟨k, by omega, hx, hy⟩
  · rw [if_neg e, h m hm i hi]
    constructor
    · rintro ⟨p, hp, h'⟩; exact ⟨p, by omega, h'⟩
    · rintro ⟨p, hp, h'⟩
      by_cases c : p = k
      · subst c; rw [hx, hy] at h'; exact absurd ⟨by omega, by omega⟩ e
      · exact ⟨p, by omega, h'⟩

end Go.Proofs.Qxb6615139a
