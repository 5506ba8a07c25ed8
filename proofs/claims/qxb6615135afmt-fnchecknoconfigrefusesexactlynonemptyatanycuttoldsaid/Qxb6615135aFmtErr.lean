/- fmt.Errorf at one operand that is a slice of strings: some error, in new memory. -/
import Derived.Test.Qxb6615135aFmtRows
import Derived.WalkKit
import Derived.WalkSpells
import Derived.ProofKit
import Derived.Stop.CallBack
import Derived.Stop.IfaceNil
import GoSem.ClaimData
namespace Go.Proofs.Qxb6615135aFmt
open Go.RowKit Go.Extern.Stop Go.Stop Go.Extern

theorem call12 (args : Array Value) (w : World) : (callFunc 12 args).run Tryf.prog w = ((FmtStop.errorf #[9, 36] #[26] args).run Tryf.prog w).andThen fun v w' => .ok (.value v) w' :=
  run_callFunc_extern Tryf.func12 (by kernel_rfl) (by kernel_rfl) (by kernel_rfl) (by kernel_rfl) args w
theorem guardE (w : World) : (FmtStop.guard "fmt.errorf").run Tryf.prog w = .ok () w := by kernel_rfl
/-- The format of the one call. -/
def fmtS : ByteArray := { data := #[116, 104, 101, 32, 112, 114, 111, 118, 105, 100, 101, 114, 32, 116, 97, 107, 101, 115, 32, 110, 111, 32, 99, 111, 110, 102, 105, 103, 117, 114, 97, 116, 105, 111, 110, 44, 32, 97, 110, 100, 32, 105, 115, 32, 103, 105, 118, 101, 110, 32, 37, 113] }
theorem printedE (w : World) : (FmtDoors.printed fmtS 1).run Tryf.prog w = .ok [(0, 113, false)] w := by kernel_rfl
theorem ptrE (w : World) : (FmtStop.ptrTo "errors.errorString").run Tryf.prog w = .ok 41 w := by kernel_rfl
theorem elemE (w : World) : (elemOf 41).run Tryf.prog w = .ok 43 w := by kernel_rfl

theorem value9 (x : ByteArray) (w : World) : (FmtStop.value "fmt.errorf" FmtStop.depth 9 [.string x]).run Tryf.prog w = .ok (FmtStop.pack x.data.toList) w := by kernel_rfl
theorem values9 (w : World) : ∀ xs : List ByteArray, (List.mapM ((fun c => FmtStop.value "fmt.errorf" FmtStop.depth 9 [c]) ∘ Value.string) xs).run Tryf.prog w = .ok (xs.map fun x => FmtStop.pack x.data.toList) w
  | [] => by simp [List.mapM_nil]
  | x :: xs => by
    have ih := values9 w xs
    have h := value9 x w
    simp [List.mapM_cons, h, ih, Result.andThen]

theorem opStrs (a : Addr) (cap : Nat) (xs : List ByteArray) (w : World) (hc : ∀ j v, (xs.map Value.string)[j]? = some v → w.cell? (a.add j) = some v) :
    ∃ l, (FmtStop.operand "fmt.errorf" true 113 false (.iface 22 (.slice (some a) xs.length cap))).run Tryf.prog w = .ok l w := by
  have h1 : (typeStr 22).run Tryf.prog w = .ok "[]string" w := by kernel_rfl
  have d2 : Tryf.t22.desc = .slice 9 := rfl
  have hb : (FmtStop.bare (FmtStop.asked true 113 false) 22).run Tryf.prog w = .ok true w := by kernel_rfl
  have hs : (FmtStop.scalar 9).run Tryf.prog w = .ok true w := by kernel_rfl
  have hy : (Extern.Stop.isByte 9).run Tryf.prog w = .ok false w := by kernel_rfl
  have hsh : (FmtStop.shape "fmt.errorf" (FmtStop.asked true 113 false) FmtStop.depth 9).run Tryf.prog w = .ok (12 :: FmtStop.pack "string".toUTF8.data.toList) w := by kernel_rfl
  have hl := run_loadCells_list (P := Tryf.prog) w a (xs.map Value.string) hc
  rw [List.length_map] at hl
  refine ⟨(13 :: (FmtStop.pack "[]string".toUTF8.data.toList ++ 12 :: FmtStop.pack "string".toUTF8.data.toList), 1 :: (digits 8 xs.length ++ (xs.map fun x => FmtStop.pack x.data.toList).flatten)), ?_⟩
  simp [FmtStop.operand, h1, hb, hs, hy, hsh, hl, values9]

theorem opNil (w : World) : ∃ l, (FmtStop.operand "fmt.errorf" true 113 false (.iface 22 (.slice none 0 0))).run Tryf.prog w = .ok l w := by
  refine ⟨(13 :: (FmtStop.pack "[]string".toUTF8.data.toList ++ 12 :: FmtStop.pack "string".toUTF8.data.toList), [0]), ?_⟩
  kernel_rfl

theorem textE (head : List (List UInt8)) (ops : List (List UInt8 × List UInt8)) (w : World) : ∃ s, (FmtStop.text "fmt.errorf" head ops).run Tryf.prog w = .ok s w.drew := ⟨_, rfl⟩

/-- fmt.errorf at that format and one operand that can be read: a new error. -/
theorem errorf_run (c : Nat) (v : Value) (w : World) (hcell : w.cell? ⟨c, 0, none⟩ = some v) (hop : ∃ l, (FmtStop.operand "fmt.errorf" true 113 false v).run Tryf.prog w = .ok l w) :
    ∃ s, (FmtStop.errorf #[9, 36] #[26] #[.string fmtS, .slice (some ⟨c, 0, none⟩) 1 1]).run Tryf.prog w = .ok (.iface 41 (.pointer (some ⟨w.heap.size, 0, none⟩))) ((w.alloc (.cells #[s] 43)).drew) := by
  obtain ⟨l, hl⟩ := hop
  have hcs := run_loadCells_list (P := Tryf.prog) w ⟨c, 0, none⟩ [v] (fun j u hj => by
    match j, hj with
    | 0, hj => simp at hj; subst hj; simpa [Addr.add] using hcell)
  have hg := guardE
  have hp := printedE
  have ht := ptrE
  have he := elemE
  obtain ⟨s, hs⟩ := textE [fmtS.data.toList] [l] w
  simp only [List.length_singleton] at hcs
  refine ⟨s, ?_⟩
  simp [FmtStop.errorf_lit, FmtStop.cells, hg, hp, ht, he, hcs, FmtStop.readAll, hl]
  rw [hs]
  rfl

set_option maxHeartbeats 400000 in
/-- fmt.Errorf at that format and one operand that can be read. -/
theorem errorfW (c : Nat) (v : Value) (w : World) (hcell : w.cell? ⟨c, 0, none⟩ = some v) (hop : ∃ l, (FmtStop.operand "fmt.errorf" true 113 false v).run Tryf.prog w = .ok l w) :
    Calls Tryf.prog 9 #[.string fmtS, .slice (some ⟨c, 0, none⟩) 1 1] w fun e w' => e = .returned (.iface 41 (.pointer (some ⟨w.heap.size, 0, none⟩))) ∧ Below w.heap.size w w' := by
  obtain ⟨s, hr⟩ := errorf_run c v w hcell hop
  have hc : (callFunc 12 #[.string fmtS, .slice (some ⟨c, 0, none⟩) 1 1]).run Tryf.prog w = .ok (.value (.iface 41 (.pointer (some ⟨w.heap.size, 0, none⟩)))) ((w.alloc (.cells #[s] 43)).drew) := by
    rw [call12, hr]; rfl
  clear hcell hop hr
  go_enter Tryf.func9, Tryf.ntmps9
  go_wp2
  go_ret
  exact ⟨rfl, ((Below.refl _ _).alloc (Nat.le_refl _) _).drew⟩

end Go.Proofs.Qxb6615135aFmt
