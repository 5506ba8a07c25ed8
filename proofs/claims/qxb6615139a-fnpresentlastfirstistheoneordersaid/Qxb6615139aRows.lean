/-
  No cell of these rows narrows 'for every input' (looked for: loops, veiled, ifaces, maps, wideKeys, modest, calm, conditions, laid).
  DERIVED. THE GIVEN ROWS OF THIS SEAT. 3 by the template 'for every input the law returns true; each argument reads behind the call as it read before'; 0 by the template 'total and deterministic' (their statements: Qxb6615139aTotals.lean).
  GIVEN WITH THE SEED: the statements are not yours to turn. If you find one false, say at which input.
  Laid BY PROGRAM, IN A SANDBOX (cutbox-rows.mjs): the forced cells as the released guide's own fill.sh prints them over the translation ba3bca1a1dd4a76a… (all of the seat's roots in one cut). By AI agents, Wed Nov 11 2026. No macro, syntax, notation, axiom, sorry.
-/
import Derived.Test.Qxb6615139aChecked
import GoSem.Claim
import GoSem.ClaimJoined
import GoSem.ClaimMapViews
import Derived.JoinedTies
import Derived.KernelRfl
namespace Go.Proofs.Qxb6615139a
/- THE CELL 'sum', in the pinned program and in every row, IS THE sha256 OF THE DUMP (.gsa) THAT Qxb6615139aProg.lean LOADS. Nothing in Lean hashes anything: it is a label: what it is worth is what the hold of that sum in a sandbox is worth. -/
noncomputable def Try.pinned : Pinned := { name := "qxb6615139a", sum := "ba3bca1a1dd4a76ac9bc7a6caeac5ea8ef3974ccbfae264a1a0aadda293cab25", checked := Try.checked }
namespace Rows
def none {H : Type} : Left H := { results := [], args := [] }

/-- 'zzlaws_root_b1.FnLeaveMoreLeavesLess': WHATEVER THE INPUT: true; the input reads as it did. -/
def fnLeaveMoreLeavesLessSpec : ChangeSpec := { name := "fnLeaveMoreLeavesLess", fn := fun _ => fun
  | [d1, d2, d3, d4, d5, d6, d7, d8, d9, d10, d11] => { results := [.lit (.bool true)], args := [d1, d2, d3, d4, d5, d6, d7, d8, d9, d10, d11] }
  | _ => none }
def fnLeaveMoreLeavesLessRow : OpenClaim := { program := "qxb6615139a", sum := "ba3bca1a1dd4a76ac9bc7a6caeac5ea8ef3974ccbfae264a1a0aadda293cab25", func := "example.com/scrubjay/scrubjay/zzlaws_root_b1.FnLeaveMoreLeavesLess", spec := "fnLeaveMoreLeavesLess", apart := false }
def FnLeaveMoreLeavesLessSaid : Prop := fnLeaveMoreLeavesLessRow.holds Try.pinned (OpenSpec.ofChange fnLeaveMoreLeavesLessSpec)

/-- ITS FALSE NEIGHBOUR: 'it returns false'. Refute it at one input. -/
def fnLeaveMoreLeavesLessWrong : ChangeSpec := { name := "fnLeaveMoreLeavesLess", fn := fun _ => fun
  | [d1, d2, d3, d4, d5, d6, d7, d8, d9, d10, d11] => { results := [.lit (.bool false)], args := [d1, d2, d3, d4, d5, d6, d7, d8, d9, d10, d11] }
  | _ => none }
def FnLeaveMoreLeavesLessWrongFalsely : Prop := fnLeaveMoreLeavesLessRow.holds Try.pinned (OpenSpec.ofChange fnLeaveMoreLeavesLessWrong)

/-- 'zzlaws_root_b1.FnPresentLastFirstIsTheOneOrder': WHATEVER THE INPUT: true; the input reads as it did. -/
def fnPresentLastFirstIsTheOneOrderSpec : ChangeSpec := { name := "fnPresentLastFirstIsTheOneOrder", fn := fun _ => fun
  | [d] => { results := [.lit (.bool true)], args := [d] }
  | _ => none }
def fnPresentLastFirstIsTheOneOrderRow : OpenClaim := { program := "qxb6615139a", sum := "ba3bca1a1dd4a76ac9bc7a6caeac5ea8ef3974ccbfae264a1a0aadda293cab25", func := "example.com/scrubjay/scrubjay/zzlaws_root_b1.FnPresentLastFirstIsTheOneOrder", spec := "fnPresentLastFirstIsTheOneOrder", inPlace := ["internal/reflectlite.ValueOf", "internal/reflectlite.Swapper", "(internal/reflectlite.Value).Len"], unfollowed := true, recurses := true, apart := false }
def FnPresentLastFirstIsTheOneOrderSaid : Prop := fnPresentLastFirstIsTheOneOrderRow.holds Try.pinned (OpenSpec.ofChange fnPresentLastFirstIsTheOneOrderSpec)

/-- ITS FALSE NEIGHBOUR: 'it returns false'. Refute it at one input. -/
def fnPresentLastFirstIsTheOneOrderWrong : ChangeSpec := { name := "fnPresentLastFirstIsTheOneOrder", fn := fun _ => fun
  | [d] => { results := [.lit (.bool false)], args := [d] }
  | _ => none }
def FnPresentLastFirstIsTheOneOrderWrongFalsely : Prop := fnPresentLastFirstIsTheOneOrderRow.holds Try.pinned (OpenSpec.ofChange fnPresentLastFirstIsTheOneOrderWrong)

/-- 'zzlaws_root_b1.FnPresentLastFirstLeavesTheLastByNameFirst': WHATEVER THE INPUT: true; the input reads as it did. -/
def fnPresentLastFirstLeavesTheLastByNameFirstSpec : ChangeSpec := { name := "fnPresentLastFirstLeavesTheLastByNameFirst", fn := fun _ => fun
  | [d1, d2] => { results := [.lit (.bool true)], args := [d1, d2] }
  | _ => none }
def fnPresentLastFirstLeavesTheLastByNameFirstRow : OpenClaim := { program := "qxb6615139a", sum := "ba3bca1a1dd4a76ac9bc7a6caeac5ea8ef3974ccbfae264a1a0aadda293cab25", func := "example.com/scrubjay/scrubjay/zzlaws_root_b1.FnPresentLastFirstLeavesTheLastByNameFirst", spec := "fnPresentLastFirstLeavesTheLastByNameFirst", inPlace := ["internal/reflectlite.ValueOf", "internal/reflectlite.Swapper", "(internal/reflectlite.Value).Len"], unfollowed := true, recurses := true, apart := false }
def FnPresentLastFirstLeavesTheLastByNameFirstSaid : Prop := fnPresentLastFirstLeavesTheLastByNameFirstRow.holds Try.pinned (OpenSpec.ofChange fnPresentLastFirstLeavesTheLastByNameFirstSpec)

/-- ITS FALSE NEIGHBOUR: 'it returns false'. Refute it at one input. -/
def fnPresentLastFirstLeavesTheLastByNameFirstWrong : ChangeSpec := { name := "fnPresentLastFirstLeavesTheLastByNameFirst", fn := fun _ => fun
  | [d1, d2] => { results := [.lit (.bool false)], args := [d1, d2] }
  | _ => none }
def FnPresentLastFirstLeavesTheLastByNameFirstWrongFalsely : Prop := fnPresentLastFirstLeavesTheLastByNameFirstRow.holds Try.pinned (OpenSpec.ofChange fnPresentLastFirstLeavesTheLastByNameFirstWrong)

end Rows
end Go.Proofs.Qxb6615139a
