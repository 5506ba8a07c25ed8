/-
  No cell of these rows narrows 'for every input' (looked for: loops, veiled, ifaces, maps, wideKeys, modest, calm, conditions, laid).
  DERIVED. THE GIVEN ROWS OF THIS SEAT. 2 by the template 'for every input the law returns true; each argument reads behind the call as it read before'; 0 by the template 'total and deterministic' (their statements: Qxb6615135aFmtTotals.lean).
  GIVEN WITH THE SEED: the statements are not yours to turn. If you find one false, say at which input.
  Laid BY PROGRAM, IN A SANDBOX (cutbox-rows.mjs): the forced cells as the released guide's own fill.sh prints them over the translation ad136df0985e2806… (all of the seat's roots in one cut). By AI agents, Wed Nov 11 2026. No macro, syntax, notation, axiom, sorry.
-/
import Derived.Test.Qxb6615135aFmtChecked
import GoSem.Claim
import GoSem.ClaimJoined
import GoSem.ClaimMapViews
import Derived.JoinedTies
import Derived.KernelRfl
namespace Go.Proofs.Qxb6615135aFmt
/- THE CELL 'sum', in the pinned program and in every row, IS THE sha256 OF THE DUMP (.gsa) THAT Qxb6615135aFmtProg.lean LOADS. Nothing in Lean hashes anything: it is a label: what it is worth is what the hold of that sum in a sandbox is worth. -/
noncomputable def Tryf.pinned : Pinned := { name := "qxb6615135afmt", sum := "ad136df0985e28068c97152cd1640d9bf8cc0647d5391b0aa0ebf20e25be1e87", checked := Tryf.checked }
namespace Rows
def none {H : Type} : Left H := { results := [], args := [] }

/-- 'zzlaws_pkg_provider_b1.FnCheckNoConfigRefusesExactlyNonEmptyAtAnyCut': WHATEVER THE INPUT: true; the input reads as it did. -/
def fnCheckNoConfigRefusesExactlyNonEmptyAtAnyCutSpec : ChangeSpec := { name := "fnCheckNoConfigRefusesExactlyNonEmptyAtAnyCut", fn := fun _ => fun
  | [d1, d2] => { results := [.lit (.bool true)], args := [d1, d2] }
  | _ => none }
def fnCheckNoConfigRefusesExactlyNonEmptyAtAnyCutRow : OpenClaim := { program := "qxb6615135afmt", sum := "ad136df0985e28068c97152cd1640d9bf8cc0647d5391b0aa0ebf20e25be1e87", func := "example.com/stepwright/stepwright/zzlaws_pkg_provider_b1.FnCheckNoConfigRefusesExactlyNonEmptyAtAnyCut", spec := "fnCheckNoConfigRefusesExactlyNonEmptyAtAnyCut", stops := ["fmt.errorf"], inPlace := ["fmt.errorf"], unfollowed := true, recurses := true, apart := false }
/-- NO THEOREM (fmt's text is open here; it may be false): for the released tool's asking of the row's closed facts alone. THE STATEMENT IS 'FnCheckNoConfigRefusesExactlyNonEmptyAtAnyCutToldSaid' (Qxb6615135aFmtCards.lean). -/
def FnCheckNoConfigRefusesExactlyNonEmptyAtAnyCutFormAsk : Prop := fnCheckNoConfigRefusesExactlyNonEmptyAtAnyCutRow.holds Tryf.pinned (OpenSpec.ofChange fnCheckNoConfigRefusesExactlyNonEmptyAtAnyCutSpec)

/-- ITS FALSE NEIGHBOUR: 'it returns false'. Refute it at one input. -/
def fnCheckNoConfigRefusesExactlyNonEmptyAtAnyCutWrong : ChangeSpec := { name := "fnCheckNoConfigRefusesExactlyNonEmptyAtAnyCut", fn := fun _ => fun
  | [d1, d2] => { results := [.lit (.bool false)], args := [d1, d2] }
  | _ => none }
def FnCheckNoConfigRefusesExactlyNonEmptyAtAnyCutWrongFormAsk : Prop := fnCheckNoConfigRefusesExactlyNonEmptyAtAnyCutRow.holds Tryf.pinned (OpenSpec.ofChange fnCheckNoConfigRefusesExactlyNonEmptyAtAnyCutWrong)

/-- 'zzlaws_pkg_provider_b1.FnCheckNoConfigOutputIsAccepted': WHATEVER THE INPUT: true; the input reads as it did. -/
def fnCheckNoConfigOutputIsAcceptedSpec : ChangeSpec := { name := "fnCheckNoConfigOutputIsAccepted", fn := fun _ => fun
  | [d] => { results := [.lit (.bool true)], args := [d] }
  | _ => none }
def fnCheckNoConfigOutputIsAcceptedRow : OpenClaim := { program := "qxb6615135afmt", sum := "ad136df0985e28068c97152cd1640d9bf8cc0647d5391b0aa0ebf20e25be1e87", func := "example.com/stepwright/stepwright/zzlaws_pkg_provider_b1.FnCheckNoConfigOutputIsAccepted", spec := "fnCheckNoConfigOutputIsAccepted", stops := ["fmt.errorf"], inPlace := ["fmt.errorf"], unfollowed := true, recurses := true, apart := false }
/-- NO THEOREM (fmt's text is open here; it may be false): for the released tool's asking of the row's closed facts alone. THE STATEMENT IS 'FnCheckNoConfigOutputIsAcceptedToldSaid' (Qxb6615135aFmtCards.lean). -/
def FnCheckNoConfigOutputIsAcceptedFormAsk : Prop := fnCheckNoConfigOutputIsAcceptedRow.holds Tryf.pinned (OpenSpec.ofChange fnCheckNoConfigOutputIsAcceptedSpec)

/-- ITS FALSE NEIGHBOUR: 'it returns false'. Refute it at one input. -/
def fnCheckNoConfigOutputIsAcceptedWrong : ChangeSpec := { name := "fnCheckNoConfigOutputIsAccepted", fn := fun _ => fun
  | [d] => { results := [.lit (.bool false)], args := [d] }
  | _ => none }
def FnCheckNoConfigOutputIsAcceptedWrongFormAsk : Prop := fnCheckNoConfigOutputIsAcceptedRow.holds Tryf.pinned (OpenSpec.ofChange fnCheckNoConfigOutputIsAcceptedWrong)

end Rows
end Go.Proofs.Qxb6615135aFmt
