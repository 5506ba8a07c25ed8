/-
  DERIVED. GIVEN WITH THE SEED: THE CARDS: each row of Qxb6615135aFmtRows.lean that lists a variable, with what it lists TIED to the program's text (the seventh form; the later family's looks); each row that meets fmt, with fmt's text TOLD by the authors' own Lean function (tested against real Go, not proved from fmt's source: count such statements apart). THE CARD IS WHAT COUNTS. Prove the row's statement (the work); the ties are given (Qxb6615135aFmtTie.lean); close each card by the builder's one call (the guide's Derived/Test/ToyasCard.lean, 'card_holds'). Laid BY PROGRAM, IN A SANDBOX (cutbox-door.mjs). By AI agents, Wed Nov 11 2026. No macro, syntax, notation, axiom, sorry.
-/
import Derived.Test.Qxb6615135aFmtRows
import GoSem.ClaimSeven
namespace Go.Proofs.Qxb6615135aFmt
namespace Rows

/-- THE TOLD CARD OF 'zzlaws_pkg_provider_b1.FnCheckNoConfigRefusesExactlyNonEmptyAtAnyCut'. -/
def fnCheckNoConfigRefusesExactlyNonEmptyAtAnyCutCard : Claim7 := { stood := { row := fnCheckNoConfigRefusesExactlyNonEmptyAtAnyCutRow, standIns := [], harness := (true, "fc28f5a7c0af73ecb9dcfa25ae8f5b08f1138c0a1fd7ecc57b8efbc6f54d97f5"), looks := false }, told := true, goes := false }
def FnCheckNoConfigRefusesExactlyNonEmptyAtAnyCutToldSaid : Prop := Claim7.holds Tryf.pinned (.plain (OpenSpec.ofChange fnCheckNoConfigRefusesExactlyNonEmptyAtAnyCutSpec)) fnCheckNoConfigRefusesExactlyNonEmptyAtAnyCutCard
/-- ITS FALSE NEIGHBOUR. Refute it at one input. -/
def FnCheckNoConfigRefusesExactlyNonEmptyAtAnyCutToldWrongFalsely : Prop := Claim7.holds Tryf.pinned (.plain (OpenSpec.ofChange fnCheckNoConfigRefusesExactlyNonEmptyAtAnyCutWrong)) fnCheckNoConfigRefusesExactlyNonEmptyAtAnyCutCard

/-- THE TOLD CARD OF 'zzlaws_pkg_provider_b1.FnCheckNoConfigOutputIsAccepted'. -/
def fnCheckNoConfigOutputIsAcceptedCard : Claim7 := { stood := { row := fnCheckNoConfigOutputIsAcceptedRow, standIns := [], harness := (true, "fc28f5a7c0af73ecb9dcfa25ae8f5b08f1138c0a1fd7ecc57b8efbc6f54d97f5"), looks := false }, told := true, goes := false }
def FnCheckNoConfigOutputIsAcceptedToldSaid : Prop := Claim7.holds Tryf.pinned (.plain (OpenSpec.ofChange fnCheckNoConfigOutputIsAcceptedSpec)) fnCheckNoConfigOutputIsAcceptedCard
/-- ITS FALSE NEIGHBOUR. Refute it at one input. -/
def FnCheckNoConfigOutputIsAcceptedToldWrongFalsely : Prop := Claim7.holds Tryf.pinned (.plain (OpenSpec.ofChange fnCheckNoConfigOutputIsAcceptedWrong)) fnCheckNoConfigOutputIsAcceptedCard
end Rows
end Go.Proofs.Qxb6615135aFmt
