/-
  No cell of these rows narrows 'for every input' (looked for: loops, veiled, ifaces, maps, wideKeys, modest, calm, conditions, laid).
  DERIVED. THE GIVEN ROWS OF THIS SEAT. 5 by the template 'for every input the law returns true; each argument reads behind the call as it read before'; 0 by the template 'total and deterministic' (their statements: Qxb6615186aTotals.lean).
  GIVEN WITH THE SEED: the statements are not yours to turn. If you find one false, say at which input.
  Laid BY PROGRAM, IN A SANDBOX (cutbox-rows.mjs): the forced cells as the released guide's own fill.sh prints them over the translation 66fd837483aa26ac… (all of the seat's roots in one cut). By AI agents, Wed Nov 11 2026. No macro, syntax, notation, axiom, sorry.
-/
import Derived.Test.Qxb6615186aChecked
import GoSem.Claim
import GoSem.ClaimJoined
import GoSem.ClaimMapViews
import Derived.JoinedTies
import Derived.KernelRfl
namespace Go.Proofs.Qxb6615186a
/- THE CELL 'sum', in the pinned program and in every row, IS THE sha256 OF THE DUMP (.gsa) THAT Qxb6615186aProg.lean LOADS. Nothing in Lean hashes anything: it is a label: what it is worth is what the hold of that sum in a sandbox is worth. -/
noncomputable def Try.pinned : Pinned := { name := "qxb6615186a", sum := "66fd837483aa26acb65e6e6f041cc446daade0295de03d301457bf55bccfc14a", checked := Try.checked }
namespace Rows
def none {H : Type} : Left H := { results := [], args := [] }

/-- 'zzlaws_root_b1.FnSensorSetJoinsAtAnyCut': WHATEVER THE INPUT: true; the input reads as it did. -/
def fnSensorSetJoinsAtAnyCutSpec : ChangeSpec := { name := "fnSensorSetJoinsAtAnyCut", fn := fun _ => fun
  | [d1, d2] => { results := [.lit (.bool true)], args := [d1, d2] }
  | _ => none }
def fnSensorSetJoinsAtAnyCutRow : OpenClaim := { program := "qxb6615186a", sum := "66fd837483aa26acb65e6e6f041cc446daade0295de03d301457bf55bccfc14a", func := "example.com/quorumloop/quorumloop/zzlaws_root_b1.FnSensorSetJoinsAtAnyCut", spec := "fnSensorSetJoinsAtAnyCut", unfollowed := true, recurses := true, apart := false }
def FnSensorSetJoinsAtAnyCutSaid : Prop := fnSensorSetJoinsAtAnyCutRow.holds Try.pinned (OpenSpec.ofChange fnSensorSetJoinsAtAnyCutSpec)

/-- ITS FALSE NEIGHBOUR: 'it returns false'. Refute it at one input. -/
def fnSensorSetJoinsAtAnyCutWrong : ChangeSpec := { name := "fnSensorSetJoinsAtAnyCut", fn := fun _ => fun
  | [d1, d2] => { results := [.lit (.bool false)], args := [d1, d2] }
  | _ => none }
def FnSensorSetJoinsAtAnyCutWrongFalsely : Prop := fnSensorSetJoinsAtAnyCutRow.holds Try.pinned (OpenSpec.ofChange fnSensorSetJoinsAtAnyCutWrong)

/-- 'zzlaws_root_b1.FnSensorSetTogglingOneInputFlipsItsBitAlone': WHATEVER THE INPUT: true; the input reads as it did. -/
def fnSensorSetTogglingOneInputFlipsItsBitAloneSpec : ChangeSpec := { name := "fnSensorSetTogglingOneInputFlipsItsBitAlone", fn := fun _ => fun
  | [d1, d2] => { results := [.lit (.bool true)], args := [d1, d2] }
  | _ => none }
def fnSensorSetTogglingOneInputFlipsItsBitAloneRow : OpenClaim := { program := "qxb6615186a", sum := "66fd837483aa26acb65e6e6f041cc446daade0295de03d301457bf55bccfc14a", func := "example.com/quorumloop/quorumloop/zzlaws_root_b1.FnSensorSetTogglingOneInputFlipsItsBitAlone", spec := "fnSensorSetTogglingOneInputFlipsItsBitAlone", unfollowed := true, recurses := true, apart := false }
def FnSensorSetTogglingOneInputFlipsItsBitAloneSaid : Prop := fnSensorSetTogglingOneInputFlipsItsBitAloneRow.holds Try.pinned (OpenSpec.ofChange fnSensorSetTogglingOneInputFlipsItsBitAloneSpec)

/-- ITS FALSE NEIGHBOUR: 'it returns false'. Refute it at one input. -/
def fnSensorSetTogglingOneInputFlipsItsBitAloneWrong : ChangeSpec := { name := "fnSensorSetTogglingOneInputFlipsItsBitAlone", fn := fun _ => fun
  | [d1, d2] => { results := [.lit (.bool false)], args := [d1, d2] }
  | _ => none }
def FnSensorSetTogglingOneInputFlipsItsBitAloneWrongFalsely : Prop := fnSensorSetTogglingOneInputFlipsItsBitAloneRow.holds Try.pinned (OpenSpec.ofChange fnSensorSetTogglingOneInputFlipsItsBitAloneWrong)

/-- 'zzlaws_root_b1.FnEndedTwiceIsEndedOnce': WHATEVER THE INPUT: true; the input reads as it did. -/
def fnEndedTwiceIsEndedOnceSpec : ChangeSpec := { name := "fnEndedTwiceIsEndedOnce", fn := fun _ => fun
  | [d1, d2, d3] => { results := [.lit (.bool true)], args := [d1, d2, d3] }
  | _ => none }
def fnEndedTwiceIsEndedOnceRow : OpenClaim := { program := "qxb6615186a", sum := "66fd837483aa26acb65e6e6f041cc446daade0295de03d301457bf55bccfc14a", func := "example.com/quorumloop/quorumloop/zzlaws_root_b1.FnEndedTwiceIsEndedOnce", spec := "fnEndedTwiceIsEndedOnce", inPlace := ["(*internal/sync.Mutex).Lock", "internal/race.Disable", "sync/atomic.CompareAndSwapInt32", "internal/race.Enable", "internal/race.Acquire", "(*internal/sync.Mutex).lockSlow", "internal/sync.runtime_canSpin", "internal/sync.runtime_doSpin", "internal/sync.throw", "internal/sync.runtime_nanotime", "internal/sync.runtime_SemacquireMutex", "sync/atomic.AddInt32", "(*internal/sync.Mutex).Unlock", "internal/race.ReleaseMerge", "(*internal/sync.Mutex).unlockSlow", "internal/sync.fatal", "internal/sync.runtime_Semrelease"], apart := false }
def FnEndedTwiceIsEndedOnceSaid : Prop := fnEndedTwiceIsEndedOnceRow.holds Try.pinned (OpenSpec.ofChange fnEndedTwiceIsEndedOnceSpec)

/-- ITS FALSE NEIGHBOUR: 'it returns false'. Refute it at one input. -/
def fnEndedTwiceIsEndedOnceWrong : ChangeSpec := { name := "fnEndedTwiceIsEndedOnce", fn := fun _ => fun
  | [d1, d2, d3] => { results := [.lit (.bool false)], args := [d1, d2, d3] }
  | _ => none }
def FnEndedTwiceIsEndedOnceWrongFalsely : Prop := fnEndedTwiceIsEndedOnceRow.holds Try.pinned (OpenSpec.ofChange fnEndedTwiceIsEndedOnceWrong)

/-- 'zzlaws_root_b1.FnEndedAtTwoPmusInEitherOrder': WHATEVER THE INPUT: true; the input reads as it did. -/
def fnEndedAtTwoPmusInEitherOrderSpec : ChangeSpec := { name := "fnEndedAtTwoPmusInEitherOrder", fn := fun _ => fun
  | [d1, d2, d3, d4] => { results := [.lit (.bool true)], args := [d1, d2, d3, d4] }
  | _ => none }
def fnEndedAtTwoPmusInEitherOrderRow : OpenClaim := { program := "qxb6615186a", sum := "66fd837483aa26acb65e6e6f041cc446daade0295de03d301457bf55bccfc14a", func := "example.com/quorumloop/quorumloop/zzlaws_root_b1.FnEndedAtTwoPmusInEitherOrder", spec := "fnEndedAtTwoPmusInEitherOrder", inPlace := ["(*internal/sync.Mutex).Lock", "internal/race.Disable", "sync/atomic.CompareAndSwapInt32", "internal/race.Enable", "internal/race.Acquire", "(*internal/sync.Mutex).lockSlow", "internal/sync.runtime_canSpin", "internal/sync.runtime_doSpin", "internal/sync.throw", "internal/sync.runtime_nanotime", "internal/sync.runtime_SemacquireMutex", "sync/atomic.AddInt32", "(*internal/sync.Mutex).Unlock", "internal/race.ReleaseMerge", "(*internal/sync.Mutex).unlockSlow", "internal/sync.fatal", "internal/sync.runtime_Semrelease"], apart := false }
def FnEndedAtTwoPmusInEitherOrderSaid : Prop := fnEndedAtTwoPmusInEitherOrderRow.holds Try.pinned (OpenSpec.ofChange fnEndedAtTwoPmusInEitherOrderSpec)

/-- ITS FALSE NEIGHBOUR: 'it returns false'. Refute it at one input. -/
def fnEndedAtTwoPmusInEitherOrderWrong : ChangeSpec := { name := "fnEndedAtTwoPmusInEitherOrder", fn := fun _ => fun
  | [d1, d2, d3, d4] => { results := [.lit (.bool false)], args := [d1, d2, d3, d4] }
  | _ => none }
def FnEndedAtTwoPmusInEitherOrderWrongFalsely : Prop := fnEndedAtTwoPmusInEitherOrderRow.holds Try.pinned (OpenSpec.ofChange fnEndedAtTwoPmusInEitherOrderWrong)

/-- 'zzlaws_root_b1.FnCompleteAgreesWithSensorSet': WHATEVER THE INPUT: true; the input reads as it did. -/
def fnCompleteAgreesWithSensorSetSpec : ChangeSpec := { name := "fnCompleteAgreesWithSensorSet", fn := fun _ => fun
  | [d1, d2] => { results := [.lit (.bool true)], args := [d1, d2] }
  | _ => none }
def fnCompleteAgreesWithSensorSetRow : OpenClaim := { program := "qxb6615186a", sum := "66fd837483aa26acb65e6e6f041cc446daade0295de03d301457bf55bccfc14a", func := "example.com/quorumloop/quorumloop/zzlaws_root_b1.FnCompleteAgreesWithSensorSet", spec := "fnCompleteAgreesWithSensorSet", unfollowed := true, recurses := true, apart := false }
def FnCompleteAgreesWithSensorSetSaid : Prop := fnCompleteAgreesWithSensorSetRow.holds Try.pinned (OpenSpec.ofChange fnCompleteAgreesWithSensorSetSpec)

/-- ITS FALSE NEIGHBOUR: 'it returns false'. Refute it at one input. -/
def fnCompleteAgreesWithSensorSetWrong : ChangeSpec := { name := "fnCompleteAgreesWithSensorSet", fn := fun _ => fun
  | [d1, d2] => { results := [.lit (.bool false)], args := [d1, d2] }
  | _ => none }
def FnCompleteAgreesWithSensorSetWrongFalsely : Prop := fnCompleteAgreesWithSensorSetRow.holds Try.pinned (OpenSpec.ofChange fnCompleteAgreesWithSensorSetWrong)

end Rows
end Go.Proofs.Qxb6615186a
