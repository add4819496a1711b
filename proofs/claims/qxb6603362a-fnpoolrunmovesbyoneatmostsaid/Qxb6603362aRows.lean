/-
  No cell of these rows narrows 'for every input' (looked for: loops, veiled, ifaces, maps, wideKeys, modest, calm, conditions, laid).
  DERIVED. THE GIVEN ROWS OF THIS SEAT. 5 by the template 'for every input the law returns true; each argument reads behind the call as it read before'; 0 by the template 'total and deterministic' (their statements: Qxb6603362aTotals.lean).
  GIVEN WITH THE SEED: the statements are not yours to turn. If you find one false, say at which input.
  Laid BY PROGRAM, IN A SANDBOX (cutbox-rows.mjs): the forced cells as the released guide's own fill.sh prints them over the translation d9aef18a82649329… (all of the seat's roots in one cut). By AI agents, Wed Nov 11 2026. No macro, syntax, notation, axiom, sorry.
-/
import Derived.Test.Qxb6603362aChecked
import GoSem.Claim
import GoSem.ClaimJoined
import GoSem.ClaimMapViews
import Derived.JoinedTies
import Derived.KernelRfl
namespace Go.Proofs.Qxb6603362a
/- THE CELL 'sum', in the pinned program and in every row, IS THE sha256 OF THE DUMP (.gsa) THAT Qxb6603362aProg.lean LOADS. Nothing in Lean hashes anything: it is a label: what it is worth is what the hold of that sum in a sandbox is worth. -/
noncomputable def Try.pinned : Pinned := { name := "qxb6603362a", sum := "d9aef18a826493295dd8b79ca3f300d2e2c1ffd4761bf0262ce5daa2d65d6991", checked := Try.checked }
namespace Rows
def none {H : Type} : Left H := { results := [], args := [] }

/-- 'zzlaws_internal_check_b1.FnPoolRunPutThenTakeRestores': WHATEVER THE INPUT: true; the input reads as it did. -/
def fnPoolRunPutThenTakeRestoresSpec : ChangeSpec := { name := "fnPoolRunPutThenTakeRestores", fn := fun _ => fun
  | [d1, d2] => { results := [.lit (.bool true)], args := [d1, d2] }
  | _ => none }
def fnPoolRunPutThenTakeRestoresRow : OpenClaim := { program := "qxb6603362a", sum := "d9aef18a826493295dd8b79ca3f300d2e2c1ffd4761bf0262ce5daa2d65d6991", func := "example.com/commutant/commutant/zzlaws_internal_check_b1.FnPoolRunPutThenTakeRestores", spec := "fnPoolRunPutThenTakeRestores", apart := false }
def FnPoolRunPutThenTakeRestoresSaid : Prop := fnPoolRunPutThenTakeRestoresRow.holds Try.pinned (OpenSpec.ofChange fnPoolRunPutThenTakeRestoresSpec)

/-- ITS FALSE NEIGHBOUR: 'it returns false'. Refute it at one input. -/
def fnPoolRunPutThenTakeRestoresWrong : ChangeSpec := { name := "fnPoolRunPutThenTakeRestores", fn := fun _ => fun
  | [d1, d2] => { results := [.lit (.bool false)], args := [d1, d2] }
  | _ => none }
def FnPoolRunPutThenTakeRestoresWrongFalsely : Prop := fnPoolRunPutThenTakeRestoresRow.holds Try.pinned (OpenSpec.ofChange fnPoolRunPutThenTakeRestoresWrong)

/-- 'zzlaws_internal_check_b1.FnPoolRunMovesByOneAtMost': WHATEVER THE INPUT: true; the input reads as it did. -/
def fnPoolRunMovesByOneAtMostSpec : ChangeSpec := { name := "fnPoolRunMovesByOneAtMost", fn := fun _ => fun
  | [d1, d2, d3] => { results := [.lit (.bool true)], args := [d1, d2, d3] }
  | _ => none }
def fnPoolRunMovesByOneAtMostRow : OpenClaim := { program := "qxb6603362a", sum := "d9aef18a826493295dd8b79ca3f300d2e2c1ffd4761bf0262ce5daa2d65d6991", func := "example.com/commutant/commutant/zzlaws_internal_check_b1.FnPoolRunMovesByOneAtMost", spec := "fnPoolRunMovesByOneAtMost", apart := false }
def FnPoolRunMovesByOneAtMostSaid : Prop := fnPoolRunMovesByOneAtMostRow.holds Try.pinned (OpenSpec.ofChange fnPoolRunMovesByOneAtMostSpec)

/-- ITS FALSE NEIGHBOUR: 'it returns false'. Refute it at one input. -/
def fnPoolRunMovesByOneAtMostWrong : ChangeSpec := { name := "fnPoolRunMovesByOneAtMost", fn := fun _ => fun
  | [d1, d2, d3] => { results := [.lit (.bool false)], args := [d1, d2, d3] }
  | _ => none }
def FnPoolRunMovesByOneAtMostWrongFalsely : Prop := fnPoolRunMovesByOneAtMostRow.holds Try.pinned (OpenSpec.ofChange fnPoolRunMovesByOneAtMostWrong)

/-- 'zzlaws_internal_check_b1.FnPoolRunItemBlindAndUnknownParts': WHATEVER THE INPUT: true; the input reads as it did. -/
def fnPoolRunItemBlindAndUnknownPartsSpec : ChangeSpec := { name := "fnPoolRunItemBlindAndUnknownParts", fn := fun _ => fun
  | [d1, d2, d3, d4] => { results := [.lit (.bool true)], args := [d1, d2, d3, d4] }
  | _ => none }
def fnPoolRunItemBlindAndUnknownPartsRow : OpenClaim := { program := "qxb6603362a", sum := "d9aef18a826493295dd8b79ca3f300d2e2c1ffd4761bf0262ce5daa2d65d6991", func := "example.com/commutant/commutant/zzlaws_internal_check_b1.FnPoolRunItemBlindAndUnknownParts", spec := "fnPoolRunItemBlindAndUnknownParts", apart := false }
def FnPoolRunItemBlindAndUnknownPartsSaid : Prop := fnPoolRunItemBlindAndUnknownPartsRow.holds Try.pinned (OpenSpec.ofChange fnPoolRunItemBlindAndUnknownPartsSpec)

/-- ITS FALSE NEIGHBOUR: 'it returns false'. Refute it at one input. -/
def fnPoolRunItemBlindAndUnknownPartsWrong : ChangeSpec := { name := "fnPoolRunItemBlindAndUnknownParts", fn := fun _ => fun
  | [d1, d2, d3, d4] => { results := [.lit (.bool false)], args := [d1, d2, d3, d4] }
  | _ => none }
def FnPoolRunItemBlindAndUnknownPartsWrongFalsely : Prop := fnPoolRunItemBlindAndUnknownPartsRow.holds Try.pinned (OpenSpec.ofChange fnPoolRunItemBlindAndUnknownPartsWrong)

/-- 'zzlaws_internal_check_b1.FnFingerprintsAddAgainstSet': WHATEVER THE INPUT: true; the input reads as it did. -/
def fnFingerprintsAddAgainstSetSpec : ChangeSpec := { name := "fnFingerprintsAddAgainstSet", fn := fun _ => fun
  | [d1, d2, d3, d4] => { results := [.lit (.bool true)], args := [d1, d2, d3, d4] }
  | _ => none }
def fnFingerprintsAddAgainstSetRow : OpenClaim := { program := "qxb6603362a", sum := "d9aef18a826493295dd8b79ca3f300d2e2c1ffd4761bf0262ce5daa2d65d6991", func := "example.com/commutant/commutant/zzlaws_internal_check_b1.FnFingerprintsAddAgainstSet", spec := "fnFingerprintsAddAgainstSet", recurses := true, apart := false }
def FnFingerprintsAddAgainstSetSaid : Prop := fnFingerprintsAddAgainstSetRow.holds Try.pinned (OpenSpec.ofChange fnFingerprintsAddAgainstSetSpec)

/-- ITS FALSE NEIGHBOUR: 'it returns false'. Refute it at one input. -/
def fnFingerprintsAddAgainstSetWrong : ChangeSpec := { name := "fnFingerprintsAddAgainstSet", fn := fun _ => fun
  | [d1, d2, d3, d4] => { results := [.lit (.bool false)], args := [d1, d2, d3, d4] }
  | _ => none }
def FnFingerprintsAddAgainstSetWrongFalsely : Prop := fnFingerprintsAddAgainstSetRow.holds Try.pinned (OpenSpec.ofChange fnFingerprintsAddAgainstSetWrong)

/-- 'zzlaws_internal_check_b1.FnFingerprintsAddScriptStaysSound': WHATEVER THE INPUT: true; the input reads as it did. -/
def fnFingerprintsAddScriptStaysSoundSpec : ChangeSpec := { name := "fnFingerprintsAddScriptStaysSound", fn := fun _ => fun
  | [d1, d2, d3] => { results := [.lit (.bool true)], args := [d1, d2, d3] }
  | _ => none }
def fnFingerprintsAddScriptStaysSoundRow : OpenClaim := { program := "qxb6603362a", sum := "d9aef18a826493295dd8b79ca3f300d2e2c1ffd4761bf0262ce5daa2d65d6991", func := "example.com/commutant/commutant/zzlaws_internal_check_b1.FnFingerprintsAddScriptStaysSound", spec := "fnFingerprintsAddScriptStaysSound", recurses := true, apart := false }
def FnFingerprintsAddScriptStaysSoundSaid : Prop := fnFingerprintsAddScriptStaysSoundRow.holds Try.pinned (OpenSpec.ofChange fnFingerprintsAddScriptStaysSoundSpec)

/-- ITS FALSE NEIGHBOUR: 'it returns false'. Refute it at one input. -/
def fnFingerprintsAddScriptStaysSoundWrong : ChangeSpec := { name := "fnFingerprintsAddScriptStaysSound", fn := fun _ => fun
  | [d1, d2, d3] => { results := [.lit (.bool false)], args := [d1, d2, d3] }
  | _ => none }
def FnFingerprintsAddScriptStaysSoundWrongFalsely : Prop := fnFingerprintsAddScriptStaysSoundRow.holds Try.pinned (OpenSpec.ofChange fnFingerprintsAddScriptStaysSoundWrong)

end Rows
end Go.Proofs.Qxb6603362a
