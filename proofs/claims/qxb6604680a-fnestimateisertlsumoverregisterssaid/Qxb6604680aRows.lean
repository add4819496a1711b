/-
  No cell of these rows narrows 'for every input' (looked for: loops, veiled, ifaces, maps, wideKeys, modest, calm, conditions, laid).
  DERIVED. THE GIVEN ROWS OF THIS SEAT. 4 by the template 'for every input the law returns true; each argument reads behind the call as it read before'; 0 by the template 'total and deterministic' (their statements: Qxb6604680aTotals.lean).
  GIVEN WITH THE SEED: the statements are not yours to turn. If you find one false, say at which input.
  Laid BY PROGRAM, IN A SANDBOX (cutbox-rows.mjs): the forced cells as the released guide's own fill.sh prints them over the translation 78e3aae00d3f34e0… (all of the seat's roots in one cut). By AI agents, Wed Nov 11 2026. No macro, syntax, notation, axiom, sorry.
-/
import Derived.Test.Qxb6604680aChecked
import GoSem.Claim
import GoSem.ClaimJoined
import GoSem.ClaimMapViews
import Derived.JoinedTies
import Derived.KernelRfl
namespace Go.Proofs.Qxb6604680a
/- THE CELL 'sum', in the pinned program and in every row, IS THE sha256 OF THE DUMP (.gsa) THAT Qxb6604680aProg.lean LOADS. Nothing in Lean hashes anything: it is a label: what it is worth is what the hold of that sum in a sandbox is worth. -/
noncomputable def Try.pinned : Pinned := { name := "qxb6604680a", sum := "78e3aae00d3f34e0e7398c8829f90bc2170901eb8133b59ec3155c42906fa60e", checked := Try.checked }
namespace Rows
def none {H : Type} : Left H := { results := [], args := [] }

/-- 'zzlaws_internal_hll_b1.FnKeepRegistersRankOfLeastHash': WHATEVER THE INPUT: true; the input reads as it did. -/
def fnKeepRegistersRankOfLeastHashSpec : ChangeSpec := { name := "fnKeepRegistersRankOfLeastHash", fn := fun _ => fun
  | [d] => { results := [.lit (.bool true)], args := [d] }
  | _ => none }
def fnKeepRegistersRankOfLeastHashRow : OpenClaim := { program := "qxb6604680a", sum := "78e3aae00d3f34e0e7398c8829f90bc2170901eb8133b59ec3155c42906fa60e", func := "example.com/etiqueta/etiqueta/zzlaws_internal_hll_b1.FnKeepRegistersRankOfLeastHash", spec := "fnKeepRegistersRankOfLeastHash", apart := false }
def FnKeepRegistersRankOfLeastHashSaid : Prop := fnKeepRegistersRankOfLeastHashRow.holds Try.pinned (OpenSpec.ofChange fnKeepRegistersRankOfLeastHashSpec)

/-- ITS FALSE NEIGHBOUR: 'it returns false'. Refute it at one input. -/
def fnKeepRegistersRankOfLeastHashWrong : ChangeSpec := { name := "fnKeepRegistersRankOfLeastHash", fn := fun _ => fun
  | [d] => { results := [.lit (.bool false)], args := [d] }
  | _ => none }
def FnKeepRegistersRankOfLeastHashWrongFalsely : Prop := fnKeepRegistersRankOfLeastHashRow.holds Try.pinned (OpenSpec.ofChange fnKeepRegistersRankOfLeastHashWrong)

/-- 'zzlaws_internal_hll_b1.FnKeepRegistersOfUnionIsRegisterwiseMax': WHATEVER THE INPUT: true; the input reads as it did. -/
def fnKeepRegistersOfUnionIsRegisterwiseMaxSpec : ChangeSpec := { name := "fnKeepRegistersOfUnionIsRegisterwiseMax", fn := fun _ => fun
  | [d1, d2] => { results := [.lit (.bool true)], args := [d1, d2] }
  | _ => none }
def fnKeepRegistersOfUnionIsRegisterwiseMaxRow : OpenClaim := { program := "qxb6604680a", sum := "78e3aae00d3f34e0e7398c8829f90bc2170901eb8133b59ec3155c42906fa60e", func := "example.com/etiqueta/etiqueta/zzlaws_internal_hll_b1.FnKeepRegistersOfUnionIsRegisterwiseMax", spec := "fnKeepRegistersOfUnionIsRegisterwiseMax", apart := false }
def FnKeepRegistersOfUnionIsRegisterwiseMaxSaid : Prop := fnKeepRegistersOfUnionIsRegisterwiseMaxRow.holds Try.pinned (OpenSpec.ofChange fnKeepRegistersOfUnionIsRegisterwiseMaxSpec)

/-- ITS FALSE NEIGHBOUR: 'it returns false'. Refute it at one input. -/
def fnKeepRegistersOfUnionIsRegisterwiseMaxWrong : ChangeSpec := { name := "fnKeepRegistersOfUnionIsRegisterwiseMax", fn := fun _ => fun
  | [d1, d2] => { results := [.lit (.bool false)], args := [d1, d2] }
  | _ => none }
def FnKeepRegistersOfUnionIsRegisterwiseMaxWrongFalsely : Prop := fnKeepRegistersOfUnionIsRegisterwiseMaxRow.holds Try.pinned (OpenSpec.ofChange fnKeepRegistersOfUnionIsRegisterwiseMaxWrong)

/-- 'zzlaws_internal_hll_b1.FnEstimateIsErtlSumOverRegisters': WHATEVER THE INPUT: true; the input reads as it did. -/
def fnEstimateIsErtlSumOverRegistersSpec : ChangeSpec := { name := "fnEstimateIsErtlSumOverRegisters", fn := fun _ => fun
  | [d] => { results := [.lit (.bool true)], args := [d] }
  | _ => none }
def fnEstimateIsErtlSumOverRegistersRow : OpenClaim := { program := "qxb6604680a", sum := "78e3aae00d3f34e0e7398c8829f90bc2170901eb8133b59ec3155c42906fa60e", func := "example.com/etiqueta/etiqueta/zzlaws_internal_hll_b1.FnEstimateIsErtlSumOverRegisters", spec := "fnEstimateIsErtlSumOverRegisters", inPlace := ["math.sqrt", "math.Float64frombits"], apart := false }
def FnEstimateIsErtlSumOverRegistersSaid : Prop := fnEstimateIsErtlSumOverRegistersRow.holds Try.pinned (OpenSpec.ofChange fnEstimateIsErtlSumOverRegistersSpec)

/-- ITS FALSE NEIGHBOUR: 'it returns false'. Refute it at one input. -/
def fnEstimateIsErtlSumOverRegistersWrong : ChangeSpec := { name := "fnEstimateIsErtlSumOverRegisters", fn := fun _ => fun
  | [d] => { results := [.lit (.bool false)], args := [d] }
  | _ => none }
def FnEstimateIsErtlSumOverRegistersWrongFalsely : Prop := fnEstimateIsErtlSumOverRegistersRow.holds Try.pinned (OpenSpec.ofChange fnEstimateIsErtlSumOverRegistersWrong)

/-- 'zzlaws_internal_hll_b1.FnEstimateOrderFreeAndZeroOnlyWhenEmpty': WHATEVER THE INPUT: true; the input reads as it did. -/
def fnEstimateOrderFreeAndZeroOnlyWhenEmptySpec : ChangeSpec := { name := "fnEstimateOrderFreeAndZeroOnlyWhenEmpty", fn := fun _ => fun
  | [d] => { results := [.lit (.bool true)], args := [d] }
  | _ => none }
def fnEstimateOrderFreeAndZeroOnlyWhenEmptyRow : OpenClaim := { program := "qxb6604680a", sum := "78e3aae00d3f34e0e7398c8829f90bc2170901eb8133b59ec3155c42906fa60e", func := "example.com/etiqueta/etiqueta/zzlaws_internal_hll_b1.FnEstimateOrderFreeAndZeroOnlyWhenEmpty", spec := "fnEstimateOrderFreeAndZeroOnlyWhenEmpty", inPlace := ["math.sqrt", "math.Float64frombits"], apart := false }
def FnEstimateOrderFreeAndZeroOnlyWhenEmptySaid : Prop := fnEstimateOrderFreeAndZeroOnlyWhenEmptyRow.holds Try.pinned (OpenSpec.ofChange fnEstimateOrderFreeAndZeroOnlyWhenEmptySpec)

/-- ITS FALSE NEIGHBOUR: 'it returns false'. Refute it at one input. -/
def fnEstimateOrderFreeAndZeroOnlyWhenEmptyWrong : ChangeSpec := { name := "fnEstimateOrderFreeAndZeroOnlyWhenEmpty", fn := fun _ => fun
  | [d] => { results := [.lit (.bool false)], args := [d] }
  | _ => none }
def FnEstimateOrderFreeAndZeroOnlyWhenEmptyWrongFalsely : Prop := fnEstimateOrderFreeAndZeroOnlyWhenEmptyRow.holds Try.pinned (OpenSpec.ofChange fnEstimateOrderFreeAndZeroOnlyWhenEmptyWrong)

end Rows
end Go.Proofs.Qxb6604680a
