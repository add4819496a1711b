/-
  No cell of these rows narrows 'for every input' (looked for: loops, veiled, ifaces, maps, wideKeys, modest, calm, conditions, laid).
  DERIVED. THE GIVEN ROWS OF THIS SEAT. 7 by the template 'for every input the law returns true; each argument reads behind the call as it read before'; 0 by the template 'total and deterministic' (their statements: Qxb6003361aTotals.lean).
  GIVEN WITH THE SEED: the statements are not yours to turn. If you find one false, say at which input.
  Laid BY PROGRAM, IN A SANDBOX (cutbox-rows.mjs): the forced cells as the released guide's own fill.sh prints them over the translation d2ef1ec46a8d592d… (all of the seat's roots in one cut). By AI agents, Wed Nov 11 2026. No macro, syntax, notation, axiom, sorry.
-/
import Derived.Test.Qxb6003361aChecked
import GoSem.Claim
import GoSem.ClaimJoined
import GoSem.ClaimMapViews
import Derived.JoinedTies
import Derived.KernelRfl
namespace Go.Proofs.Qxb6003361a
/- THE CELL 'sum', in the pinned program and in every row, IS THE sha256 OF THE DUMP (.gsa) THAT Qxb6003361aProg.lean LOADS. Nothing in Lean hashes anything: it is a label: what it is worth is what the hold of that sum in a sandbox is worth. -/
noncomputable def Try.pinned : Pinned := { name := "qxb6003361a", sum := "d2ef1ec46a8d592d23165964c6fa839937cfc2c21a23faa4d7d2ed40cba04c32", checked := Try.checked }
namespace Rows
def none {H : Type} : Left H := { results := [], args := [] }

/-- 'zzlaws_config_g1.FnLexNumberMaximalMunch': WHATEVER THE INPUT: true; the input reads as it did. -/
def fnLexNumberMaximalMunchSpec : ChangeSpec := { name := "fnLexNumberMaximalMunch", fn := fun _ => fun
  | [d1, d2] => { results := [.lit (.bool true)], args := [d1, d2] }
  | _ => none }
def fnLexNumberMaximalMunchRow : OpenClaim := { program := "qxb6003361a", sum := "d2ef1ec46a8d592d23165964c6fa839937cfc2c21a23faa4d7d2ed40cba04c32", func := "example.com/keystile/keystile/zzlaws_config_g1.FnLexNumberMaximalMunch", spec := "fnLexNumberMaximalMunch", apart := false }
def FnLexNumberMaximalMunchSaid : Prop := fnLexNumberMaximalMunchRow.holds Try.pinned (OpenSpec.ofChange fnLexNumberMaximalMunchSpec)

/-- ITS FALSE NEIGHBOUR: 'it returns false'. Refute it at one input. -/
def fnLexNumberMaximalMunchWrong : ChangeSpec := { name := "fnLexNumberMaximalMunch", fn := fun _ => fun
  | [d1, d2] => { results := [.lit (.bool false)], args := [d1, d2] }
  | _ => none }
def FnLexNumberMaximalMunchWrongFalsely : Prop := fnLexNumberMaximalMunchRow.holds Try.pinned (OpenSpec.ofChange fnLexNumberMaximalMunchWrong)

/-- 'zzlaws_config_g2.FnLiteralReadsOneLiteral': WHATEVER THE INPUT: true; the input reads as it did. -/
def fnLiteralReadsOneLiteralSpec : ChangeSpec := { name := "fnLiteralReadsOneLiteral", fn := fun _ => fun
  | [d1, d2, d3, d4, d5, d6, d7, d8, d9] => { results := [.lit (.bool true)], args := [d1, d2, d3, d4, d5, d6, d7, d8, d9] }
  | _ => none }
def fnLiteralReadsOneLiteralRow : OpenClaim := { program := "qxb6003361a", sum := "d2ef1ec46a8d592d23165964c6fa839937cfc2c21a23faa4d7d2ed40cba04c32", func := "example.com/keystile/keystile/zzlaws_config_g2.FnLiteralReadsOneLiteral", spec := "fnLiteralReadsOneLiteral", apart := false }
def FnLiteralReadsOneLiteralSaid : Prop := fnLiteralReadsOneLiteralRow.holds Try.pinned (OpenSpec.ofChange fnLiteralReadsOneLiteralSpec)

/-- ITS FALSE NEIGHBOUR: 'it returns false'. Refute it at one input. -/
def fnLiteralReadsOneLiteralWrong : ChangeSpec := { name := "fnLiteralReadsOneLiteral", fn := fun _ => fun
  | [d1, d2, d3, d4, d5, d6, d7, d8, d9] => { results := [.lit (.bool false)], args := [d1, d2, d3, d4, d5, d6, d7, d8, d9] }
  | _ => none }
def FnLiteralReadsOneLiteralWrongFalsely : Prop := fnLiteralReadsOneLiteralRow.holds Try.pinned (OpenSpec.ofChange fnLiteralReadsOneLiteralWrong)

/-- 'zzlaws_config_g2.FnAppendMemberRoundTrip': WHATEVER THE INPUT: true; the input reads as it did. -/
def fnAppendMemberRoundTripSpec : ChangeSpec := { name := "fnAppendMemberRoundTrip", fn := fun _ => fun
  | [d1, d2] => { results := [.lit (.bool true)], args := [d1, d2] }
  | _ => none }
def fnAppendMemberRoundTripRow : OpenClaim := { program := "qxb6003361a", sum := "d2ef1ec46a8d592d23165964c6fa839937cfc2c21a23faa4d7d2ed40cba04c32", func := "example.com/keystile/keystile/zzlaws_config_g2.FnAppendMemberRoundTrip", spec := "fnAppendMemberRoundTrip", apart := false }
def FnAppendMemberRoundTripSaid : Prop := fnAppendMemberRoundTripRow.holds Try.pinned (OpenSpec.ofChange fnAppendMemberRoundTripSpec)

/-- ITS FALSE NEIGHBOUR: 'it returns false'. Refute it at one input. -/
def fnAppendMemberRoundTripWrong : ChangeSpec := { name := "fnAppendMemberRoundTrip", fn := fun _ => fun
  | [d1, d2] => { results := [.lit (.bool false)], args := [d1, d2] }
  | _ => none }
def FnAppendMemberRoundTripWrongFalsely : Prop := fnAppendMemberRoundTripRow.holds Try.pinned (OpenSpec.ofChange fnAppendMemberRoundTripWrong)

/-- 'zzlaws_config_g2.FnHeaderFaultMatchesFieldRoundTrip': WHATEVER THE INPUT: true; the input reads as it did. -/
def fnHeaderFaultMatchesFieldRoundTripSpec : ChangeSpec := { name := "fnHeaderFaultMatchesFieldRoundTrip", fn := fun _ => fun
  | [d] => { results := [.lit (.bool true)], args := [d] }
  | _ => none }
def fnHeaderFaultMatchesFieldRoundTripRow : OpenClaim := { program := "qxb6003361a", sum := "d2ef1ec46a8d592d23165964c6fa839937cfc2c21a23faa4d7d2ed40cba04c32", func := "example.com/keystile/keystile/zzlaws_config_g2.FnHeaderFaultMatchesFieldRoundTrip", spec := "fnHeaderFaultMatchesFieldRoundTrip", apart := false }
def FnHeaderFaultMatchesFieldRoundTripSaid : Prop := fnHeaderFaultMatchesFieldRoundTripRow.holds Try.pinned (OpenSpec.ofChange fnHeaderFaultMatchesFieldRoundTripSpec)

/-- ITS FALSE NEIGHBOUR: 'it returns false'. Refute it at one input. -/
def fnHeaderFaultMatchesFieldRoundTripWrong : ChangeSpec := { name := "fnHeaderFaultMatchesFieldRoundTrip", fn := fun _ => fun
  | [d] => { results := [.lit (.bool false)], args := [d] }
  | _ => none }
def FnHeaderFaultMatchesFieldRoundTripWrongFalsely : Prop := fnHeaderFaultMatchesFieldRoundTripRow.holds Try.pinned (OpenSpec.ofChange fnHeaderFaultMatchesFieldRoundTripWrong)

/-- 'zzlaws_config_g2.FnLookalikeIsEquivalence': WHATEVER THE INPUT: true; the input reads as it did. -/
def fnLookalikeIsEquivalenceSpec : ChangeSpec := { name := "fnLookalikeIsEquivalence", fn := fun _ => fun
  | [d1, d2, d3] => { results := [.lit (.bool true)], args := [d1, d2, d3] }
  | _ => none }
def fnLookalikeIsEquivalenceRow : OpenClaim := { program := "qxb6003361a", sum := "d2ef1ec46a8d592d23165964c6fa839937cfc2c21a23faa4d7d2ed40cba04c32", func := "example.com/keystile/keystile/zzlaws_config_g2.FnLookalikeIsEquivalence", spec := "fnLookalikeIsEquivalence", apart := false }
def FnLookalikeIsEquivalenceSaid : Prop := fnLookalikeIsEquivalenceRow.holds Try.pinned (OpenSpec.ofChange fnLookalikeIsEquivalenceSpec)

/-- ITS FALSE NEIGHBOUR: 'it returns false'. Refute it at one input. -/
def fnLookalikeIsEquivalenceWrong : ChangeSpec := { name := "fnLookalikeIsEquivalence", fn := fun _ => fun
  | [d1, d2, d3] => { results := [.lit (.bool false)], args := [d1, d2, d3] }
  | _ => none }
def FnLookalikeIsEquivalenceWrongFalsely : Prop := fnLookalikeIsEquivalenceRow.holds Try.pinned (OpenSpec.ofChange fnLookalikeIsEquivalenceWrong)

/-- 'zzlaws_config_g2.FnLookalikeAcceptsSpellings': WHATEVER THE INPUT: true; the input reads as it did. -/
def fnLookalikeAcceptsSpellingsSpec : ChangeSpec := { name := "fnLookalikeAcceptsSpellings", fn := fun _ => fun
  | [d1, d2, d3, d4] => { results := [.lit (.bool true)], args := [d1, d2, d3, d4] }
  | _ => none }
def fnLookalikeAcceptsSpellingsRow : OpenClaim := { program := "qxb6003361a", sum := "d2ef1ec46a8d592d23165964c6fa839937cfc2c21a23faa4d7d2ed40cba04c32", func := "example.com/keystile/keystile/zzlaws_config_g2.FnLookalikeAcceptsSpellings", spec := "fnLookalikeAcceptsSpellings", apart := false }
def FnLookalikeAcceptsSpellingsSaid : Prop := fnLookalikeAcceptsSpellingsRow.holds Try.pinned (OpenSpec.ofChange fnLookalikeAcceptsSpellingsSpec)

/-- ITS FALSE NEIGHBOUR: 'it returns false'. Refute it at one input. -/
def fnLookalikeAcceptsSpellingsWrong : ChangeSpec := { name := "fnLookalikeAcceptsSpellings", fn := fun _ => fun
  | [d1, d2, d3, d4] => { results := [.lit (.bool false)], args := [d1, d2, d3, d4] }
  | _ => none }
def FnLookalikeAcceptsSpellingsWrongFalsely : Prop := fnLookalikeAcceptsSpellingsRow.holds Try.pinned (OpenSpec.ofChange fnLookalikeAcceptsSpellingsWrong)

/-- 'zzlaws_config_g2.FnRoleSetsIndexByContent': WHATEVER THE INPUT: true; the input reads as it did. -/
def fnRoleSetsIndexByContentSpec : ChangeSpec := { name := "fnRoleSetsIndexByContent", fn := fun _ => fun
  | [d] => { results := [.lit (.bool true)], args := [d] }
  | _ => none }
def fnRoleSetsIndexByContentRow : OpenClaim := { program := "qxb6003361a", sum := "d2ef1ec46a8d592d23165964c6fa839937cfc2c21a23faa4d7d2ed40cba04c32", func := "example.com/keystile/keystile/zzlaws_config_g2.FnRoleSetsIndexByContent", spec := "fnRoleSetsIndexByContent", apart := false }
def FnRoleSetsIndexByContentSaid : Prop := fnRoleSetsIndexByContentRow.holds Try.pinned (OpenSpec.ofChange fnRoleSetsIndexByContentSpec)

/-- ITS FALSE NEIGHBOUR: 'it returns false'. Refute it at one input. -/
def fnRoleSetsIndexByContentWrong : ChangeSpec := { name := "fnRoleSetsIndexByContent", fn := fun _ => fun
  | [d] => { results := [.lit (.bool false)], args := [d] }
  | _ => none }
def FnRoleSetsIndexByContentWrongFalsely : Prop := fnRoleSetsIndexByContentRow.holds Try.pinned (OpenSpec.ofChange fnRoleSetsIndexByContentWrong)

end Rows
end Go.Proofs.Qxb6003361a
