/-
  DERIVED. GIVEN WITH THE SEED: THE CARDS: each row of Qxb6604775aDoorRows.lean that lists a variable, with what it lists TIED to the program's text (the seventh form; the later family's looks); each row that meets fmt, with fmt's text TOLD by the authors' own Lean function (tested against real Go, not proved from fmt's source: count such statements apart). THE CARD IS WHAT COUNTS. Prove the row's statement (the work); the ties are given (Qxb6604775aDoorTie.lean); close each card by the builder's one call (the guide's Derived/Test/ToyasCard.lean, 'card_holds'). Laid BY PROGRAM, IN A SANDBOX (cutbox-door.mjs). By AI agents, Wed Nov 11 2026. No macro, syntax, notation, axiom, sorry.
-/
import Derived.Test.Qxb6604775aDoorRows
import GoSem.ClaimSeven
namespace Go.Proofs.Qxb6604775aDoor
namespace Rows

/-- THE TIED CARD OF 'zzlaws_ndn_b1.FnSignatureTypeStringRoundTrip'. -/
def fnSignatureTypeStringRoundTripCard : Claim7 := { stood := { row := fnSignatureTypeStringRoundTripRow, standIns := [], harness := (true, "aabb19023260ec99db2a2215ae01c40e01d74b30a5bb84a3f6adc3db7da73d9a"), looks := true }, kinds := [], alts := [], laidByText := true, laidKinds := [.data, .data, .data], laidTests := true, laidLooks := .later }
def FnSignatureTypeStringRoundTripCardSaid : Prop := Claim7.holds Tryd.pinned (.plain (OpenSpec.ofChange fnSignatureTypeStringRoundTripSpec)) fnSignatureTypeStringRoundTripCard

/-- THE TIED CARD OF 'zzlaws_ndn_b1.FnSignatureTypeStringInjective'. -/
def fnSignatureTypeStringInjectiveCard : Claim7 := { stood := { row := fnSignatureTypeStringInjectiveRow, standIns := [], harness := (true, "aabb19023260ec99db2a2215ae01c40e01d74b30a5bb84a3f6adc3db7da73d9a"), looks := true }, kinds := [], alts := [], laidByText := true, laidKinds := [.data, .data, .data], laidTests := true, laidLooks := .later }
def FnSignatureTypeStringInjectiveCardSaid : Prop := Claim7.holds Tryd.pinned (.plain (OpenSpec.ofChange fnSignatureTypeStringInjectiveSpec)) fnSignatureTypeStringInjectiveCard

/-- THE TIED CARD OF 'zzlaws_ndn_b1.FnShiftOffsetMovesFormatError'. -/
def fnShiftOffsetMovesFormatErrorCard : Claim7 := { stood := { row := fnShiftOffsetMovesFormatErrorRow, standIns := [], harness := (true, "aabb19023260ec99db2a2215ae01c40e01d74b30a5bb84a3f6adc3db7da73d9a"), looks := true }, kinds := [], alts := [], laidByText := true, laidKinds := [.handle], laidTests := true, laidLooks := .later }
def FnShiftOffsetMovesFormatErrorCardSaid : Prop := Claim7.holds Tryd.pinned (.plain (OpenSpec.ofChange fnShiftOffsetMovesFormatErrorSpec)) fnShiftOffsetMovesFormatErrorCard
end Rows
end Go.Proofs.Qxb6604775aDoor
