/-
  DERIVED. GIVEN WITH THE SEED: THE CARDS: each row of Qxb6000604aDoorRows.lean that lists a variable, with what it lists TIED to the program's text (the seventh form; the later family's looks); each row that meets fmt, with fmt's text TOLD by the authors' own Lean function (tested against real Go, not proved from fmt's source: count such statements apart). THE CARD IS WHAT COUNTS. Prove the row's statement (the work); the ties are given (Qxb6000604aDoorTie.lean); close each card by the builder's one call (the guide's Derived/Test/ToyasCard.lean, 'card_holds'). Laid BY PROGRAM, IN A SANDBOX (cutbox-door.mjs). By AI agents, Wed Nov 11 2026. No macro, syntax, notation, axiom, sorry.
-/
import Derived.Test.Qxb6000604aDoorRows
import GoSem.ClaimSeven
namespace Go.Proofs.Qxb6000604aDoor
namespace Rows

/-- THE TIED CARD OF 'zzlaws_internal_resp_b1.FnUnescapeRoundTrip'. -/
def fnUnescapeRoundTripCard : Claim7 := { stood := { row := fnUnescapeRoundTripRow, standIns := [], harness := (true, "0a0b46c38aa15a629f945d82c6e096579e166d3d7051727a4ef7b4bb8d322f05"), looks := true }, kinds := [], alts := [], laidByText := true, laidKinds := [.data, .data, .data, .sentinel, .sentinel], laidTests := true, laidLooks := .later }
def FnUnescapeRoundTripCardSaid : Prop := Claim7.holds Tryd.pinned (.plain (OpenSpec.ofChange fnUnescapeRoundTripSpec)) fnUnescapeRoundTripCard

/-- THE TIED CARD OF 'zzlaws_internal_resp_b1.FnUnescapeUnknownStandsForItself'. -/
def fnUnescapeUnknownStandsForItselfCard : Claim7 := { stood := { row := fnUnescapeUnknownStandsForItselfRow, standIns := [], harness := (true, "0a0b46c38aa15a629f945d82c6e096579e166d3d7051727a4ef7b4bb8d322f05"), looks := true }, kinds := [], alts := [], laidByText := true, laidKinds := [.data, .data, .data, .sentinel, .sentinel], laidTests := true, laidLooks := .later }
def FnUnescapeUnknownStandsForItselfCardSaid : Prop := Claim7.holds Tryd.pinned (.plain (OpenSpec.ofChange fnUnescapeUnknownStandsForItselfSpec)) fnUnescapeUnknownStandsForItselfCard

/-- THE TIED CARD OF 'zzlaws_internal_resp_b1.FnUnescapeUsesOnlyWhatItCounts'. -/
def fnUnescapeUsesOnlyWhatItCountsCard : Claim7 := { stood := { row := fnUnescapeUsesOnlyWhatItCountsRow, standIns := [], harness := (true, "0a0b46c38aa15a629f945d82c6e096579e166d3d7051727a4ef7b4bb8d322f05"), looks := true }, kinds := [], alts := [], laidByText := true, laidKinds := [.data, .data, .data, .sentinel, .sentinel], laidTests := true, laidLooks := .later }
def FnUnescapeUsesOnlyWhatItCountsCardSaid : Prop := Claim7.holds Tryd.pinned (.plain (OpenSpec.ofChange fnUnescapeUsesOnlyWhatItCountsSpec)) fnUnescapeUsesOnlyWhatItCountsCard

/-- THE TIED CARD OF 'zzlaws_internal_resp_b1.FnParseIntRoundTrip'. -/
def fnParseIntRoundTripCard : Claim7 := { stood := { row := fnParseIntRoundTripRow, standIns := [], harness := (true, "0a0b46c38aa15a629f945d82c6e096579e166d3d7051727a4ef7b4bb8d322f05"), looks := true }, kinds := [], alts := [], laidByText := true, laidKinds := [.data, .data, .data, .sentinel, .sentinel], laidTests := true, laidLooks := .later }
def FnParseIntRoundTripCardSaid : Prop := Claim7.holds Tryd.pinned (.plain (OpenSpec.ofChange fnParseIntRoundTripSpec)) fnParseIntRoundTripCard

/-- THE TIED CARD OF 'zzlaws_internal_resp_b1.FnParseIntMatchesCanonicalModel'. -/
def fnParseIntMatchesCanonicalModelCard : Claim7 := { stood := { row := fnParseIntMatchesCanonicalModelRow, standIns := [], harness := (true, "0a0b46c38aa15a629f945d82c6e096579e166d3d7051727a4ef7b4bb8d322f05"), looks := true }, kinds := [], alts := [], laidByText := true, laidKinds := [.data, .data, .data, .sentinel, .sentinel], laidTests := true, laidLooks := .later }
def FnParseIntMatchesCanonicalModelCardSaid : Prop := Claim7.holds Tryd.pinned (.plain (OpenSpec.ofChange fnParseIntMatchesCanonicalModelSpec)) fnParseIntMatchesCanonicalModelCard

/-- THE TIED CARD OF 'zzlaws_internal_resp_b1.FnParseIntRefusesPaddedForms'. -/
def fnParseIntRefusesPaddedFormsCard : Claim7 := { stood := { row := fnParseIntRefusesPaddedFormsRow, standIns := [], harness := (true, "0a0b46c38aa15a629f945d82c6e096579e166d3d7051727a4ef7b4bb8d322f05"), looks := true }, kinds := [], alts := [], laidByText := true, laidKinds := [.data, .data, .data, .sentinel, .sentinel], laidTests := true, laidLooks := .later }
def FnParseIntRefusesPaddedFormsCardSaid : Prop := Claim7.holds Tryd.pinned (.plain (OpenSpec.ofChange fnParseIntRefusesPaddedFormsSpec)) fnParseIntRefusesPaddedFormsCard
end Rows
end Go.Proofs.Qxb6000604aDoor
