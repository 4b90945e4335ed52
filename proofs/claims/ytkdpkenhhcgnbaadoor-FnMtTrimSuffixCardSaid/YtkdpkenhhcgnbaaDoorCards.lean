/-
  DERIVED. GIVEN WITH THE SEED: THE CARDS: each row of YtkdpkenhhcgnbaaDoorRows.lean that lists a variable, with what it lists TIED to the program's text (the seventh form; the later family's looks); each row that meets fmt, with fmt's text TOLD by the authors' own Lean function (tested against real Go, not proved from fmt's source: count such statements apart). THE CARD IS WHAT COUNTS. Prove the row's statement (the work); the ties are given (YtkdpkenhhcgnbaaDoorTie.lean); close each card by the builder's one call (the guide's Derived/Test/ToyasCard.lean, 'card_holds'). Laid BY PROGRAM, IN A SANDBOX (cutbox-door.mjs). By AI agents, Wed Nov 11 2026. No macro, syntax, notation, axiom, sorry.
-/
import Derived.Test.YtkdpkenhhcgnbaaDoorRows
import GoSem.ClaimSeven
namespace Go.Proofs.YtkdpkenhhcgnbaaDoor
namespace Rows

/-- THE TIED CARD OF 'laws.FnJpStringPlace'. -/
def fnJpStringPlaceCard : Claim7 := { stood := { row := fnJpStringPlaceRow, standIns := [], harness := (true, "2c2b52f6ddf53e10c8edb2bf00b662780d847b1fee5db619c723278fb6507097"), looks := true }, kinds := [], alts := [], laidByText := true, laidKinds := [.data], laidTests := true, laidLooks := .later }
def FnJpStringPlaceCardSaid : Prop := Claim7.holds Tryd.pinned (.plain (OpenSpec.ofChange fnJpStringPlaceSpec)) fnJpStringPlaceCard

/-- THE TIED CARD OF 'laws.FnMtAllowablePlain'. -/
def fnMtAllowablePlainCard : Claim7 := { stood := { row := fnMtAllowablePlainRow, standIns := [], harness := (true, "2c2b52f6ddf53e10c8edb2bf00b662780d847b1fee5db619c723278fb6507097"), looks := true }, kinds := [], alts := [], laidByText := true, laidKinds := [.data, .widerDeep, .pinned], laidTests := true, laidLooks := .later }
def FnMtAllowablePlainCardSaid : Prop := Claim7.holds Tryd.pinned (.plain (OpenSpec.ofChange fnMtAllowablePlainSpec)) fnMtAllowablePlainCard

/-- THE TIED CARD OF 'laws.FnMtTrimSuffix'. -/
def fnMtTrimSuffixCard : Claim7 := { stood := { row := fnMtTrimSuffixRow, standIns := [], harness := (true, "2c2b52f6ddf53e10c8edb2bf00b662780d847b1fee5db619c723278fb6507097"), looks := true }, kinds := [], alts := [], laidByText := true, laidKinds := [.data, .pinned], laidTests := true, laidLooks := .later }
def FnMtTrimSuffixCardSaid : Prop := Claim7.holds Tryd.pinned (.plain (OpenSpec.ofChange fnMtTrimSuffixSpec)) fnMtTrimSuffixCard

/-- THE TIED CARD OF 'laws.FnFfInt64Best'. -/
def fnFfInt64BestCard : Claim7 := { stood := { row := fnFfInt64BestRow, standIns := [], harness := (true, "2c2b52f6ddf53e10c8edb2bf00b662780d847b1fee5db619c723278fb6507097"), looks := true }, kinds := [], alts := [], laidByText := true, laidKinds := [.data, .data, .data, .sentinel, .sentinel], laidTests := true, laidLooks := .later }
def FnFfInt64BestCardSaid : Prop := Claim7.holds Tryd.pinned (.plain (OpenSpec.ofChange fnFfInt64BestSpec)) fnFfInt64BestCard

/-- THE TIED CARD OF 'laws.FnSjBuildDeep'. -/
def fnSjBuildDeepCard : Claim7 := { stood := { row := fnSjBuildDeepRow, standIns := [], harness := (true, "2c2b52f6ddf53e10c8edb2bf00b662780d847b1fee5db619c723278fb6507097"), looks := true }, kinds := [], alts := [], laidByText := true, laidKinds := [.data, .pinned], laidTests := true, laidLooks := .later }
def FnSjBuildDeepCardSaid : Prop := Claim7.holds Tryd.pinned (.plain (OpenSpec.ofChange fnSjBuildDeepSpec)) fnSjBuildDeepCard

/-- THE SECOND FORM's CARD OF 'laws.FnJpStringPlace'. -/
def fnJpStringPlaceUptoCard : Claim7 := { stood := { row := fnJpStringPlaceUptoRow, standIns := [], harness := (true, "2c2b52f6ddf53e10c8edb2bf00b662780d847b1fee5db619c723278fb6507097"), looks := true }, kinds := [], alts := [], laidByText := true, laidKinds := [.data], laidTests := true, laidLooks := .later }
def FnJpStringPlaceUptoCardSaid : Prop := Claim7.holds Tryd.pinned (.plain (OpenSpec.upto fnJpStringPlaceSpec)) fnJpStringPlaceUptoCard

/-- THE SECOND FORM's CARD OF 'laws.FnMtAllowablePlain'. -/
def fnMtAllowablePlainUptoCard : Claim7 := { stood := { row := fnMtAllowablePlainUptoRow, standIns := [], harness := (true, "2c2b52f6ddf53e10c8edb2bf00b662780d847b1fee5db619c723278fb6507097"), looks := true }, kinds := [], alts := [], laidByText := true, laidKinds := [.data, .widerDeep, .pinned], laidTests := true, laidLooks := .later }
def FnMtAllowablePlainUptoCardSaid : Prop := Claim7.holds Tryd.pinned (.plain (OpenSpec.upto fnMtAllowablePlainSpec)) fnMtAllowablePlainUptoCard

/-- THE SECOND FORM's CARD OF 'laws.FnMtTrimSuffix'. -/
def fnMtTrimSuffixUptoCard : Claim7 := { stood := { row := fnMtTrimSuffixUptoRow, standIns := [], harness := (true, "2c2b52f6ddf53e10c8edb2bf00b662780d847b1fee5db619c723278fb6507097"), looks := true }, kinds := [], alts := [], laidByText := true, laidKinds := [.data, .pinned], laidTests := true, laidLooks := .later }
def FnMtTrimSuffixUptoCardSaid : Prop := Claim7.holds Tryd.pinned (.plain (OpenSpec.upto fnMtTrimSuffixSpec)) fnMtTrimSuffixUptoCard

/-- THE SECOND FORM's CARD OF 'laws.FnFfInt64Best'. -/
def fnFfInt64BestUptoCard : Claim7 := { stood := { row := fnFfInt64BestUptoRow, standIns := [], harness := (true, "2c2b52f6ddf53e10c8edb2bf00b662780d847b1fee5db619c723278fb6507097"), looks := true }, kinds := [], alts := [], laidByText := true, laidKinds := [.data, .data, .data, .sentinel, .sentinel], laidTests := true, laidLooks := .later }
def FnFfInt64BestUptoCardSaid : Prop := Claim7.holds Tryd.pinned (.plain (OpenSpec.upto fnFfInt64BestSpec)) fnFfInt64BestUptoCard

/-- THE SECOND FORM's CARD OF 'laws.FnSjBuildDeep'. -/
def fnSjBuildDeepUptoCard : Claim7 := { stood := { row := fnSjBuildDeepUptoRow, standIns := [], harness := (true, "2c2b52f6ddf53e10c8edb2bf00b662780d847b1fee5db619c723278fb6507097"), looks := true }, kinds := [], alts := [], laidByText := true, laidKinds := [.data, .pinned], laidTests := true, laidLooks := .later }
def FnSjBuildDeepUptoCardSaid : Prop := Claim7.holds Tryd.pinned (.plain (OpenSpec.upto fnSjBuildDeepSpec)) fnSjBuildDeepUptoCard
end Rows
end Go.Proofs.YtkdpkenhhcgnbaaDoor
