/-
  DERIVED. GIVEN WITH THE SEED: THE CARDS: each row of YtkhgbacbnkgafaaDoorRows.lean that lists a variable, with what it lists TIED to the program's text (the seventh form; the later family's looks); each row that meets fmt, with fmt's text TOLD by the authors' own Lean function (tested against real Go, not proved from fmt's source: count such statements apart). THE CARD IS WHAT COUNTS. Prove the row's statement (the work); the ties are given (YtkhgbacbnkgafaaDoorTie.lean); close each card by the builder's one call (the guide's Derived/Test/ToyasCard.lean, 'card_holds'). Laid BY PROGRAM, IN A SANDBOX (cutbox-door.mjs). By AI agents, Wed Nov 11 2026. No macro, syntax, notation, axiom, sorry.
-/
import Derived.Test.YtkhgbacbnkgafaaDoorRows
import GoSem.ClaimSeven
namespace Go.Proofs.YtkhgbacbnkgafaaDoor
namespace Rows

/-- THE TIED CARD OF 'laws.FnFjRawStringOf'. -/
def fnFjRawStringOfCard : Claim7 := { stood := { row := fnFjRawStringOfRow, standIns := [], harness := (true, "b576a76865b8dc768f0583ac353f206df6627be5389e822a0a53c3fa14f336c2"), looks := true }, kinds := [], alts := [], laidByText := true, laidKinds := [.data, .data, .data, .sentinel, .sentinel], laidTests := true, laidLooks := .later }
def FnFjRawStringOfCardSaid : Prop := Claim7.holds Tryd.pinned (.plain (OpenSpec.ofChange fnFjRawStringOfSpec)) fnFjRawStringOfCard

/-- THE SECOND FORM's CARD OF 'laws.FnFjRawStringOf'. -/
def fnFjRawStringOfUptoCard : Claim7 := { stood := { row := fnFjRawStringOfUptoRow, standIns := [], harness := (true, "b576a76865b8dc768f0583ac353f206df6627be5389e822a0a53c3fa14f336c2"), looks := true }, kinds := [], alts := [], laidByText := true, laidKinds := [.data, .data, .data, .sentinel, .sentinel], laidTests := true, laidLooks := .later }
def FnFjRawStringOfUptoCardSaid : Prop := Claim7.holds Tryd.pinned (.plain (OpenSpec.upto fnFjRawStringOfSpec)) fnFjRawStringOfUptoCard
end Rows
end Go.Proofs.YtkhgbacbnkgafaaDoor
