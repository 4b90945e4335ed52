/-
  DERIVED. GIVEN WITH THE SEED: THE CARDS: each row of YtfmllmlloekojaaDoorRows.lean that lists a variable, with what it lists TIED to the program's text (the seventh form; the later family's looks); each row that meets fmt, with fmt's text TOLD by the authors' own Lean function (tested against real Go, not proved from fmt's source: count such statements apart). THE CARD IS WHAT COUNTS. Prove the row's statement (the work); the ties are given (YtfmllmlloekojaaDoorTie.lean); close each card by the builder's one call (the guide's Derived/Test/ToyasCard.lean, 'card_holds'). Laid BY PROGRAM, IN A SANDBOX (cutbox-door.mjs). By AI agents, Wed Nov 11 2026. No macro, syntax, notation, axiom, sorry.
-/
import Derived.Test.YtfmllmlloekojaaDoorRows
import GoSem.ClaimSeven
namespace Go.Proofs.YtfmllmlloekojaaDoor
namespace Rows

/-- THE TIED CARD OF 'laws.FnFjRawStringOf'. -/
def fnFjRawStringOfCard : Claim7 := { stood := { row := fnFjRawStringOfRow, standIns := [], harness := (true, "92171a597c0ed0fbb6b5837d2c5f5fd40c922ae079a24ea1770a2ea52c22994e"), looks := true }, kinds := [], alts := [], laidByText := true, laidKinds := [.data, .data, .data, .sentinel, .sentinel], laidTests := true, laidLooks := .later }
def FnFjRawStringOfCardSaid : Prop := Claim7.holds Tryd.pinned (.plain (OpenSpec.ofChange fnFjRawStringOfSpec)) fnFjRawStringOfCard

/-- THE TIED CARD OF 'laws.FnFjCheckMembers'. -/
def fnFjCheckMembersCard : Claim7 := { stood := { row := fnFjCheckMembersRow, standIns := [], harness := (true, "92171a597c0ed0fbb6b5837d2c5f5fd40c922ae079a24ea1770a2ea52c22994e"), looks := true }, kinds := [], alts := [], laidByText := true, laidKinds := [.data, .data, .data, .sentinel, .sentinel], laidTests := true, laidLooks := .later }
def FnFjCheckMembersCardSaid : Prop := Claim7.holds Tryd.pinned (.plain (OpenSpec.ofChange fnFjCheckMembersSpec)) fnFjCheckMembersCard

/-- THE TIED CARD OF 'laws.FnJrPath'. -/
def fnJrPathCard : Claim7 := { stood := { row := fnJrPathRow, standIns := [], harness := (true, "92171a597c0ed0fbb6b5837d2c5f5fd40c922ae079a24ea1770a2ea52c22994e"), looks := true }, kinds := [], alts := [], laidByText := true, laidKinds := [.data, .data, .sentinel, .sentinel, .sentinel, .sentinel, .sentinel, .sentinel, .sentinel, .sentinel, .sentinel, .sentinel, .sentinel, .sentinel, .sentinel], laidTests := true, laidLooks := .later }
def FnJrPathCardSaid : Prop := Claim7.holds Tryd.pinned (.plain (OpenSpec.ofChange fnJrPathSpec)) fnJrPathCard

/-- THE TIED CARD OF 'laws.FnSjBuildDeep'. -/
def fnSjBuildDeepCard : Claim7 := { stood := { row := fnSjBuildDeepRow, standIns := [], harness := (true, "92171a597c0ed0fbb6b5837d2c5f5fd40c922ae079a24ea1770a2ea52c22994e"), looks := true }, kinds := [], alts := [], laidByText := true, laidKinds := [.data, .pinned], laidTests := true, laidLooks := .later }
def FnSjBuildDeepCardSaid : Prop := Claim7.holds Tryd.pinned (.plain (OpenSpec.ofChange fnSjBuildDeepSpec)) fnSjBuildDeepCard

/-- THE SECOND FORM's CARD OF 'laws.FnFjRawStringOf'. -/
def fnFjRawStringOfUptoCard : Claim7 := { stood := { row := fnFjRawStringOfUptoRow, standIns := [], harness := (true, "92171a597c0ed0fbb6b5837d2c5f5fd40c922ae079a24ea1770a2ea52c22994e"), looks := true }, kinds := [], alts := [], laidByText := true, laidKinds := [.data, .data, .data, .sentinel, .sentinel], laidTests := true, laidLooks := .later }
def FnFjRawStringOfUptoCardSaid : Prop := Claim7.holds Tryd.pinned (.plain (OpenSpec.upto fnFjRawStringOfSpec)) fnFjRawStringOfUptoCard

/-- THE SECOND FORM's CARD OF 'laws.FnFjCheckMembers'. -/
def fnFjCheckMembersUptoCard : Claim7 := { stood := { row := fnFjCheckMembersUptoRow, standIns := [], harness := (true, "92171a597c0ed0fbb6b5837d2c5f5fd40c922ae079a24ea1770a2ea52c22994e"), looks := true }, kinds := [], alts := [], laidByText := true, laidKinds := [.data, .data, .data, .sentinel, .sentinel], laidTests := true, laidLooks := .later }
def FnFjCheckMembersUptoCardSaid : Prop := Claim7.holds Tryd.pinned (.plain (OpenSpec.upto fnFjCheckMembersSpec)) fnFjCheckMembersUptoCard

/-- THE SECOND FORM's CARD OF 'laws.FnJrPath'. -/
def fnJrPathUptoCard : Claim7 := { stood := { row := fnJrPathUptoRow, standIns := [], harness := (true, "92171a597c0ed0fbb6b5837d2c5f5fd40c922ae079a24ea1770a2ea52c22994e"), looks := true }, kinds := [], alts := [], laidByText := true, laidKinds := [.data, .data, .sentinel, .sentinel, .sentinel, .sentinel, .sentinel, .sentinel, .sentinel, .sentinel, .sentinel, .sentinel, .sentinel, .sentinel, .sentinel], laidTests := true, laidLooks := .later }
def FnJrPathUptoCardSaid : Prop := Claim7.holds Tryd.pinned (.plain (OpenSpec.upto fnJrPathSpec)) fnJrPathUptoCard

/-- THE SECOND FORM's CARD OF 'laws.FnSjBuildDeep'. -/
def fnSjBuildDeepUptoCard : Claim7 := { stood := { row := fnSjBuildDeepUptoRow, standIns := [], harness := (true, "92171a597c0ed0fbb6b5837d2c5f5fd40c922ae079a24ea1770a2ea52c22994e"), looks := true }, kinds := [], alts := [], laidByText := true, laidKinds := [.data, .pinned], laidTests := true, laidLooks := .later }
def FnSjBuildDeepUptoCardSaid : Prop := Claim7.holds Tryd.pinned (.plain (OpenSpec.upto fnSjBuildDeepSpec)) fnSjBuildDeepUptoCard
end Rows
end Go.Proofs.YtfmllmlloekojaaDoor
