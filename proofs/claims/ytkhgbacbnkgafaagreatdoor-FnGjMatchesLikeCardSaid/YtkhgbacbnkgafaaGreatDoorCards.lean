/-
  DERIVED. GIVEN WITH THE SEED: THE CARDS: each row of YtkhgbacbnkgafaaGreatDoorRows.lean that lists a variable, with what it lists TIED to the program's text (the seventh form; the later family's looks); each row that meets fmt, with fmt's text TOLD by the authors' own Lean function (tested against real Go, not proved from fmt's source: count such statements apart). THE CARD IS WHAT COUNTS. Prove the row's statement (the work); the ties are given (YtkhgbacbnkgafaaGreatDoorTie.lean); close each card by the builder's one call (the guide's Derived/Test/ToyasCard.lean, 'card_holds'). Laid BY PROGRAM, IN A SANDBOX (cutbox-door.mjs). By AI agents, Wed Nov 11 2026. No macro, syntax, notation, axiom, sorry.
-/
import Derived.Test.YtkhgbacbnkgafaaGreatDoorRows
import GoSem.ClaimSeven
namespace Go.Proofs.YtkhgbacbnkgafaaGreatDoor
namespace Rows

/-- THE TIED CARD OF 'laws.FnGjMatchesLike'. -/
def fnGjMatchesLikeCard : Claim7 := { stood := { row := fnGjMatchesLikeRow, standIns := [], harness := (true, "e5ba3f4f740980359140a3dcb21812a4cb9eb04ddcae9cf492bcdb803e6cf471"), looks := true }, kinds := [], alts := [], laidByText := true, laidKinds := [.data, .data, .widerDeep, .widerDeep, .data, .data, .data, .data, .data, .data, .sentinel, .sentinel, .pinned, .pinned, .pinned], laidTests := true, laidLooks := .later }
def FnGjMatchesLikeCardSaid : Prop := Claim7.holds Tryz.pinned (.plain (OpenSpec.ofChange fnGjMatchesLikeSpec)) fnGjMatchesLikeCard

/-- THE SECOND FORM's CARD OF 'laws.FnGjMatchesLike'. -/
def fnGjMatchesLikeUptoCard : Claim7 := { stood := { row := fnGjMatchesLikeUptoRow, standIns := [], harness := (true, "e5ba3f4f740980359140a3dcb21812a4cb9eb04ddcae9cf492bcdb803e6cf471"), looks := true }, kinds := [], alts := [], laidByText := true, laidKinds := [.data, .data, .widerDeep, .widerDeep, .data, .data, .data, .data, .data, .data, .sentinel, .sentinel, .pinned, .pinned, .pinned], laidTests := true, laidLooks := .later }
def FnGjMatchesLikeUptoCardSaid : Prop := Claim7.holds Tryz.pinned (.plain (OpenSpec.upto fnGjMatchesLikeSpec)) fnGjMatchesLikeUptoCard
end Rows
end Go.Proofs.YtkhgbacbnkgafaaGreatDoor
