/-
  DERIVED. GIVEN WITH THE SEED: THE CARDS: each row of YtfoloneeibgoiaaDoorRows.lean that lists a variable, with what it lists TIED to the program's text (the seventh form; the later family's looks); each row that meets fmt, with fmt's text TOLD by the authors' own Lean function (tested against real Go, not proved from fmt's source: count such statements apart). THE CARD IS WHAT COUNTS. Prove the row's statement (the work); the ties are given (YtfoloneeibgoiaaDoorTie.lean); close each card by the builder's one call (the guide's Derived/Test/ToyasCard.lean, 'card_holds'). Laid BY PROGRAM, IN A SANDBOX (cutbox-door.mjs). By AI agents, Wed Nov 11 2026. No macro, syntax, notation, axiom, sorry.
-/
import Derived.Test.YtfoloneeibgoiaaDoorRows
import GoSem.ClaimSeven
namespace Go.Proofs.YtfoloneeibgoiaaDoor
namespace Rows

/-- THE TIED CARD OF 'laws.FnFjReprint'. -/
def fnFjReprintCard : Claim7 := { stood := { row := fnFjReprintRow, standIns := [], harness := (true, "a36b9b33b44a1291f5cf440193c80b85b2f1750e181a62c3b3fb19bcf11bf495"), looks := true }, kinds := [], alts := [], laidByText := true, laidKinds := [.data, .pinned, .pinned, .pinned, .pinned, .pinned, .pinned], laidTests := true, laidLooks := .later }
def FnFjReprintCardSaid : Prop := Claim7.holds Tryd.pinned (.plain (OpenSpec.ofChange fnFjReprintSpec)) fnFjReprintCard

/-- THE TIED CARD OF 'laws.FnFjReadBytes'. -/
def fnFjReadBytesCard : Claim7 := { stood := { row := fnFjReadBytesRow, standIns := [], harness := (true, "a36b9b33b44a1291f5cf440193c80b85b2f1750e181a62c3b3fb19bcf11bf495"), looks := true }, kinds := [], alts := [], laidByText := true, laidKinds := [.data, .data, .data, .data, .sentinel, .sentinel, .pinned, .pinned, .pinned, .pinned, .pinned, .pinned], laidTests := true, laidLooks := .later }
def FnFjReadBytesCardSaid : Prop := Claim7.holds Tryd.pinned (.plain (OpenSpec.ofChange fnFjReadBytesSpec)) fnFjReadBytesCard

/-- THE SECOND FORM's CARD OF 'laws.FnFjReprint'. -/
def fnFjReprintUptoCard : Claim7 := { stood := { row := fnFjReprintUptoRow, standIns := [], harness := (true, "a36b9b33b44a1291f5cf440193c80b85b2f1750e181a62c3b3fb19bcf11bf495"), looks := true }, kinds := [], alts := [], laidByText := true, laidKinds := [.data, .pinned, .pinned, .pinned, .pinned, .pinned, .pinned], laidTests := true, laidLooks := .later }
def FnFjReprintUptoCardSaid : Prop := Claim7.holds Tryd.pinned (.plain (OpenSpec.upto fnFjReprintSpec)) fnFjReprintUptoCard

/-- THE SECOND FORM's CARD OF 'laws.FnFjReadBytes'. -/
def fnFjReadBytesUptoCard : Claim7 := { stood := { row := fnFjReadBytesUptoRow, standIns := [], harness := (true, "a36b9b33b44a1291f5cf440193c80b85b2f1750e181a62c3b3fb19bcf11bf495"), looks := true }, kinds := [], alts := [], laidByText := true, laidKinds := [.data, .data, .data, .data, .sentinel, .sentinel, .pinned, .pinned, .pinned, .pinned, .pinned, .pinned], laidTests := true, laidLooks := .later }
def FnFjReadBytesUptoCardSaid : Prop := Claim7.holds Tryd.pinned (.plain (OpenSpec.upto fnFjReadBytesSpec)) fnFjReadBytesUptoCard
end Rows
end Go.Proofs.YtfoloneeibgoiaaDoor
