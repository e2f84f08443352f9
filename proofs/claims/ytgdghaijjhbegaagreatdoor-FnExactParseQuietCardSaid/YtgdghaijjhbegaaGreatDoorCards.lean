/-
  DERIVED. GIVEN WITH THE SEED: THE CARDS: each row of YtgdghaijjhbegaaGreatDoorRows.lean that lists a variable, with what it lists TIED to the program's text (the seventh form; the later family's looks); each row that meets fmt, with fmt's text TOLD by the authors' own Lean function (tested against real Go, not proved from fmt's source: count such statements apart). THE CARD IS WHAT COUNTS. Prove the row's statement (the work); the ties are given (YtgdghaijjhbegaaGreatDoorTie.lean); close each card by the builder's one call (the guide's Derived/Test/ToyasCard.lean, 'card_holds'). Laid BY PROGRAM, IN A SANDBOX (cutbox-door.mjs). By AI agents, Wed Nov 11 2026. No macro, syntax, notation, axiom, sorry.
-/
import Derived.Test.YtgdghaijjhbegaaGreatDoorRows
import GoSem.ClaimSeven
namespace Go.Proofs.YtgdghaijjhbegaaGreatDoor
namespace Rows

/-- THE TIED CARD OF 'laws.FnExactParse'. -/
def fnExactParseCard : Claim7 := { stood := { row := fnExactParseRow, standIns := [], harness := (true, "b75b48cc0ec4b7db1440ea46fbb900bbbd496ba80702e50b915a868876c3fdb5"), looks := true }, kinds := [], alts := [], laidByText := true, laidKinds := [.data, .data, .data, .data, .sentinel, .sentinel, .sentinel, .sentinel, .sentinel, .sentinel, .listed, .data, .sentinel, .sentinel, .sentinel, .sentinel, .sentinel, .sentinel, .sentinel, .pinned], laidTests := true, laidLooks := .later }
def FnExactParseCardSaid : Prop := Claim7.holds Tryz.pinned (.plain (OpenSpec.ofChange fnExactParseSpec)) fnExactParseCard

/-- THE TIED CARD OF 'laws.FnExactParseQuiet'. -/
def fnExactParseQuietCard : Claim7 := { stood := { row := fnExactParseQuietRow, standIns := [], harness := (true, "b75b48cc0ec4b7db1440ea46fbb900bbbd496ba80702e50b915a868876c3fdb5"), looks := true }, kinds := [], alts := [], laidByText := true, laidKinds := [.data, .data, .data, .data, .sentinel, .sentinel, .sentinel, .sentinel, .sentinel, .sentinel, .listed, .data, .sentinel, .sentinel, .sentinel, .sentinel, .sentinel, .sentinel, .sentinel, .pinned], laidTests := true, laidLooks := .later }
def FnExactParseQuietCardSaid : Prop := Claim7.holds Tryz.pinned (.plain (OpenSpec.ofChange fnExactParseQuietSpec)) fnExactParseQuietCard

/-- THE TIED CARD OF 'laws.FnParseJoin'. -/
def fnParseJoinCard : Claim7 := { stood := { row := fnParseJoinRow, standIns := [], harness := (true, "b75b48cc0ec4b7db1440ea46fbb900bbbd496ba80702e50b915a868876c3fdb5"), looks := true }, kinds := [], alts := [], laidByText := true, laidKinds := [.data, .data, .data, .data, .sentinel, .sentinel, .sentinel, .sentinel, .sentinel, .sentinel, .listed, .data, .sentinel, .sentinel, .sentinel, .sentinel, .sentinel, .sentinel, .sentinel, .pinned], laidTests := true, laidLooks := .later }
def FnParseJoinCardSaid : Prop := Claim7.holds Tryz.pinned (.plain (OpenSpec.ofChange fnParseJoinSpec)) fnParseJoinCard

/-- THE TIED CARD OF 'laws.FnParseWrite'. -/
def fnParseWriteCard : Claim7 := { stood := { row := fnParseWriteRow, standIns := [], harness := (true, "b75b48cc0ec4b7db1440ea46fbb900bbbd496ba80702e50b915a868876c3fdb5"), looks := true }, kinds := [], alts := [], laidByText := true, laidKinds := [.data, .data, .data, .data, .sentinel, .sentinel, .sentinel, .sentinel, .sentinel, .sentinel, .sentinel, .sentinel, .listed, .data, .sentinel, .sentinel, .sentinel, .sentinel, .sentinel, .sentinel, .sentinel, .pinned], laidTests := true, laidLooks := .later }
def FnParseWriteCardSaid : Prop := Claim7.holds Tryz.pinned (.plain (OpenSpec.ofChange fnParseWriteSpec)) fnParseWriteCard

/-- THE SECOND FORM's CARD OF 'laws.FnExactParse'. -/
def fnExactParseUptoCard : Claim7 := { stood := { row := fnExactParseUptoRow, standIns := [], harness := (true, "b75b48cc0ec4b7db1440ea46fbb900bbbd496ba80702e50b915a868876c3fdb5"), looks := true }, kinds := [], alts := [], laidByText := true, laidKinds := [.data, .data, .data, .data, .sentinel, .sentinel, .sentinel, .sentinel, .sentinel, .sentinel, .listed, .data, .sentinel, .sentinel, .sentinel, .sentinel, .sentinel, .sentinel, .sentinel, .pinned], laidTests := true, laidLooks := .later }
def FnExactParseUptoCardSaid : Prop := Claim7.holds Tryz.pinned (.plain (OpenSpec.upto fnExactParseSpec)) fnExactParseUptoCard

/-- THE SECOND FORM's CARD OF 'laws.FnExactParseQuiet'. -/
def fnExactParseQuietUptoCard : Claim7 := { stood := { row := fnExactParseQuietUptoRow, standIns := [], harness := (true, "b75b48cc0ec4b7db1440ea46fbb900bbbd496ba80702e50b915a868876c3fdb5"), looks := true }, kinds := [], alts := [], laidByText := true, laidKinds := [.data, .data, .data, .data, .sentinel, .sentinel, .sentinel, .sentinel, .sentinel, .sentinel, .listed, .data, .sentinel, .sentinel, .sentinel, .sentinel, .sentinel, .sentinel, .sentinel, .pinned], laidTests := true, laidLooks := .later }
def FnExactParseQuietUptoCardSaid : Prop := Claim7.holds Tryz.pinned (.plain (OpenSpec.upto fnExactParseQuietSpec)) fnExactParseQuietUptoCard

/-- THE SECOND FORM's CARD OF 'laws.FnParseJoin'. -/
def fnParseJoinUptoCard : Claim7 := { stood := { row := fnParseJoinUptoRow, standIns := [], harness := (true, "b75b48cc0ec4b7db1440ea46fbb900bbbd496ba80702e50b915a868876c3fdb5"), looks := true }, kinds := [], alts := [], laidByText := true, laidKinds := [.data, .data, .data, .data, .sentinel, .sentinel, .sentinel, .sentinel, .sentinel, .sentinel, .listed, .data, .sentinel, .sentinel, .sentinel, .sentinel, .sentinel, .sentinel, .sentinel, .pinned], laidTests := true, laidLooks := .later }
def FnParseJoinUptoCardSaid : Prop := Claim7.holds Tryz.pinned (.plain (OpenSpec.upto fnParseJoinSpec)) fnParseJoinUptoCard

/-- THE SECOND FORM's CARD OF 'laws.FnParseWrite'. -/
def fnParseWriteUptoCard : Claim7 := { stood := { row := fnParseWriteUptoRow, standIns := [], harness := (true, "b75b48cc0ec4b7db1440ea46fbb900bbbd496ba80702e50b915a868876c3fdb5"), looks := true }, kinds := [], alts := [], laidByText := true, laidKinds := [.data, .data, .data, .data, .sentinel, .sentinel, .sentinel, .sentinel, .sentinel, .sentinel, .sentinel, .sentinel, .listed, .data, .sentinel, .sentinel, .sentinel, .sentinel, .sentinel, .sentinel, .sentinel, .pinned], laidTests := true, laidLooks := .later }
def FnParseWriteUptoCardSaid : Prop := Claim7.holds Tryz.pinned (.plain (OpenSpec.upto fnParseWriteSpec)) fnParseWriteUptoCard
end Rows
end Go.Proofs.YtgdghaijjhbegaaGreatDoor
