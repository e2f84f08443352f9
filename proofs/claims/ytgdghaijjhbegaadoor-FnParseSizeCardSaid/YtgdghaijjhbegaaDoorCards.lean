/-
  DERIVED. GIVEN WITH THE SEED: THE CARDS: each row of YtgdghaijjhbegaaDoorRows.lean that lists a variable, with what it lists TIED to the program's text (the seventh form; the later family's looks); each row that meets fmt, with fmt's text TOLD by the authors' own Lean function (tested against real Go, not proved from fmt's source: count such statements apart). THE CARD IS WHAT COUNTS. Prove the row's statement (the work); the ties are given (YtgdghaijjhbegaaDoorTie.lean); close each card by the builder's one call (the guide's Derived/Test/ToyasCard.lean, 'card_holds'). Laid BY PROGRAM, IN A SANDBOX (cutbox-door.mjs). By AI agents, Wed Nov 11 2026. No macro, syntax, notation, axiom, sorry.
-/
import Derived.Test.YtgdghaijjhbegaaDoorRows
import GoSem.ClaimSeven
namespace Go.Proofs.YtgdghaijjhbegaaDoor
namespace Rows

/-- THE TIED CARD OF 'laws.FnExactTrim'. -/
def fnExactTrimCard : Claim7 := { stood := { row := fnExactTrimRow, standIns := [], harness := (true, "84a6d20c64aceb2be30cdcf152b64bda8adaa09ae954dc8bb37f3e299ef1c711"), looks := true }, kinds := [], alts := [], laidByText := true, laidKinds := [.data, .pinned], laidTests := true, laidLooks := .later }
def FnExactTrimCardSaid : Prop := Claim7.holds Tryd.pinned (.plain (OpenSpec.ofChange fnExactTrimSpec)) fnExactTrimCard

/-- THE TIED CARD OF 'laws.FnTrimSixteen'. -/
def fnTrimSixteenCard : Claim7 := { stood := { row := fnTrimSixteenRow, standIns := [], harness := (true, "84a6d20c64aceb2be30cdcf152b64bda8adaa09ae954dc8bb37f3e299ef1c711"), looks := true }, kinds := [], alts := [], laidByText := true, laidKinds := [.data, .pinned], laidTests := true, laidLooks := .later }
def FnTrimSixteenCardSaid : Prop := Claim7.holds Tryd.pinned (.plain (OpenSpec.ofChange fnTrimSixteenSpec)) fnTrimSixteenCard

/-- THE TIED CARD OF 'laws.FnExactWrite'. -/
def fnExactWriteCard : Claim7 := { stood := { row := fnExactWriteRow, standIns := [], harness := (true, "84a6d20c64aceb2be30cdcf152b64bda8adaa09ae954dc8bb37f3e299ef1c711"), looks := true }, kinds := [], alts := [], laidByText := true, laidKinds := [.data, .data, .data, .data, .sentinel, .sentinel, .sentinel, .pinned], laidTests := true, laidLooks := .later }
def FnExactWriteCardSaid : Prop := Claim7.holds Tryd.pinned (.plain (OpenSpec.ofChange fnExactWriteSpec)) fnExactWriteCard

/-- THE TIED CARD OF 'laws.FnExactHeader'. -/
def fnExactHeaderCard : Claim7 := { stood := { row := fnExactHeaderRow, standIns := [], harness := (true, "84a6d20c64aceb2be30cdcf152b64bda8adaa09ae954dc8bb37f3e299ef1c711"), looks := true }, kinds := [], alts := [], laidByText := true, laidKinds := [.data, .data, .data, .data, .pinned], laidTests := true, laidLooks := .later }
def FnExactHeaderCardSaid : Prop := Claim7.holds Tryd.pinned (.plain (OpenSpec.ofChange fnExactHeaderSpec)) fnExactHeaderCard

/-- THE TIED CARD OF 'laws.FnParseCut'. -/
def fnParseCutCard : Claim7 := { stood := { row := fnParseCutRow, standIns := [], harness := (true, "84a6d20c64aceb2be30cdcf152b64bda8adaa09ae954dc8bb37f3e299ef1c711"), looks := true }, kinds := [], alts := [], laidByText := true, laidKinds := [.data, .data, .data, .data, .sentinel, .sentinel, .sentinel, .sentinel, .sentinel, .sentinel, .listed, .data, .sentinel, .sentinel, .sentinel, .sentinel, .sentinel, .sentinel, .sentinel, .pinned], laidTests := true, laidLooks := .later }
def FnParseCutCardSaid : Prop := Claim7.holds Tryd.pinned (.plain (OpenSpec.ofChange fnParseCutSpec)) fnParseCutCard

/-- THE TIED CARD OF 'laws.FnParseMagic'. -/
def fnParseMagicCard : Claim7 := { stood := { row := fnParseMagicRow, standIns := [], harness := (true, "84a6d20c64aceb2be30cdcf152b64bda8adaa09ae954dc8bb37f3e299ef1c711"), looks := true }, kinds := [], alts := [], laidByText := true, laidKinds := [.data, .data, .data, .data, .sentinel, .sentinel, .sentinel, .sentinel, .sentinel, .sentinel, .listed, .data, .sentinel, .sentinel, .sentinel, .sentinel, .sentinel, .sentinel, .sentinel, .pinned], laidTests := true, laidLooks := .later }
def FnParseMagicCardSaid : Prop := Claim7.holds Tryd.pinned (.plain (OpenSpec.ofChange fnParseMagicSpec)) fnParseMagicCard

/-- THE TIED CARD OF 'laws.FnParseSize'. -/
def fnParseSizeCard : Claim7 := { stood := { row := fnParseSizeRow, standIns := [], harness := (true, "84a6d20c64aceb2be30cdcf152b64bda8adaa09ae954dc8bb37f3e299ef1c711"), looks := true }, kinds := [], alts := [], laidByText := true, laidKinds := [.data, .data, .data, .data, .sentinel, .sentinel, .sentinel, .sentinel, .sentinel, .sentinel, .listed, .data, .sentinel, .sentinel, .sentinel, .sentinel, .sentinel, .sentinel, .sentinel, .pinned], laidTests := true, laidLooks := .later }
def FnParseSizeCardSaid : Prop := Claim7.holds Tryd.pinned (.plain (OpenSpec.ofChange fnParseSizeSpec)) fnParseSizeCard

/-- THE TIED CARD OF 'laws.FnParseSpoilt'. -/
def fnParseSpoiltCard : Claim7 := { stood := { row := fnParseSpoiltRow, standIns := [], harness := (true, "84a6d20c64aceb2be30cdcf152b64bda8adaa09ae954dc8bb37f3e299ef1c711"), looks := true }, kinds := [], alts := [], laidByText := true, laidKinds := [.data, .data, .data, .data, .sentinel, .sentinel, .sentinel, .sentinel, .sentinel, .sentinel, .listed, .data, .sentinel, .sentinel, .sentinel, .sentinel, .sentinel, .sentinel, .sentinel, .pinned], laidTests := true, laidLooks := .later }
def FnParseSpoiltCardSaid : Prop := Claim7.holds Tryd.pinned (.plain (OpenSpec.ofChange fnParseSpoiltSpec)) fnParseSpoiltCard

/-- THE SECOND FORM's CARD OF 'laws.FnExactTrim'. -/
def fnExactTrimUptoCard : Claim7 := { stood := { row := fnExactTrimUptoRow, standIns := [], harness := (true, "84a6d20c64aceb2be30cdcf152b64bda8adaa09ae954dc8bb37f3e299ef1c711"), looks := true }, kinds := [], alts := [], laidByText := true, laidKinds := [.data, .pinned], laidTests := true, laidLooks := .later }
def FnExactTrimUptoCardSaid : Prop := Claim7.holds Tryd.pinned (.plain (OpenSpec.upto fnExactTrimSpec)) fnExactTrimUptoCard

/-- THE SECOND FORM's CARD OF 'laws.FnTrimSixteen'. -/
def fnTrimSixteenUptoCard : Claim7 := { stood := { row := fnTrimSixteenUptoRow, standIns := [], harness := (true, "84a6d20c64aceb2be30cdcf152b64bda8adaa09ae954dc8bb37f3e299ef1c711"), looks := true }, kinds := [], alts := [], laidByText := true, laidKinds := [.data, .pinned], laidTests := true, laidLooks := .later }
def FnTrimSixteenUptoCardSaid : Prop := Claim7.holds Tryd.pinned (.plain (OpenSpec.upto fnTrimSixteenSpec)) fnTrimSixteenUptoCard

/-- THE SECOND FORM's CARD OF 'laws.FnExactWrite'. -/
def fnExactWriteUptoCard : Claim7 := { stood := { row := fnExactWriteUptoRow, standIns := [], harness := (true, "84a6d20c64aceb2be30cdcf152b64bda8adaa09ae954dc8bb37f3e299ef1c711"), looks := true }, kinds := [], alts := [], laidByText := true, laidKinds := [.data, .data, .data, .data, .sentinel, .sentinel, .sentinel, .pinned], laidTests := true, laidLooks := .later }
def FnExactWriteUptoCardSaid : Prop := Claim7.holds Tryd.pinned (.plain (OpenSpec.upto fnExactWriteSpec)) fnExactWriteUptoCard

/-- THE SECOND FORM's CARD OF 'laws.FnExactHeader'. -/
def fnExactHeaderUptoCard : Claim7 := { stood := { row := fnExactHeaderUptoRow, standIns := [], harness := (true, "84a6d20c64aceb2be30cdcf152b64bda8adaa09ae954dc8bb37f3e299ef1c711"), looks := true }, kinds := [], alts := [], laidByText := true, laidKinds := [.data, .data, .data, .data, .pinned], laidTests := true, laidLooks := .later }
def FnExactHeaderUptoCardSaid : Prop := Claim7.holds Tryd.pinned (.plain (OpenSpec.upto fnExactHeaderSpec)) fnExactHeaderUptoCard

/-- THE SECOND FORM's CARD OF 'laws.FnParseCut'. -/
def fnParseCutUptoCard : Claim7 := { stood := { row := fnParseCutUptoRow, standIns := [], harness := (true, "84a6d20c64aceb2be30cdcf152b64bda8adaa09ae954dc8bb37f3e299ef1c711"), looks := true }, kinds := [], alts := [], laidByText := true, laidKinds := [.data, .data, .data, .data, .sentinel, .sentinel, .sentinel, .sentinel, .sentinel, .sentinel, .listed, .data, .sentinel, .sentinel, .sentinel, .sentinel, .sentinel, .sentinel, .sentinel, .pinned], laidTests := true, laidLooks := .later }
def FnParseCutUptoCardSaid : Prop := Claim7.holds Tryd.pinned (.plain (OpenSpec.upto fnParseCutSpec)) fnParseCutUptoCard

/-- THE SECOND FORM's CARD OF 'laws.FnParseMagic'. -/
def fnParseMagicUptoCard : Claim7 := { stood := { row := fnParseMagicUptoRow, standIns := [], harness := (true, "84a6d20c64aceb2be30cdcf152b64bda8adaa09ae954dc8bb37f3e299ef1c711"), looks := true }, kinds := [], alts := [], laidByText := true, laidKinds := [.data, .data, .data, .data, .sentinel, .sentinel, .sentinel, .sentinel, .sentinel, .sentinel, .listed, .data, .sentinel, .sentinel, .sentinel, .sentinel, .sentinel, .sentinel, .sentinel, .pinned], laidTests := true, laidLooks := .later }
def FnParseMagicUptoCardSaid : Prop := Claim7.holds Tryd.pinned (.plain (OpenSpec.upto fnParseMagicSpec)) fnParseMagicUptoCard

/-- THE SECOND FORM's CARD OF 'laws.FnParseSize'. -/
def fnParseSizeUptoCard : Claim7 := { stood := { row := fnParseSizeUptoRow, standIns := [], harness := (true, "84a6d20c64aceb2be30cdcf152b64bda8adaa09ae954dc8bb37f3e299ef1c711"), looks := true }, kinds := [], alts := [], laidByText := true, laidKinds := [.data, .data, .data, .data, .sentinel, .sentinel, .sentinel, .sentinel, .sentinel, .sentinel, .listed, .data, .sentinel, .sentinel, .sentinel, .sentinel, .sentinel, .sentinel, .sentinel, .pinned], laidTests := true, laidLooks := .later }
def FnParseSizeUptoCardSaid : Prop := Claim7.holds Tryd.pinned (.plain (OpenSpec.upto fnParseSizeSpec)) fnParseSizeUptoCard

/-- THE SECOND FORM's CARD OF 'laws.FnParseSpoilt'. -/
def fnParseSpoiltUptoCard : Claim7 := { stood := { row := fnParseSpoiltUptoRow, standIns := [], harness := (true, "84a6d20c64aceb2be30cdcf152b64bda8adaa09ae954dc8bb37f3e299ef1c711"), looks := true }, kinds := [], alts := [], laidByText := true, laidKinds := [.data, .data, .data, .data, .sentinel, .sentinel, .sentinel, .sentinel, .sentinel, .sentinel, .listed, .data, .sentinel, .sentinel, .sentinel, .sentinel, .sentinel, .sentinel, .sentinel, .pinned], laidTests := true, laidLooks := .later }
def FnParseSpoiltUptoCardSaid : Prop := Claim7.holds Tryd.pinned (.plain (OpenSpec.upto fnParseSpoiltSpec)) fnParseSpoiltUptoCard
end Rows
end Go.Proofs.YtgdghaijjhbegaaDoor
