/-
  DERIVED. GIVEN WITH THE SEED: THE CARDS: each row of YoebuwDoorRows.lean that lists a variable, with what it lists TIED to the program's text (the seventh form; the later family's looks); each row that meets fmt, with fmt's text TOLD by the authors' own Lean function (tested against real Go, not proved from fmt's source: count such statements apart). THE CARD IS WHAT COUNTS. Prove the row's statement (the work); the ties are given (YoebuwDoorTie.lean); close each card by the builder's one call (the guide's Derived/Test/ToyasCard.lean, 'card_holds'). Laid BY PROGRAM, IN A SANDBOX (cutbox-door.mjs). By AI agents, Wed Nov 11 2026. No macro, syntax, notation, axiom, sorry.
-/
import Derived.Test.YoebuwDoorRows
import GoSem.ClaimSeven
namespace Go.Proofs.YoebuwDoor
namespace Rows

/-- THE TIED CARD OF 'zzlaws_root_b2.FnFmtQcPlusExactASCIIQuote'. -/
def fnFmtQcPlusExactASCIIQuoteCard : Claim7 := { stood := { row := fnFmtQcPlusExactASCIIQuoteRow, standIns := [], harness := (true, "954133a93fadf6e7d9391e5f03545820224087c2a4785690b8af082875cf7d6e"), looks := false }, kinds := [], alts := [], laidByText := true, laidKinds := [.called, .data, .pinned, .pinned, .pinned, .pinned, .pinned], laidTests := true, laidLooks := .later }
def FnFmtQcPlusExactASCIIQuoteCardSaid : Prop := Claim7.holds Ebug.pinned (.plain (OpenSpec.ofChange fnFmtQcPlusExactASCIIQuoteSpec)) fnFmtQcPlusExactASCIIQuoteCard

/-- THE TIED CARD OF 'zzlaws_root_b2.FnFmtQcPlainLiteralOrEscape'. -/
def fnFmtQcPlainLiteralOrEscapeCard : Claim7 := { stood := { row := fnFmtQcPlainLiteralOrEscapeRow, standIns := [], harness := (true, "954133a93fadf6e7d9391e5f03545820224087c2a4785690b8af082875cf7d6e"), looks := false }, kinds := [], alts := [], laidByText := true, laidKinds := [.called, .data, .pinned, .pinned, .pinned, .pinned, .pinned], laidTests := true, laidLooks := .later }
def FnFmtQcPlainLiteralOrEscapeCardSaid : Prop := Claim7.holds Ebug.pinned (.plain (OpenSpec.ofChange fnFmtQcPlainLiteralOrEscapeSpec)) fnFmtQcPlainLiteralOrEscapeCard

/-- THE TIED CARD OF 'zzlaws_root_b2.FnFmtFloatIntegerValuedExact'. -/
def fnFmtFloatIntegerValuedExactCard : Claim7 := { stood := { row := fnFmtFloatIntegerValuedExactRow, standIns := [], harness := (true, "954133a93fadf6e7d9391e5f03545820224087c2a4785690b8af082875cf7d6e"), looks := false }, kinds := [], alts := [], laidByText := true, laidKinds := [.data, .data, .data, .data, .called, .data, .pinned, .pinned], laidTests := true, laidLooks := .later }
def FnFmtFloatIntegerValuedExactCardSaid : Prop := Claim7.holds Ebug.pinned (.plain (OpenSpec.ofChange fnFmtFloatIntegerValuedExactSpec)) fnFmtFloatIntegerValuedExactCard

/-- THE TIED CARD OF 'zzlaws_root_b2.FnFmtFloatNonFiniteTable'. -/
def fnFmtFloatNonFiniteTableCard : Claim7 := { stood := { row := fnFmtFloatNonFiniteTableRow, standIns := [], harness := (true, "954133a93fadf6e7d9391e5f03545820224087c2a4785690b8af082875cf7d6e"), looks := false }, kinds := [], alts := [], laidByText := true, laidKinds := [.data, .data, .data, .data, .called, .data, .pinned, .pinned], laidTests := true, laidLooks := .later }
def FnFmtFloatNonFiniteTableCardSaid : Prop := Claim7.holds Ebug.pinned (.plain (OpenSpec.ofChange fnFmtFloatNonFiniteTableSpec)) fnFmtFloatNonFiniteTableCard

/-- THE TIED CARD OF 'zzlaws_root_b2.FnFmtbufWriteAppendsExactly'. -/
def fnFmtbufWriteAppendsExactlyCard : Claim7 := { stood := { row := fnFmtbufWriteAppendsExactlyRow, standIns := [], harness := (true, "954133a93fadf6e7d9391e5f03545820224087c2a4785690b8af082875cf7d6e"), looks := false }, kinds := [], alts := [], laidByText := true, laidKinds := [.called, .data], laidTests := true, laidLooks := .later }
def FnFmtbufWriteAppendsExactlyCardSaid : Prop := Claim7.holds Ebug.pinned (.plain (OpenSpec.ofChange fnFmtbufWriteAppendsExactlySpec)) fnFmtbufWriteAppendsExactlyCard

/-- THE TIED CARD OF 'zzlaws_root_b2.FnFmtbufWriteSplitInvariant'. -/
def fnFmtbufWriteSplitInvariantCard : Claim7 := { stood := { row := fnFmtbufWriteSplitInvariantRow, standIns := [], harness := (true, "954133a93fadf6e7d9391e5f03545820224087c2a4785690b8af082875cf7d6e"), looks := false }, kinds := [], alts := [], laidByText := true, laidKinds := [.called, .data], laidTests := true, laidLooks := .later }
def FnFmtbufWriteSplitInvariantCardSaid : Prop := Claim7.holds Ebug.pinned (.plain (OpenSpec.ofChange fnFmtbufWriteSplitInvariantSpec)) fnFmtbufWriteSplitInvariantCard

/-- THE TIED CARD OF 'zzlaws_root_b2.FnFmtbufWriteStringAppendsExactly'. -/
def fnFmtbufWriteStringAppendsExactlyCard : Claim7 := { stood := { row := fnFmtbufWriteStringAppendsExactlyRow, standIns := [], harness := (true, "954133a93fadf6e7d9391e5f03545820224087c2a4785690b8af082875cf7d6e"), looks := false }, kinds := [], alts := [], laidByText := true, laidKinds := [.called, .data], laidTests := true, laidLooks := .later }
def FnFmtbufWriteStringAppendsExactlyCardSaid : Prop := Claim7.holds Ebug.pinned (.plain (OpenSpec.ofChange fnFmtbufWriteStringAppendsExactlySpec)) fnFmtbufWriteStringAppendsExactlyCard

/-- THE TIED CARD OF 'zzlaws_root_b2.FnFmtbufWriteStringScriptAgreesWithWrite'. -/
def fnFmtbufWriteStringScriptAgreesWithWriteCard : Claim7 := { stood := { row := fnFmtbufWriteStringScriptAgreesWithWriteRow, standIns := [], harness := (true, "954133a93fadf6e7d9391e5f03545820224087c2a4785690b8af082875cf7d6e"), looks := false }, kinds := [], alts := [], laidByText := true, laidKinds := [.called, .data], laidTests := true, laidLooks := .later }
def FnFmtbufWriteStringScriptAgreesWithWriteCardSaid : Prop := Claim7.holds Ebug.pinned (.plain (OpenSpec.ofChange fnFmtbufWriteStringScriptAgreesWithWriteSpec)) fnFmtbufWriteStringScriptAgreesWithWriteCard
end Rows
end Go.Proofs.YoebuwDoor
