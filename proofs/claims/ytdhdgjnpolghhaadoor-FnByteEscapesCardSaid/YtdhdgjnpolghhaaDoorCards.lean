/-
  DERIVED. GIVEN WITH THE SEED: THE CARDS: each row of YtdhdgjnpolghhaaDoorRows.lean that lists a variable, with what it lists TIED to the program's text (the seventh form; the later family's looks); each row that meets fmt, with fmt's text TOLD by the authors' own Lean function (tested against real Go, not proved from fmt's source: count such statements apart). THE CARD IS WHAT COUNTS. Prove the row's statement (the work); the ties are given (YtdhdgjnpolghhaaDoorTie.lean); close each card by the builder's one call (the guide's Derived/Test/ToyasCard.lean, 'card_holds'). Laid BY PROGRAM, IN A SANDBOX (cutbox-door.mjs). By AI agents, Wed Nov 11 2026. No macro, syntax, notation, axiom, sorry.
-/
import Derived.Test.YtdhdgjnpolghhaaDoorRows
import GoSem.ClaimSeven
namespace Go.Proofs.YtdhdgjnpolghhaaDoor
namespace Rows

/-- THE TIED CARD OF 'laws.FnQuotedPrefix'. -/
def fnQuotedPrefixCard : Claim7 := { stood := { row := fnQuotedPrefixRow, standIns := [], harness := (true, "4c83498e689624247390cdfa3dcd3b346a1e04ebfb9c07e1d2a5d4032b595cb5"), looks := false }, kinds := [], alts := [], laidByText := true, laidKinds := [.data, .sentinel, .pinned], laidTests := true, laidLooks := .later }
def FnQuotedPrefixCardSaid : Prop := Claim7.holds Tryd.pinned (.plain (OpenSpec.ofChange fnQuotedPrefixSpec)) fnQuotedPrefixCard

/-- THE TIED CARD OF 'laws.FnBehind'. -/
def fnBehindCard : Claim7 := { stood := { row := fnBehindRow, standIns := [], harness := (true, "4c83498e689624247390cdfa3dcd3b346a1e04ebfb9c07e1d2a5d4032b595cb5"), looks := false }, kinds := [], alts := [], laidByText := true, laidKinds := [.data, .sentinel, .pinned], laidTests := true, laidLooks := .later }
def FnBehindCardSaid : Prop := Claim7.holds Tryd.pinned (.plain (OpenSpec.ofChange fnBehindSpec)) fnBehindCard

/-- THE TIED CARD OF 'laws.FnByteEscapes'. -/
def fnByteEscapesCard : Claim7 := { stood := { row := fnByteEscapesRow, standIns := [], harness := (true, "4c83498e689624247390cdfa3dcd3b346a1e04ebfb9c07e1d2a5d4032b595cb5"), looks := false }, kinds := [], alts := [], laidByText := true, laidKinds := [.data, .sentinel, .pinned], laidTests := true, laidLooks := .later }
def FnByteEscapesCardSaid : Prop := Claim7.holds Tryd.pinned (.plain (OpenSpec.ofChange fnByteEscapesSpec)) fnByteEscapesCard

/-- THE TIED CARD OF 'laws.FnCutShort'. -/
def fnCutShortCard : Claim7 := { stood := { row := fnCutShortRow, standIns := [], harness := (true, "4c83498e689624247390cdfa3dcd3b346a1e04ebfb9c07e1d2a5d4032b595cb5"), looks := false }, kinds := [], alts := [], laidByText := true, laidKinds := [.data, .sentinel, .pinned], laidTests := true, laidLooks := .later }
def FnCutShortCardSaid : Prop := Claim7.holds Tryd.pinned (.plain (OpenSpec.ofChange fnCutShortSpec)) fnCutShortCard

/-- THE TIED CARD OF 'laws.FnEscapedQuotes'. -/
def fnEscapedQuotesCard : Claim7 := { stood := { row := fnEscapedQuotesRow, standIns := [], harness := (true, "4c83498e689624247390cdfa3dcd3b346a1e04ebfb9c07e1d2a5d4032b595cb5"), looks := false }, kinds := [], alts := [], laidByText := true, laidKinds := [.data, .sentinel, .pinned], laidTests := true, laidLooks := .later }
def FnEscapedQuotesCardSaid : Prop := Claim7.holds Tryd.pinned (.plain (OpenSpec.ofChange fnEscapedQuotesSpec)) fnEscapedQuotesCard

/-- THE TIED CARD OF 'laws.FnOneCharacter'. -/
def fnOneCharacterCard : Claim7 := { stood := { row := fnOneCharacterRow, standIns := [], harness := (true, "4c83498e689624247390cdfa3dcd3b346a1e04ebfb9c07e1d2a5d4032b595cb5"), looks := false }, kinds := [], alts := [], laidByText := true, laidKinds := [.data, .sentinel, .pinned], laidTests := true, laidLooks := .later }
def FnOneCharacterCardSaid : Prop := Claim7.holds Tryd.pinned (.plain (OpenSpec.ofChange fnOneCharacterSpec)) fnOneCharacterCard

/-- THE TIED CARD OF 'laws.FnRaw'. -/
def fnRawCard : Claim7 := { stood := { row := fnRawRow, standIns := [], harness := (true, "4c83498e689624247390cdfa3dcd3b346a1e04ebfb9c07e1d2a5d4032b595cb5"), looks := false }, kinds := [], alts := [], laidByText := true, laidKinds := [.data, .sentinel, .pinned], laidTests := true, laidLooks := .later }
def FnRawCardSaid : Prop := Claim7.holds Tryd.pinned (.plain (OpenSpec.ofChange fnRawSpec)) fnRawCard

/-- THE SECOND FORM's CARD OF 'laws.FnQuotedPrefix'. -/
def fnQuotedPrefixUptoCard : Claim7 := { stood := { row := fnQuotedPrefixUptoRow, standIns := [], harness := (true, "4c83498e689624247390cdfa3dcd3b346a1e04ebfb9c07e1d2a5d4032b595cb5"), looks := false }, kinds := [], alts := [], laidByText := true, laidKinds := [.data, .sentinel, .pinned], laidTests := true, laidLooks := .later }
def FnQuotedPrefixUptoCardSaid : Prop := Claim7.holds Tryd.pinned (.plain (OpenSpec.upto fnQuotedPrefixSpec)) fnQuotedPrefixUptoCard

/-- THE SECOND FORM's CARD OF 'laws.FnBehind'. -/
def fnBehindUptoCard : Claim7 := { stood := { row := fnBehindUptoRow, standIns := [], harness := (true, "4c83498e689624247390cdfa3dcd3b346a1e04ebfb9c07e1d2a5d4032b595cb5"), looks := false }, kinds := [], alts := [], laidByText := true, laidKinds := [.data, .sentinel, .pinned], laidTests := true, laidLooks := .later }
def FnBehindUptoCardSaid : Prop := Claim7.holds Tryd.pinned (.plain (OpenSpec.upto fnBehindSpec)) fnBehindUptoCard

/-- THE SECOND FORM's CARD OF 'laws.FnByteEscapes'. -/
def fnByteEscapesUptoCard : Claim7 := { stood := { row := fnByteEscapesUptoRow, standIns := [], harness := (true, "4c83498e689624247390cdfa3dcd3b346a1e04ebfb9c07e1d2a5d4032b595cb5"), looks := false }, kinds := [], alts := [], laidByText := true, laidKinds := [.data, .sentinel, .pinned], laidTests := true, laidLooks := .later }
def FnByteEscapesUptoCardSaid : Prop := Claim7.holds Tryd.pinned (.plain (OpenSpec.upto fnByteEscapesSpec)) fnByteEscapesUptoCard

/-- THE SECOND FORM's CARD OF 'laws.FnCutShort'. -/
def fnCutShortUptoCard : Claim7 := { stood := { row := fnCutShortUptoRow, standIns := [], harness := (true, "4c83498e689624247390cdfa3dcd3b346a1e04ebfb9c07e1d2a5d4032b595cb5"), looks := false }, kinds := [], alts := [], laidByText := true, laidKinds := [.data, .sentinel, .pinned], laidTests := true, laidLooks := .later }
def FnCutShortUptoCardSaid : Prop := Claim7.holds Tryd.pinned (.plain (OpenSpec.upto fnCutShortSpec)) fnCutShortUptoCard

/-- THE SECOND FORM's CARD OF 'laws.FnEscapedQuotes'. -/
def fnEscapedQuotesUptoCard : Claim7 := { stood := { row := fnEscapedQuotesUptoRow, standIns := [], harness := (true, "4c83498e689624247390cdfa3dcd3b346a1e04ebfb9c07e1d2a5d4032b595cb5"), looks := false }, kinds := [], alts := [], laidByText := true, laidKinds := [.data, .sentinel, .pinned], laidTests := true, laidLooks := .later }
def FnEscapedQuotesUptoCardSaid : Prop := Claim7.holds Tryd.pinned (.plain (OpenSpec.upto fnEscapedQuotesSpec)) fnEscapedQuotesUptoCard

/-- THE SECOND FORM's CARD OF 'laws.FnOneCharacter'. -/
def fnOneCharacterUptoCard : Claim7 := { stood := { row := fnOneCharacterUptoRow, standIns := [], harness := (true, "4c83498e689624247390cdfa3dcd3b346a1e04ebfb9c07e1d2a5d4032b595cb5"), looks := false }, kinds := [], alts := [], laidByText := true, laidKinds := [.data, .sentinel, .pinned], laidTests := true, laidLooks := .later }
def FnOneCharacterUptoCardSaid : Prop := Claim7.holds Tryd.pinned (.plain (OpenSpec.upto fnOneCharacterSpec)) fnOneCharacterUptoCard

/-- THE SECOND FORM's CARD OF 'laws.FnRaw'. -/
def fnRawUptoCard : Claim7 := { stood := { row := fnRawUptoRow, standIns := [], harness := (true, "4c83498e689624247390cdfa3dcd3b346a1e04ebfb9c07e1d2a5d4032b595cb5"), looks := false }, kinds := [], alts := [], laidByText := true, laidKinds := [.data, .sentinel, .pinned], laidTests := true, laidLooks := .later }
def FnRawUptoCardSaid : Prop := Claim7.holds Tryd.pinned (.plain (OpenSpec.upto fnRawSpec)) fnRawUptoCard
end Rows
end Go.Proofs.YtdhdgjnpolghhaaDoor
