/-
  DERIVED. GIVEN WITH THE SEED: THE CARDS: each row of YtbnginnbpppegaaDoorRows.lean that lists a variable, with what it lists TIED to the program's text (the seventh form; the later family's looks); each row that meets fmt, with fmt's text TOLD by the authors' own Lean function (tested against real Go, not proved from fmt's source: count such statements apart). THE CARD IS WHAT COUNTS. Prove the row's statement (the work); the ties are given (YtbnginnbpppegaaDoorTie.lean); close each card by the builder's one call (the guide's Derived/Test/ToyasCard.lean, 'card_holds'). Laid BY PROGRAM, IN A SANDBOX (cutbox-door.mjs). By AI agents, Wed Nov 11 2026. No macro, syntax, notation, axiom, sorry.
-/
import Derived.Test.YtbnginnbpppegaaDoorRows
import GoSem.ClaimSeven
namespace Go.Proofs.YtbnginnbpppegaaDoor
namespace Rows

/-- THE TIED CARD OF 'laws.FnQuotedPrefix'. -/
def fnQuotedPrefixCard : Claim7 := { stood := { row := fnQuotedPrefixRow, standIns := [], harness := (true, "b5e16301f215002e13d7011c0562282e37b82213c225ba91a48924db7dc31f83"), looks := false }, kinds := [], alts := [], laidByText := true, laidKinds := [.data, .sentinel, .pinned], laidTests := true, laidLooks := .later }
def FnQuotedPrefixCardSaid : Prop := Claim7.holds Tryd.pinned (.plain (OpenSpec.ofChange fnQuotedPrefixSpec)) fnQuotedPrefixCard

/-- THE TIED CARD OF 'laws.FnBehind'. -/
def fnBehindCard : Claim7 := { stood := { row := fnBehindRow, standIns := [], harness := (true, "b5e16301f215002e13d7011c0562282e37b82213c225ba91a48924db7dc31f83"), looks := false }, kinds := [], alts := [], laidByText := true, laidKinds := [.data, .sentinel, .pinned], laidTests := true, laidLooks := .later }
def FnBehindCardSaid : Prop := Claim7.holds Tryd.pinned (.plain (OpenSpec.ofChange fnBehindSpec)) fnBehindCard

/-- THE TIED CARD OF 'laws.FnCutShort'. -/
def fnCutShortCard : Claim7 := { stood := { row := fnCutShortRow, standIns := [], harness := (true, "b5e16301f215002e13d7011c0562282e37b82213c225ba91a48924db7dc31f83"), looks := false }, kinds := [], alts := [], laidByText := true, laidKinds := [.data, .sentinel, .pinned], laidTests := true, laidLooks := .later }
def FnCutShortCardSaid : Prop := Claim7.holds Tryd.pinned (.plain (OpenSpec.ofChange fnCutShortSpec)) fnCutShortCard

/-- THE TIED CARD OF 'laws.FnEscapedQuotes'. -/
def fnEscapedQuotesCard : Claim7 := { stood := { row := fnEscapedQuotesRow, standIns := [], harness := (true, "b5e16301f215002e13d7011c0562282e37b82213c225ba91a48924db7dc31f83"), looks := false }, kinds := [], alts := [], laidByText := true, laidKinds := [.data, .sentinel, .pinned], laidTests := true, laidLooks := .later }
def FnEscapedQuotesCardSaid : Prop := Claim7.holds Tryd.pinned (.plain (OpenSpec.ofChange fnEscapedQuotesSpec)) fnEscapedQuotesCard

/-- THE TIED CARD OF 'laws.FnOneCharacter'. -/
def fnOneCharacterCard : Claim7 := { stood := { row := fnOneCharacterRow, standIns := [], harness := (true, "b5e16301f215002e13d7011c0562282e37b82213c225ba91a48924db7dc31f83"), looks := false }, kinds := [], alts := [], laidByText := true, laidKinds := [.data, .sentinel, .pinned], laidTests := true, laidLooks := .later }
def FnOneCharacterCardSaid : Prop := Claim7.holds Tryd.pinned (.plain (OpenSpec.ofChange fnOneCharacterSpec)) fnOneCharacterCard

/-- THE TIED CARD OF 'laws.FnUnquote'. -/
def fnUnquoteCard : Claim7 := { stood := { row := fnUnquoteRow, standIns := [], harness := (true, "b5e16301f215002e13d7011c0562282e37b82213c225ba91a48924db7dc31f83"), looks := false }, kinds := [], alts := [], laidByText := true, laidKinds := [.data, .sentinel, .pinned], laidTests := true, laidLooks := .later }
def FnUnquoteCardSaid : Prop := Claim7.holds Tryd.pinned (.plain (OpenSpec.ofChange fnUnquoteSpec)) fnUnquoteCard

/-- THE TIED CARD OF 'laws.FnStepByStep'. -/
def fnStepByStepCard : Claim7 := { stood := { row := fnStepByStepRow, standIns := [], harness := (true, "b5e16301f215002e13d7011c0562282e37b82213c225ba91a48924db7dc31f83"), looks := false }, kinds := [], alts := [], laidByText := true, laidKinds := [.data, .sentinel, .pinned], laidTests := true, laidLooks := .later }
def FnStepByStepCardSaid : Prop := Claim7.holds Tryd.pinned (.plain (OpenSpec.ofChange fnStepByStepSpec)) fnStepByStepCard

/-- THE TIED CARD OF 'laws.FnPrefixUnquotes'. -/
def fnPrefixUnquotesCard : Claim7 := { stood := { row := fnPrefixUnquotesRow, standIns := [], harness := (true, "b5e16301f215002e13d7011c0562282e37b82213c225ba91a48924db7dc31f83"), looks := false }, kinds := [], alts := [], laidByText := true, laidKinds := [.data, .sentinel, .pinned], laidTests := true, laidLooks := .later }
def FnPrefixUnquotesCardSaid : Prop := Claim7.holds Tryd.pinned (.plain (OpenSpec.ofChange fnPrefixUnquotesSpec)) fnPrefixUnquotesCard

/-- THE TIED CARD OF 'laws.FnPrefixWhole'. -/
def fnPrefixWholeCard : Claim7 := { stood := { row := fnPrefixWholeRow, standIns := [], harness := (true, "b5e16301f215002e13d7011c0562282e37b82213c225ba91a48924db7dc31f83"), looks := false }, kinds := [], alts := [], laidByText := true, laidKinds := [.data, .sentinel, .pinned], laidTests := true, laidLooks := .later }
def FnPrefixWholeCardSaid : Prop := Claim7.holds Tryd.pinned (.plain (OpenSpec.ofChange fnPrefixWholeSpec)) fnPrefixWholeCard

/-- THE SECOND FORM's CARD OF 'laws.FnQuotedPrefix'. -/
def fnQuotedPrefixUptoCard : Claim7 := { stood := { row := fnQuotedPrefixUptoRow, standIns := [], harness := (true, "b5e16301f215002e13d7011c0562282e37b82213c225ba91a48924db7dc31f83"), looks := false }, kinds := [], alts := [], laidByText := true, laidKinds := [.data, .sentinel, .pinned], laidTests := true, laidLooks := .later }
def FnQuotedPrefixUptoCardSaid : Prop := Claim7.holds Tryd.pinned (.plain (OpenSpec.upto fnQuotedPrefixSpec)) fnQuotedPrefixUptoCard

/-- THE SECOND FORM's CARD OF 'laws.FnBehind'. -/
def fnBehindUptoCard : Claim7 := { stood := { row := fnBehindUptoRow, standIns := [], harness := (true, "b5e16301f215002e13d7011c0562282e37b82213c225ba91a48924db7dc31f83"), looks := false }, kinds := [], alts := [], laidByText := true, laidKinds := [.data, .sentinel, .pinned], laidTests := true, laidLooks := .later }
def FnBehindUptoCardSaid : Prop := Claim7.holds Tryd.pinned (.plain (OpenSpec.upto fnBehindSpec)) fnBehindUptoCard

/-- THE SECOND FORM's CARD OF 'laws.FnCutShort'. -/
def fnCutShortUptoCard : Claim7 := { stood := { row := fnCutShortUptoRow, standIns := [], harness := (true, "b5e16301f215002e13d7011c0562282e37b82213c225ba91a48924db7dc31f83"), looks := false }, kinds := [], alts := [], laidByText := true, laidKinds := [.data, .sentinel, .pinned], laidTests := true, laidLooks := .later }
def FnCutShortUptoCardSaid : Prop := Claim7.holds Tryd.pinned (.plain (OpenSpec.upto fnCutShortSpec)) fnCutShortUptoCard

/-- THE SECOND FORM's CARD OF 'laws.FnEscapedQuotes'. -/
def fnEscapedQuotesUptoCard : Claim7 := { stood := { row := fnEscapedQuotesUptoRow, standIns := [], harness := (true, "b5e16301f215002e13d7011c0562282e37b82213c225ba91a48924db7dc31f83"), looks := false }, kinds := [], alts := [], laidByText := true, laidKinds := [.data, .sentinel, .pinned], laidTests := true, laidLooks := .later }
def FnEscapedQuotesUptoCardSaid : Prop := Claim7.holds Tryd.pinned (.plain (OpenSpec.upto fnEscapedQuotesSpec)) fnEscapedQuotesUptoCard

/-- THE SECOND FORM's CARD OF 'laws.FnOneCharacter'. -/
def fnOneCharacterUptoCard : Claim7 := { stood := { row := fnOneCharacterUptoRow, standIns := [], harness := (true, "b5e16301f215002e13d7011c0562282e37b82213c225ba91a48924db7dc31f83"), looks := false }, kinds := [], alts := [], laidByText := true, laidKinds := [.data, .sentinel, .pinned], laidTests := true, laidLooks := .later }
def FnOneCharacterUptoCardSaid : Prop := Claim7.holds Tryd.pinned (.plain (OpenSpec.upto fnOneCharacterSpec)) fnOneCharacterUptoCard

/-- THE SECOND FORM's CARD OF 'laws.FnUnquote'. -/
def fnUnquoteUptoCard : Claim7 := { stood := { row := fnUnquoteUptoRow, standIns := [], harness := (true, "b5e16301f215002e13d7011c0562282e37b82213c225ba91a48924db7dc31f83"), looks := false }, kinds := [], alts := [], laidByText := true, laidKinds := [.data, .sentinel, .pinned], laidTests := true, laidLooks := .later }
def FnUnquoteUptoCardSaid : Prop := Claim7.holds Tryd.pinned (.plain (OpenSpec.upto fnUnquoteSpec)) fnUnquoteUptoCard

/-- THE SECOND FORM's CARD OF 'laws.FnStepByStep'. -/
def fnStepByStepUptoCard : Claim7 := { stood := { row := fnStepByStepUptoRow, standIns := [], harness := (true, "b5e16301f215002e13d7011c0562282e37b82213c225ba91a48924db7dc31f83"), looks := false }, kinds := [], alts := [], laidByText := true, laidKinds := [.data, .sentinel, .pinned], laidTests := true, laidLooks := .later }
def FnStepByStepUptoCardSaid : Prop := Claim7.holds Tryd.pinned (.plain (OpenSpec.upto fnStepByStepSpec)) fnStepByStepUptoCard

/-- THE SECOND FORM's CARD OF 'laws.FnPrefixUnquotes'. -/
def fnPrefixUnquotesUptoCard : Claim7 := { stood := { row := fnPrefixUnquotesUptoRow, standIns := [], harness := (true, "b5e16301f215002e13d7011c0562282e37b82213c225ba91a48924db7dc31f83"), looks := false }, kinds := [], alts := [], laidByText := true, laidKinds := [.data, .sentinel, .pinned], laidTests := true, laidLooks := .later }
def FnPrefixUnquotesUptoCardSaid : Prop := Claim7.holds Tryd.pinned (.plain (OpenSpec.upto fnPrefixUnquotesSpec)) fnPrefixUnquotesUptoCard

/-- THE SECOND FORM's CARD OF 'laws.FnPrefixWhole'. -/
def fnPrefixWholeUptoCard : Claim7 := { stood := { row := fnPrefixWholeUptoRow, standIns := [], harness := (true, "b5e16301f215002e13d7011c0562282e37b82213c225ba91a48924db7dc31f83"), looks := false }, kinds := [], alts := [], laidByText := true, laidKinds := [.data, .sentinel, .pinned], laidTests := true, laidLooks := .later }
def FnPrefixWholeUptoCardSaid : Prop := Claim7.holds Tryd.pinned (.plain (OpenSpec.upto fnPrefixWholeSpec)) fnPrefixWholeUptoCard
end Rows
end Go.Proofs.YtbnginnbpppegaaDoor
