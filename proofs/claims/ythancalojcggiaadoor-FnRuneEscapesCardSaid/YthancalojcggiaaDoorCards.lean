/-
  DERIVED. GIVEN WITH THE SEED: THE CARDS: each row of YthancalojcggiaaDoorRows.lean that lists a variable, with what it lists TIED to the program's text (the seventh form; the later family's looks); each row that meets fmt, with fmt's text TOLD by the authors' own Lean function (tested against real Go, not proved from fmt's source: count such statements apart). THE CARD IS WHAT COUNTS. Prove the row's statement (the work); the ties are given (YthancalojcggiaaDoorTie.lean); close each card by the builder's one call (the guide's Derived/Test/ToyasCard.lean, 'card_holds'). Laid BY PROGRAM, IN A SANDBOX (cutbox-door.mjs). By AI agents, Wed Nov 11 2026. No macro, syntax, notation, axiom, sorry.
-/
import Derived.Test.YthancalojcggiaaDoorRows
import GoSem.ClaimSeven
namespace Go.Proofs.YthancalojcggiaaDoor
namespace Rows

/-- THE TIED CARD OF 'laws.FnUnquote'. -/
def fnUnquoteCard : Claim7 := { stood := { row := fnUnquoteRow, standIns := [], harness := (true, "6f1190e481996378f72db428dc898f1321acad456c2071b7d1888f9148fb6936"), looks := false }, kinds := [], alts := [], laidByText := true, laidKinds := [.data, .sentinel, .pinned], laidTests := true, laidLooks := .later }
def FnUnquoteCardSaid : Prop := Claim7.holds Tryd.pinned (.plain (OpenSpec.ofChange fnUnquoteSpec)) fnUnquoteCard

/-- THE TIED CARD OF 'laws.FnRuneEscapes'. -/
def fnRuneEscapesCard : Claim7 := { stood := { row := fnRuneEscapesRow, standIns := [], harness := (true, "6f1190e481996378f72db428dc898f1321acad456c2071b7d1888f9148fb6936"), looks := false }, kinds := [], alts := [], laidByText := true, laidKinds := [.data, .sentinel, .pinned], laidTests := true, laidLooks := .later }
def FnRuneEscapesCardSaid : Prop := Claim7.holds Tryd.pinned (.plain (OpenSpec.ofChange fnRuneEscapesSpec)) fnRuneEscapesCard

/-- THE TIED CARD OF 'laws.FnStepByStep'. -/
def fnStepByStepCard : Claim7 := { stood := { row := fnStepByStepRow, standIns := [], harness := (true, "6f1190e481996378f72db428dc898f1321acad456c2071b7d1888f9148fb6936"), looks := false }, kinds := [], alts := [], laidByText := true, laidKinds := [.data, .sentinel, .pinned], laidTests := true, laidLooks := .later }
def FnStepByStepCardSaid : Prop := Claim7.holds Tryd.pinned (.plain (OpenSpec.ofChange fnStepByStepSpec)) fnStepByStepCard

/-- THE TIED CARD OF 'laws.FnPrefixUnquotes'. -/
def fnPrefixUnquotesCard : Claim7 := { stood := { row := fnPrefixUnquotesRow, standIns := [], harness := (true, "6f1190e481996378f72db428dc898f1321acad456c2071b7d1888f9148fb6936"), looks := false }, kinds := [], alts := [], laidByText := true, laidKinds := [.data, .sentinel, .pinned], laidTests := true, laidLooks := .later }
def FnPrefixUnquotesCardSaid : Prop := Claim7.holds Tryd.pinned (.plain (OpenSpec.ofChange fnPrefixUnquotesSpec)) fnPrefixUnquotesCard

/-- THE TIED CARD OF 'laws.FnPrefixWhole'. -/
def fnPrefixWholeCard : Claim7 := { stood := { row := fnPrefixWholeRow, standIns := [], harness := (true, "6f1190e481996378f72db428dc898f1321acad456c2071b7d1888f9148fb6936"), looks := false }, kinds := [], alts := [], laidByText := true, laidKinds := [.data, .sentinel, .pinned], laidTests := true, laidLooks := .later }
def FnPrefixWholeCardSaid : Prop := Claim7.holds Tryd.pinned (.plain (OpenSpec.ofChange fnPrefixWholeSpec)) fnPrefixWholeCard

/-- THE SECOND FORM's CARD OF 'laws.FnUnquote'. -/
def fnUnquoteUptoCard : Claim7 := { stood := { row := fnUnquoteUptoRow, standIns := [], harness := (true, "6f1190e481996378f72db428dc898f1321acad456c2071b7d1888f9148fb6936"), looks := false }, kinds := [], alts := [], laidByText := true, laidKinds := [.data, .sentinel, .pinned], laidTests := true, laidLooks := .later }
def FnUnquoteUptoCardSaid : Prop := Claim7.holds Tryd.pinned (.plain (OpenSpec.upto fnUnquoteSpec)) fnUnquoteUptoCard

/-- THE SECOND FORM's CARD OF 'laws.FnRuneEscapes'. -/
def fnRuneEscapesUptoCard : Claim7 := { stood := { row := fnRuneEscapesUptoRow, standIns := [], harness := (true, "6f1190e481996378f72db428dc898f1321acad456c2071b7d1888f9148fb6936"), looks := false }, kinds := [], alts := [], laidByText := true, laidKinds := [.data, .sentinel, .pinned], laidTests := true, laidLooks := .later }
def FnRuneEscapesUptoCardSaid : Prop := Claim7.holds Tryd.pinned (.plain (OpenSpec.upto fnRuneEscapesSpec)) fnRuneEscapesUptoCard

/-- THE SECOND FORM's CARD OF 'laws.FnStepByStep'. -/
def fnStepByStepUptoCard : Claim7 := { stood := { row := fnStepByStepUptoRow, standIns := [], harness := (true, "6f1190e481996378f72db428dc898f1321acad456c2071b7d1888f9148fb6936"), looks := false }, kinds := [], alts := [], laidByText := true, laidKinds := [.data, .sentinel, .pinned], laidTests := true, laidLooks := .later }
def FnStepByStepUptoCardSaid : Prop := Claim7.holds Tryd.pinned (.plain (OpenSpec.upto fnStepByStepSpec)) fnStepByStepUptoCard

/-- THE SECOND FORM's CARD OF 'laws.FnPrefixUnquotes'. -/
def fnPrefixUnquotesUptoCard : Claim7 := { stood := { row := fnPrefixUnquotesUptoRow, standIns := [], harness := (true, "6f1190e481996378f72db428dc898f1321acad456c2071b7d1888f9148fb6936"), looks := false }, kinds := [], alts := [], laidByText := true, laidKinds := [.data, .sentinel, .pinned], laidTests := true, laidLooks := .later }
def FnPrefixUnquotesUptoCardSaid : Prop := Claim7.holds Tryd.pinned (.plain (OpenSpec.upto fnPrefixUnquotesSpec)) fnPrefixUnquotesUptoCard

/-- THE SECOND FORM's CARD OF 'laws.FnPrefixWhole'. -/
def fnPrefixWholeUptoCard : Claim7 := { stood := { row := fnPrefixWholeUptoRow, standIns := [], harness := (true, "6f1190e481996378f72db428dc898f1321acad456c2071b7d1888f9148fb6936"), looks := false }, kinds := [], alts := [], laidByText := true, laidKinds := [.data, .sentinel, .pinned], laidTests := true, laidLooks := .later }
def FnPrefixWholeUptoCardSaid : Prop := Claim7.holds Tryd.pinned (.plain (OpenSpec.upto fnPrefixWholeSpec)) fnPrefixWholeUptoCard
end Rows
end Go.Proofs.YthancalojcggiaaDoor
