/-
  DERIVED. GIVEN WITH THE SEED: THE CARDS: each row of YtidjchoneopmbaaDoorRows.lean that lists a variable, with what it lists TIED to the program's text (the seventh form; the later family's looks); each row that meets fmt, with fmt's text TOLD by the authors' own Lean function (tested against real Go, not proved from fmt's source: count such statements apart). THE CARD IS WHAT COUNTS. Prove the row's statement (the work); the ties are given (YtidjchoneopmbaaDoorTie.lean); close each card by the builder's one call (the guide's Derived/Test/ToyasCard.lean, 'card_holds'). Laid BY PROGRAM, IN A SANDBOX (cutbox-door.mjs). By AI agents, Wed Nov 11 2026. No macro, syntax, notation, axiom, sorry.
-/
import Derived.Test.YtidjchoneopmbaaDoorRows
import GoSem.ClaimSeven
namespace Go.Proofs.YtidjchoneopmbaaDoor
namespace Rows

/-- THE TIED CARD OF 'laws.FnCanBackquote'. -/
def fnCanBackquoteCard : Claim7 := { stood := { row := fnCanBackquoteRow, standIns := [], harness := (true, "dce07ce49f05799bd6be4f969c62e4b9aaf740c2fe39738a558af017221ae622"), looks := false }, kinds := [], alts := [], laidByText := true, laidKinds := [.data, .pinned], laidTests := true, laidLooks := .later }
def FnCanBackquoteCardSaid : Prop := Claim7.holds Tryd.pinned (.plain (OpenSpec.ofChange fnCanBackquoteSpec)) fnCanBackquoteCard

/-- THE TIED CARD OF 'laws.FnCanBoth'. -/
def fnCanBothCard : Claim7 := { stood := { row := fnCanBothRow, standIns := [], harness := (true, "dce07ce49f05799bd6be4f969c62e4b9aaf740c2fe39738a558af017221ae622"), looks := false }, kinds := [], alts := [], laidByText := true, laidKinds := [.data, .pinned], laidTests := true, laidLooks := .later }
def FnCanBothCardSaid : Prop := Claim7.holds Tryd.pinned (.plain (OpenSpec.ofChange fnCanBothSpec)) fnCanBothCard

/-- THE TIED CARD OF 'laws.FnQuoteArgument'. -/
def fnQuoteArgumentCard : Claim7 := { stood := { row := fnQuoteArgumentRow, standIns := [], harness := (true, "dce07ce49f05799bd6be4f969c62e4b9aaf740c2fe39738a558af017221ae622"), looks := false }, kinds := [], alts := [], laidByText := true, laidKinds := [.data, .sentinel, .pinned], laidTests := true, laidLooks := .later }
def FnQuoteArgumentCardSaid : Prop := Claim7.holds Tryd.pinned (.plain (OpenSpec.ofChange fnQuoteArgumentSpec)) fnQuoteArgumentCard

/-- THE TIED CARD OF 'laws.FnTail'. -/
def fnTailCard : Claim7 := { stood := { row := fnTailRow, standIns := [], harness := (true, "dce07ce49f05799bd6be4f969c62e4b9aaf740c2fe39738a558af017221ae622"), looks := false }, kinds := [], alts := [], laidByText := true, laidKinds := [.data, .sentinel, .pinned], laidTests := true, laidLooks := .later }
def FnTailCardSaid : Prop := Claim7.holds Tryd.pinned (.plain (OpenSpec.ofChange fnTailSpec)) fnTailCard

/-- THE TIED CARD OF 'laws.FnUnquoteChar'. -/
def fnUnquoteCharCard : Claim7 := { stood := { row := fnUnquoteCharRow, standIns := [], harness := (true, "dce07ce49f05799bd6be4f969c62e4b9aaf740c2fe39738a558af017221ae622"), looks := false }, kinds := [], alts := [], laidByText := true, laidKinds := [.data, .sentinel, .pinned], laidTests := true, laidLooks := .later }
def FnUnquoteCharCardSaid : Prop := Claim7.holds Tryd.pinned (.plain (OpenSpec.ofChange fnUnquoteCharSpec)) fnUnquoteCharCard

/-- THE TIED CARD OF 'laws.FnUnquoted'. -/
def fnUnquotedCard : Claim7 := { stood := { row := fnUnquotedRow, standIns := [], harness := (true, "dce07ce49f05799bd6be4f969c62e4b9aaf740c2fe39738a558af017221ae622"), looks := false }, kinds := [], alts := [], laidByText := true, laidKinds := [.data, .sentinel, .pinned], laidTests := true, laidLooks := .later }
def FnUnquotedCardSaid : Prop := Claim7.holds Tryd.pinned (.plain (OpenSpec.ofChange fnUnquotedSpec)) fnUnquotedCard

/-- THE TIED CARD OF 'laws.FnCanRaw'. -/
def fnCanRawCard : Claim7 := { stood := { row := fnCanRawRow, standIns := [], harness := (true, "dce07ce49f05799bd6be4f969c62e4b9aaf740c2fe39738a558af017221ae622"), looks := false }, kinds := [], alts := [], laidByText := true, laidKinds := [.data, .sentinel, .pinned], laidTests := true, laidLooks := .later }
def FnCanRawCardSaid : Prop := Claim7.holds Tryd.pinned (.plain (OpenSpec.ofChange fnCanRawSpec)) fnCanRawCard

/-- THE SECOND FORM's CARD OF 'laws.FnCanBackquote'. -/
def fnCanBackquoteUptoCard : Claim7 := { stood := { row := fnCanBackquoteUptoRow, standIns := [], harness := (true, "dce07ce49f05799bd6be4f969c62e4b9aaf740c2fe39738a558af017221ae622"), looks := false }, kinds := [], alts := [], laidByText := true, laidKinds := [.data, .pinned], laidTests := true, laidLooks := .later }
def FnCanBackquoteUptoCardSaid : Prop := Claim7.holds Tryd.pinned (.plain (OpenSpec.upto fnCanBackquoteSpec)) fnCanBackquoteUptoCard

/-- THE SECOND FORM's CARD OF 'laws.FnCanBoth'. -/
def fnCanBothUptoCard : Claim7 := { stood := { row := fnCanBothUptoRow, standIns := [], harness := (true, "dce07ce49f05799bd6be4f969c62e4b9aaf740c2fe39738a558af017221ae622"), looks := false }, kinds := [], alts := [], laidByText := true, laidKinds := [.data, .pinned], laidTests := true, laidLooks := .later }
def FnCanBothUptoCardSaid : Prop := Claim7.holds Tryd.pinned (.plain (OpenSpec.upto fnCanBothSpec)) fnCanBothUptoCard

/-- THE SECOND FORM's CARD OF 'laws.FnQuoteArgument'. -/
def fnQuoteArgumentUptoCard : Claim7 := { stood := { row := fnQuoteArgumentUptoRow, standIns := [], harness := (true, "dce07ce49f05799bd6be4f969c62e4b9aaf740c2fe39738a558af017221ae622"), looks := false }, kinds := [], alts := [], laidByText := true, laidKinds := [.data, .sentinel, .pinned], laidTests := true, laidLooks := .later }
def FnQuoteArgumentUptoCardSaid : Prop := Claim7.holds Tryd.pinned (.plain (OpenSpec.upto fnQuoteArgumentSpec)) fnQuoteArgumentUptoCard

/-- THE SECOND FORM's CARD OF 'laws.FnTail'. -/
def fnTailUptoCard : Claim7 := { stood := { row := fnTailUptoRow, standIns := [], harness := (true, "dce07ce49f05799bd6be4f969c62e4b9aaf740c2fe39738a558af017221ae622"), looks := false }, kinds := [], alts := [], laidByText := true, laidKinds := [.data, .sentinel, .pinned], laidTests := true, laidLooks := .later }
def FnTailUptoCardSaid : Prop := Claim7.holds Tryd.pinned (.plain (OpenSpec.upto fnTailSpec)) fnTailUptoCard

/-- THE SECOND FORM's CARD OF 'laws.FnUnquoteChar'. -/
def fnUnquoteCharUptoCard : Claim7 := { stood := { row := fnUnquoteCharUptoRow, standIns := [], harness := (true, "dce07ce49f05799bd6be4f969c62e4b9aaf740c2fe39738a558af017221ae622"), looks := false }, kinds := [], alts := [], laidByText := true, laidKinds := [.data, .sentinel, .pinned], laidTests := true, laidLooks := .later }
def FnUnquoteCharUptoCardSaid : Prop := Claim7.holds Tryd.pinned (.plain (OpenSpec.upto fnUnquoteCharSpec)) fnUnquoteCharUptoCard

/-- THE SECOND FORM's CARD OF 'laws.FnUnquoted'. -/
def fnUnquotedUptoCard : Claim7 := { stood := { row := fnUnquotedUptoRow, standIns := [], harness := (true, "dce07ce49f05799bd6be4f969c62e4b9aaf740c2fe39738a558af017221ae622"), looks := false }, kinds := [], alts := [], laidByText := true, laidKinds := [.data, .sentinel, .pinned], laidTests := true, laidLooks := .later }
def FnUnquotedUptoCardSaid : Prop := Claim7.holds Tryd.pinned (.plain (OpenSpec.upto fnUnquotedSpec)) fnUnquotedUptoCard

/-- THE SECOND FORM's CARD OF 'laws.FnCanRaw'. -/
def fnCanRawUptoCard : Claim7 := { stood := { row := fnCanRawUptoRow, standIns := [], harness := (true, "dce07ce49f05799bd6be4f969c62e4b9aaf740c2fe39738a558af017221ae622"), looks := false }, kinds := [], alts := [], laidByText := true, laidKinds := [.data, .sentinel, .pinned], laidTests := true, laidLooks := .later }
def FnCanRawUptoCardSaid : Prop := Claim7.holds Tryd.pinned (.plain (OpenSpec.upto fnCanRawSpec)) fnCanRawUptoCard
end Rows
end Go.Proofs.YtidjchoneopmbaaDoor
