/-
  NARROWER THAN 'FOR EVERY INPUT', by the rows' own cells (each row's printed sentence says how): FnQuotedPrefix: laid · FnBehind: laid · FnCutShort: laid · FnEscapedQuotes: laid · FnOneCharacter: laid · FnUnquote: laid · FnStepByStep: laid · FnPrefixUnquotes: laid · FnPrefixWhole: laid.
  DERIVED. THE GIVEN ROWS OF THIS SEAT. 9 by the template 'for every input the law returns true; each argument reads behind the call as it read before'; 0 by the template 'total and deterministic' (their statements: YtbnginnbpppegaaDoorTotals.lean).
  GIVEN WITH THE SEED: the statements are not yours to turn. If you find one false, say at which input.
  Laid BY PROGRAM, IN A SANDBOX (cutbox-rows.mjs): the forced cells as the released guide's own fill.sh prints them over the translation a1dc951c150ff6cd… (all of the seat's roots in one cut). By AI agents, Wed Nov 11 2026. No macro, syntax, notation, axiom, sorry.
-/
import Derived.Test.YtbnginnbpppegaaDoorChecked
import GoSem.PinnedTables
import GoSem.Claim
import GoSem.ClaimJoined
import GoSem.ClaimMapViews
import Derived.JoinedTies
import Derived.KernelRfl
namespace Go.Proofs.YtbnginnbpppegaaDoor
/- THE CELL 'sum', in the pinned program and in every row, IS THE sha256 OF THE DUMP (.gsa) THAT YtbnginnbpppegaaDoorProg.lean LOADS. Nothing in Lean hashes anything: it is a label: what it is worth is what the hold of that sum in a sandbox is worth. -/
noncomputable def Tryd.pinned : Pinned := { name := "ytbnginnbpppegaadoor", sum := "a1dc951c150ff6cd4a42a231421491e16f16d66491f89368dc587d7a95e8da39", checked := Tryd.checked }
namespace Rows
def none {H : Type} : Left H := { results := [], args := [] }

/- WHAT THE LISTED PACKAGE-LEVEL VARIABLES READ AS WHEN THE CALL BEGINS. Each datum BY PROGRAM (the guide's laid-datum.mjs) off the statement by which the dump's own 'gosem.cut.vars' lays the variable. In a bare row this is a premise. The card (YtbnginnbpppegaaDoorCards.lean) ties it to the program's text. -/
def laid_unicode_utf8_acceptRanges {H : Type} : DataW H := .agg [.agg [.lit (.int .u8 128), .lit (.int .u8 191)], .agg [.lit (.int .u8 160), .lit (.int .u8 191)], .agg [.lit (.int .u8 128), .lit (.int .u8 159)], .agg [.lit (.int .u8 144), .lit (.int .u8 191)], .agg [.lit (.int .u8 128), .lit (.int .u8 143)], .agg [.lit (.int .u8 0), .lit (.int .u8 0)], .agg [.lit (.int .u8 0), .lit (.int .u8 0)], .agg [.lit (.int .u8 0), .lit (.int .u8 0)], .agg [.lit (.int .u8 0), .lit (.int .u8 0)], .agg [.lit (.int .u8 0), .lit (.int .u8 0)], .agg [.lit (.int .u8 0), .lit (.int .u8 0)], .agg [.lit (.int .u8 0), .lit (.int .u8 0)], .agg [.lit (.int .u8 0), .lit (.int .u8 0)], .agg [.lit (.int .u8 0), .lit (.int .u8 0)], .agg [.lit (.int .u8 0), .lit (.int .u8 0)], .agg [.lit (.int .u8 0), .lit (.int .u8 0)]]
def laid_strconv_ErrSyntax {H : Type} : DataW H := .iface "*errors.errorString" (.ptr (.agg [.lit (.string [105, 110, 118, 97, 108, 105, 100, 32, 115, 121, 110, 116, 97, 120])]))
/-- One of Go's own tables, pinned by name: the form's constant. -/
def laid_unicode_utf8_first : DataW Unit := Go.Pinned.utf8First

/-- 'laws.FnQuotedPrefix': WHATEVER THE INPUT: true; the input reads as it did. -/
def fnQuotedPrefixSpec : ChangeSpec := { name := "fnQuotedPrefix", fn := fun _ => fun
  | [d] => { results := [.lit (.bool true)], args := [d] }
  | _ => none }
def fnQuotedPrefixRow : OpenClaim := { program := "ytbnginnbpppegaadoor", sum := "a1dc951c150ff6cd4a42a231421491e16f16d66491f89368dc587d7a95e8da39", func := "loop.example/lib-g03217/laws.FnQuotedPrefix", spec := "fnQuotedPrefix", inPlace := ["internal/bytealg.IndexByteString"], named := ["strconv.ErrSyntax", "unicode/utf8.first", "unicode/utf8.acceptRanges"], apart := false, laid := [("unicode/utf8.acceptRanges", laid_unicode_utf8_acceptRanges), ("strconv.ErrSyntax", laid_strconv_ErrSyntax), ("unicode/utf8.first", laid_unicode_utf8_first)] }
def FnQuotedPrefixSaid : Prop := fnQuotedPrefixRow.holds Tryd.pinned (OpenSpec.ofChange fnQuotedPrefixSpec)

/-- ITS FALSE NEIGHBOUR: 'it returns false'. Refute it at one input. -/
def fnQuotedPrefixWrong : ChangeSpec := { name := "fnQuotedPrefix", fn := fun _ => fun
  | [d] => { results := [.lit (.bool false)], args := [d] }
  | _ => none }
def FnQuotedPrefixWrongFalsely : Prop := fnQuotedPrefixRow.holds Tryd.pinned (OpenSpec.ofChange fnQuotedPrefixWrong)

/-- 'laws.FnBehind': WHATEVER THE INPUT: true; the input reads as it did. -/
def fnBehindSpec : ChangeSpec := { name := "fnBehind", fn := fun _ => fun
  | [d1, d2] => { results := [.lit (.bool true)], args := [d1, d2] }
  | _ => none }
def fnBehindRow : OpenClaim := { program := "ytbnginnbpppegaadoor", sum := "a1dc951c150ff6cd4a42a231421491e16f16d66491f89368dc587d7a95e8da39", func := "loop.example/lib-g03217/laws.FnBehind", spec := "fnBehind", inPlace := ["internal/bytealg.IndexByteString"], named := ["strconv.ErrSyntax", "unicode/utf8.first", "unicode/utf8.acceptRanges"], apart := false, laid := [("unicode/utf8.acceptRanges", laid_unicode_utf8_acceptRanges), ("strconv.ErrSyntax", laid_strconv_ErrSyntax), ("unicode/utf8.first", laid_unicode_utf8_first)] }
def FnBehindSaid : Prop := fnBehindRow.holds Tryd.pinned (OpenSpec.ofChange fnBehindSpec)

/-- ITS FALSE NEIGHBOUR: 'it returns false'. Refute it at one input. -/
def fnBehindWrong : ChangeSpec := { name := "fnBehind", fn := fun _ => fun
  | [d1, d2] => { results := [.lit (.bool false)], args := [d1, d2] }
  | _ => none }
def FnBehindWrongFalsely : Prop := fnBehindRow.holds Tryd.pinned (OpenSpec.ofChange fnBehindWrong)

/-- 'laws.FnCutShort': WHATEVER THE INPUT: true; the input reads as it did. -/
def fnCutShortSpec : ChangeSpec := { name := "fnCutShort", fn := fun _ => fun
  | [d] => { results := [.lit (.bool true)], args := [d] }
  | _ => none }
def fnCutShortRow : OpenClaim := { program := "ytbnginnbpppegaadoor", sum := "a1dc951c150ff6cd4a42a231421491e16f16d66491f89368dc587d7a95e8da39", func := "loop.example/lib-g03217/laws.FnCutShort", spec := "fnCutShort", inPlace := ["internal/bytealg.IndexByteString"], named := ["strconv.ErrSyntax", "unicode/utf8.first", "unicode/utf8.acceptRanges"], apart := false, laid := [("unicode/utf8.acceptRanges", laid_unicode_utf8_acceptRanges), ("strconv.ErrSyntax", laid_strconv_ErrSyntax), ("unicode/utf8.first", laid_unicode_utf8_first)] }
def FnCutShortSaid : Prop := fnCutShortRow.holds Tryd.pinned (OpenSpec.ofChange fnCutShortSpec)

/-- ITS FALSE NEIGHBOUR: 'it returns false'. Refute it at one input. -/
def fnCutShortWrong : ChangeSpec := { name := "fnCutShort", fn := fun _ => fun
  | [d] => { results := [.lit (.bool false)], args := [d] }
  | _ => none }
def FnCutShortWrongFalsely : Prop := fnCutShortRow.holds Tryd.pinned (OpenSpec.ofChange fnCutShortWrong)

/-- 'laws.FnEscapedQuotes': WHATEVER THE INPUT: true; the input reads as it did. -/
def fnEscapedQuotesSpec : ChangeSpec := { name := "fnEscapedQuotes", fn := fun _ => fun
  | [d] => { results := [.lit (.bool true)], args := [d] }
  | _ => none }
def fnEscapedQuotesRow : OpenClaim := { program := "ytbnginnbpppegaadoor", sum := "a1dc951c150ff6cd4a42a231421491e16f16d66491f89368dc587d7a95e8da39", func := "loop.example/lib-g03217/laws.FnEscapedQuotes", spec := "fnEscapedQuotes", inPlace := ["internal/bytealg.IndexByteString"], named := ["strconv.ErrSyntax", "unicode/utf8.first", "unicode/utf8.acceptRanges"], apart := false, laid := [("unicode/utf8.acceptRanges", laid_unicode_utf8_acceptRanges), ("strconv.ErrSyntax", laid_strconv_ErrSyntax), ("unicode/utf8.first", laid_unicode_utf8_first)] }
def FnEscapedQuotesSaid : Prop := fnEscapedQuotesRow.holds Tryd.pinned (OpenSpec.ofChange fnEscapedQuotesSpec)

/-- ITS FALSE NEIGHBOUR: 'it returns false'. Refute it at one input. -/
def fnEscapedQuotesWrong : ChangeSpec := { name := "fnEscapedQuotes", fn := fun _ => fun
  | [d] => { results := [.lit (.bool false)], args := [d] }
  | _ => none }
def FnEscapedQuotesWrongFalsely : Prop := fnEscapedQuotesRow.holds Tryd.pinned (OpenSpec.ofChange fnEscapedQuotesWrong)

/-- 'laws.FnOneCharacter': WHATEVER THE INPUT: true; the input reads as it did. -/
def fnOneCharacterSpec : ChangeSpec := { name := "fnOneCharacter", fn := fun _ => fun
  | [d] => { results := [.lit (.bool true)], args := [d] }
  | _ => none }
def fnOneCharacterRow : OpenClaim := { program := "ytbnginnbpppegaadoor", sum := "a1dc951c150ff6cd4a42a231421491e16f16d66491f89368dc587d7a95e8da39", func := "loop.example/lib-g03217/laws.FnOneCharacter", spec := "fnOneCharacter", inPlace := ["internal/bytealg.IndexByteString"], named := ["strconv.ErrSyntax", "unicode/utf8.first", "unicode/utf8.acceptRanges"], apart := false, laid := [("unicode/utf8.acceptRanges", laid_unicode_utf8_acceptRanges), ("strconv.ErrSyntax", laid_strconv_ErrSyntax), ("unicode/utf8.first", laid_unicode_utf8_first)] }
def FnOneCharacterSaid : Prop := fnOneCharacterRow.holds Tryd.pinned (OpenSpec.ofChange fnOneCharacterSpec)

/-- ITS FALSE NEIGHBOUR: 'it returns false'. Refute it at one input. -/
def fnOneCharacterWrong : ChangeSpec := { name := "fnOneCharacter", fn := fun _ => fun
  | [d] => { results := [.lit (.bool false)], args := [d] }
  | _ => none }
def FnOneCharacterWrongFalsely : Prop := fnOneCharacterRow.holds Tryd.pinned (OpenSpec.ofChange fnOneCharacterWrong)

/-- 'laws.FnUnquote': WHATEVER THE INPUT: true; the input reads as it did. -/
def fnUnquoteSpec : ChangeSpec := { name := "fnUnquote", fn := fun _ => fun
  | [d] => { results := [.lit (.bool true)], args := [d] }
  | _ => none }
def fnUnquoteRow : OpenClaim := { program := "ytbnginnbpppegaadoor", sum := "a1dc951c150ff6cd4a42a231421491e16f16d66491f89368dc587d7a95e8da39", func := "loop.example/lib-g03217/laws.FnUnquote", spec := "fnUnquote", inPlace := ["internal/bytealg.IndexByteString"], named := ["strconv.ErrSyntax", "unicode/utf8.first", "unicode/utf8.acceptRanges"], apart := false, laid := [("unicode/utf8.acceptRanges", laid_unicode_utf8_acceptRanges), ("strconv.ErrSyntax", laid_strconv_ErrSyntax), ("unicode/utf8.first", laid_unicode_utf8_first)] }
def FnUnquoteSaid : Prop := fnUnquoteRow.holds Tryd.pinned (OpenSpec.ofChange fnUnquoteSpec)

/-- ITS FALSE NEIGHBOUR: 'it returns false'. Refute it at one input. -/
def fnUnquoteWrong : ChangeSpec := { name := "fnUnquote", fn := fun _ => fun
  | [d] => { results := [.lit (.bool false)], args := [d] }
  | _ => none }
def FnUnquoteWrongFalsely : Prop := fnUnquoteRow.holds Tryd.pinned (OpenSpec.ofChange fnUnquoteWrong)

/-- 'laws.FnStepByStep': WHATEVER THE INPUT: true; the input reads as it did. -/
def fnStepByStepSpec : ChangeSpec := { name := "fnStepByStep", fn := fun _ => fun
  | [d] => { results := [.lit (.bool true)], args := [d] }
  | _ => none }
def fnStepByStepRow : OpenClaim := { program := "ytbnginnbpppegaadoor", sum := "a1dc951c150ff6cd4a42a231421491e16f16d66491f89368dc587d7a95e8da39", func := "loop.example/lib-g03217/laws.FnStepByStep", spec := "fnStepByStep", inPlace := ["internal/bytealg.IndexByteString"], named := ["strconv.ErrSyntax", "unicode/utf8.first", "unicode/utf8.acceptRanges"], apart := false, laid := [("unicode/utf8.acceptRanges", laid_unicode_utf8_acceptRanges), ("strconv.ErrSyntax", laid_strconv_ErrSyntax), ("unicode/utf8.first", laid_unicode_utf8_first)] }
def FnStepByStepSaid : Prop := fnStepByStepRow.holds Tryd.pinned (OpenSpec.ofChange fnStepByStepSpec)

/-- ITS FALSE NEIGHBOUR: 'it returns false'. Refute it at one input. -/
def fnStepByStepWrong : ChangeSpec := { name := "fnStepByStep", fn := fun _ => fun
  | [d] => { results := [.lit (.bool false)], args := [d] }
  | _ => none }
def FnStepByStepWrongFalsely : Prop := fnStepByStepRow.holds Tryd.pinned (OpenSpec.ofChange fnStepByStepWrong)

/-- 'laws.FnPrefixUnquotes': WHATEVER THE INPUT: true; the input reads as it did. -/
def fnPrefixUnquotesSpec : ChangeSpec := { name := "fnPrefixUnquotes", fn := fun _ => fun
  | [d] => { results := [.lit (.bool true)], args := [d] }
  | _ => none }
def fnPrefixUnquotesRow : OpenClaim := { program := "ytbnginnbpppegaadoor", sum := "a1dc951c150ff6cd4a42a231421491e16f16d66491f89368dc587d7a95e8da39", func := "loop.example/lib-g03217/laws.FnPrefixUnquotes", spec := "fnPrefixUnquotes", inPlace := ["internal/bytealg.IndexByteString"], named := ["strconv.ErrSyntax", "unicode/utf8.first", "unicode/utf8.acceptRanges"], apart := false, laid := [("unicode/utf8.acceptRanges", laid_unicode_utf8_acceptRanges), ("strconv.ErrSyntax", laid_strconv_ErrSyntax), ("unicode/utf8.first", laid_unicode_utf8_first)] }
def FnPrefixUnquotesSaid : Prop := fnPrefixUnquotesRow.holds Tryd.pinned (OpenSpec.ofChange fnPrefixUnquotesSpec)

/-- ITS FALSE NEIGHBOUR: 'it returns false'. Refute it at one input. -/
def fnPrefixUnquotesWrong : ChangeSpec := { name := "fnPrefixUnquotes", fn := fun _ => fun
  | [d] => { results := [.lit (.bool false)], args := [d] }
  | _ => none }
def FnPrefixUnquotesWrongFalsely : Prop := fnPrefixUnquotesRow.holds Tryd.pinned (OpenSpec.ofChange fnPrefixUnquotesWrong)

/-- 'laws.FnPrefixWhole': WHATEVER THE INPUT: true; the input reads as it did. -/
def fnPrefixWholeSpec : ChangeSpec := { name := "fnPrefixWhole", fn := fun _ => fun
  | [d1, d2] => { results := [.lit (.bool true)], args := [d1, d2] }
  | _ => none }
def fnPrefixWholeRow : OpenClaim := { program := "ytbnginnbpppegaadoor", sum := "a1dc951c150ff6cd4a42a231421491e16f16d66491f89368dc587d7a95e8da39", func := "loop.example/lib-g03217/laws.FnPrefixWhole", spec := "fnPrefixWhole", inPlace := ["internal/bytealg.IndexByteString"], named := ["strconv.ErrSyntax", "unicode/utf8.first", "unicode/utf8.acceptRanges"], apart := false, laid := [("unicode/utf8.acceptRanges", laid_unicode_utf8_acceptRanges), ("strconv.ErrSyntax", laid_strconv_ErrSyntax), ("unicode/utf8.first", laid_unicode_utf8_first)] }
def FnPrefixWholeSaid : Prop := fnPrefixWholeRow.holds Tryd.pinned (OpenSpec.ofChange fnPrefixWholeSpec)

/-- ITS FALSE NEIGHBOUR: 'it returns false'. Refute it at one input. -/
def fnPrefixWholeWrong : ChangeSpec := { name := "fnPrefixWhole", fn := fun _ => fun
  | [d1, d2] => { results := [.lit (.bool false)], args := [d1, d2] }
  | _ => none }
def FnPrefixWholeWrongFalsely : Prop := fnPrefixWholeRow.holds Tryd.pinned (OpenSpec.ofChange fnPrefixWholeWrong)

/- THE SECOND FORM. 'bulk': how many values and letters a reading holds, each counted each time it is reached (what is shared counts as often as it is met; a slice's spare places count too). A statement '..UptoSaid' is the law's where the arguments, and the package variables that the reading takes, are together of bulk at most 1048576: NARROWER than '..Said'. Prove '..Said' where nothing that the law and all that it calls make is longer than what came in: it says more and counts as full. Else prove '..UptoSaid'. A law counts once. -/
mutual
def uptoBulk {H : Type} : DataW H → Nat
  | .lit (.string bytes) => bytes.length + 1
  | .lit _ => 1
  | .nil => 1
  | .ptr d => uptoBulk d + 1
  | .slice elems spare => uptoBulkAll elems + uptoBulkAll spare + 1
  | .agg parts => uptoBulkAll parts + 1
  | .iface _ d => uptoBulk d + 1
  | .map entries => uptoBulkEntries entries + 1
  | .held _ => 1
def uptoBulkAll {H : Type} : List (DataW H) → Nat
  | [] => 0
  | d :: r => uptoBulk d + uptoBulkAll r
def uptoBulkEntries {H : Type} : List (Lit × DataW H) → Nat
  | [] => 0
  | x :: r => uptoBulkEntry x + uptoBulkEntries r
def uptoBulkEntry {H : Type} : Lit × DataW H → Nat
  | (.string bytes, d) => bytes.length + uptoBulk d + 1
  | (_, d) => uptoBulk d + 1
 end
def uptoSmall : (H : Type) → List (DataW H) → Bool := fun _ ds => decide (uptoBulkAll ds ≤ 1048576)
def OpenSpec.upto (s : _root_.Go.ChangeSpec) : _root_.Go.OpenSpec := { _root_.Go.OpenSpec.ofChange s with cond := some uptoSmall }

/-- 'laws.FnQuotedPrefix', WHERE WHAT IT READS IS OF BULK AT MOST 1048576: true; the input reads as it did. -/
def fnQuotedPrefixUptoRow : OpenClaim := { program := "ytbnginnbpppegaadoor", sum := "a1dc951c150ff6cd4a42a231421491e16f16d66491f89368dc587d7a95e8da39", func := "loop.example/lib-g03217/laws.FnQuotedPrefix", spec := "fnQuotedPrefix", inPlace := ["internal/bytealg.IndexByteString"], named := ["strconv.ErrSyntax", "unicode/utf8.first", "unicode/utf8.acceptRanges"], apart := false, laid := [("unicode/utf8.acceptRanges", laid_unicode_utf8_acceptRanges), ("strconv.ErrSyntax", laid_strconv_ErrSyntax), ("unicode/utf8.first", laid_unicode_utf8_first)], narrowed := true }
def FnQuotedPrefixUptoSaid : Prop := fnQuotedPrefixUptoRow.holds Tryd.pinned (OpenSpec.upto fnQuotedPrefixSpec)

/-- 'laws.FnBehind', WHERE WHAT IT READS IS OF BULK AT MOST 1048576: true; the input reads as it did. -/
def fnBehindUptoRow : OpenClaim := { program := "ytbnginnbpppegaadoor", sum := "a1dc951c150ff6cd4a42a231421491e16f16d66491f89368dc587d7a95e8da39", func := "loop.example/lib-g03217/laws.FnBehind", spec := "fnBehind", inPlace := ["internal/bytealg.IndexByteString"], named := ["strconv.ErrSyntax", "unicode/utf8.first", "unicode/utf8.acceptRanges"], apart := false, laid := [("unicode/utf8.acceptRanges", laid_unicode_utf8_acceptRanges), ("strconv.ErrSyntax", laid_strconv_ErrSyntax), ("unicode/utf8.first", laid_unicode_utf8_first)], narrowed := true }
def FnBehindUptoSaid : Prop := fnBehindUptoRow.holds Tryd.pinned (OpenSpec.upto fnBehindSpec)

/-- 'laws.FnCutShort', WHERE WHAT IT READS IS OF BULK AT MOST 1048576: true; the input reads as it did. -/
def fnCutShortUptoRow : OpenClaim := { program := "ytbnginnbpppegaadoor", sum := "a1dc951c150ff6cd4a42a231421491e16f16d66491f89368dc587d7a95e8da39", func := "loop.example/lib-g03217/laws.FnCutShort", spec := "fnCutShort", inPlace := ["internal/bytealg.IndexByteString"], named := ["strconv.ErrSyntax", "unicode/utf8.first", "unicode/utf8.acceptRanges"], apart := false, laid := [("unicode/utf8.acceptRanges", laid_unicode_utf8_acceptRanges), ("strconv.ErrSyntax", laid_strconv_ErrSyntax), ("unicode/utf8.first", laid_unicode_utf8_first)], narrowed := true }
def FnCutShortUptoSaid : Prop := fnCutShortUptoRow.holds Tryd.pinned (OpenSpec.upto fnCutShortSpec)

/-- 'laws.FnEscapedQuotes', WHERE WHAT IT READS IS OF BULK AT MOST 1048576: true; the input reads as it did. -/
def fnEscapedQuotesUptoRow : OpenClaim := { program := "ytbnginnbpppegaadoor", sum := "a1dc951c150ff6cd4a42a231421491e16f16d66491f89368dc587d7a95e8da39", func := "loop.example/lib-g03217/laws.FnEscapedQuotes", spec := "fnEscapedQuotes", inPlace := ["internal/bytealg.IndexByteString"], named := ["strconv.ErrSyntax", "unicode/utf8.first", "unicode/utf8.acceptRanges"], apart := false, laid := [("unicode/utf8.acceptRanges", laid_unicode_utf8_acceptRanges), ("strconv.ErrSyntax", laid_strconv_ErrSyntax), ("unicode/utf8.first", laid_unicode_utf8_first)], narrowed := true }
def FnEscapedQuotesUptoSaid : Prop := fnEscapedQuotesUptoRow.holds Tryd.pinned (OpenSpec.upto fnEscapedQuotesSpec)

/-- 'laws.FnOneCharacter', WHERE WHAT IT READS IS OF BULK AT MOST 1048576: true; the input reads as it did. -/
def fnOneCharacterUptoRow : OpenClaim := { program := "ytbnginnbpppegaadoor", sum := "a1dc951c150ff6cd4a42a231421491e16f16d66491f89368dc587d7a95e8da39", func := "loop.example/lib-g03217/laws.FnOneCharacter", spec := "fnOneCharacter", inPlace := ["internal/bytealg.IndexByteString"], named := ["strconv.ErrSyntax", "unicode/utf8.first", "unicode/utf8.acceptRanges"], apart := false, laid := [("unicode/utf8.acceptRanges", laid_unicode_utf8_acceptRanges), ("strconv.ErrSyntax", laid_strconv_ErrSyntax), ("unicode/utf8.first", laid_unicode_utf8_first)], narrowed := true }
def FnOneCharacterUptoSaid : Prop := fnOneCharacterUptoRow.holds Tryd.pinned (OpenSpec.upto fnOneCharacterSpec)

/-- 'laws.FnUnquote', WHERE WHAT IT READS IS OF BULK AT MOST 1048576: true; the input reads as it did. -/
def fnUnquoteUptoRow : OpenClaim := { program := "ytbnginnbpppegaadoor", sum := "a1dc951c150ff6cd4a42a231421491e16f16d66491f89368dc587d7a95e8da39", func := "loop.example/lib-g03217/laws.FnUnquote", spec := "fnUnquote", inPlace := ["internal/bytealg.IndexByteString"], named := ["strconv.ErrSyntax", "unicode/utf8.first", "unicode/utf8.acceptRanges"], apart := false, laid := [("unicode/utf8.acceptRanges", laid_unicode_utf8_acceptRanges), ("strconv.ErrSyntax", laid_strconv_ErrSyntax), ("unicode/utf8.first", laid_unicode_utf8_first)], narrowed := true }
def FnUnquoteUptoSaid : Prop := fnUnquoteUptoRow.holds Tryd.pinned (OpenSpec.upto fnUnquoteSpec)

/-- 'laws.FnStepByStep', WHERE WHAT IT READS IS OF BULK AT MOST 1048576: true; the input reads as it did. -/
def fnStepByStepUptoRow : OpenClaim := { program := "ytbnginnbpppegaadoor", sum := "a1dc951c150ff6cd4a42a231421491e16f16d66491f89368dc587d7a95e8da39", func := "loop.example/lib-g03217/laws.FnStepByStep", spec := "fnStepByStep", inPlace := ["internal/bytealg.IndexByteString"], named := ["strconv.ErrSyntax", "unicode/utf8.first", "unicode/utf8.acceptRanges"], apart := false, laid := [("unicode/utf8.acceptRanges", laid_unicode_utf8_acceptRanges), ("strconv.ErrSyntax", laid_strconv_ErrSyntax), ("unicode/utf8.first", laid_unicode_utf8_first)], narrowed := true }
def FnStepByStepUptoSaid : Prop := fnStepByStepUptoRow.holds Tryd.pinned (OpenSpec.upto fnStepByStepSpec)

/-- 'laws.FnPrefixUnquotes', WHERE WHAT IT READS IS OF BULK AT MOST 1048576: true; the input reads as it did. -/
def fnPrefixUnquotesUptoRow : OpenClaim := { program := "ytbnginnbpppegaadoor", sum := "a1dc951c150ff6cd4a42a231421491e16f16d66491f89368dc587d7a95e8da39", func := "loop.example/lib-g03217/laws.FnPrefixUnquotes", spec := "fnPrefixUnquotes", inPlace := ["internal/bytealg.IndexByteString"], named := ["strconv.ErrSyntax", "unicode/utf8.first", "unicode/utf8.acceptRanges"], apart := false, laid := [("unicode/utf8.acceptRanges", laid_unicode_utf8_acceptRanges), ("strconv.ErrSyntax", laid_strconv_ErrSyntax), ("unicode/utf8.first", laid_unicode_utf8_first)], narrowed := true }
def FnPrefixUnquotesUptoSaid : Prop := fnPrefixUnquotesUptoRow.holds Tryd.pinned (OpenSpec.upto fnPrefixUnquotesSpec)

/-- 'laws.FnPrefixWhole', WHERE WHAT IT READS IS OF BULK AT MOST 1048576: true; the input reads as it did. -/
def fnPrefixWholeUptoRow : OpenClaim := { program := "ytbnginnbpppegaadoor", sum := "a1dc951c150ff6cd4a42a231421491e16f16d66491f89368dc587d7a95e8da39", func := "loop.example/lib-g03217/laws.FnPrefixWhole", spec := "fnPrefixWhole", inPlace := ["internal/bytealg.IndexByteString"], named := ["strconv.ErrSyntax", "unicode/utf8.first", "unicode/utf8.acceptRanges"], apart := false, laid := [("unicode/utf8.acceptRanges", laid_unicode_utf8_acceptRanges), ("strconv.ErrSyntax", laid_strconv_ErrSyntax), ("unicode/utf8.first", laid_unicode_utf8_first)], narrowed := true }
def FnPrefixWholeUptoSaid : Prop := fnPrefixWholeUptoRow.holds Tryd.pinned (OpenSpec.upto fnPrefixWholeSpec)

end Rows
end Go.Proofs.YtbnginnbpppegaaDoor
