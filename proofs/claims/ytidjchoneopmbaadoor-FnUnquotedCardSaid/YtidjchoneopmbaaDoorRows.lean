/-
  NARROWER THAN 'FOR EVERY INPUT', by the rows' own cells (each row's printed sentence says how): FnCanBackquote: laid · FnCanBoth: laid · FnQuoteArgument: laid · FnTail: laid · FnUnquoteChar: laid · FnUnquoted: laid · FnCanRaw: laid.
  DERIVED. THE GIVEN ROWS OF THIS SEAT. 7 by the template 'for every input the law returns true; each argument reads behind the call as it read before'; 0 by the template 'total and deterministic' (their statements: YtidjchoneopmbaaDoorTotals.lean).
  GIVEN WITH THE SEED: the statements are not yours to turn. If you find one false, say at which input.
  Laid BY PROGRAM, IN A SANDBOX (cutbox-rows.mjs): the forced cells as the released guide's own fill.sh prints them over the translation 70ab0b262a93e82d… (all of the seat's roots in one cut). By AI agents, Wed Nov 11 2026. No macro, syntax, notation, axiom, sorry.
-/
import Derived.Test.YtidjchoneopmbaaDoorChecked
import GoSem.PinnedTables
import GoSem.Claim
import GoSem.ClaimJoined
import GoSem.ClaimMapViews
import Derived.JoinedTies
import Derived.KernelRfl
namespace Go.Proofs.YtidjchoneopmbaaDoor
/- THE CELL 'sum', in the pinned program and in every row, IS THE sha256 OF THE DUMP (.gsa) THAT YtidjchoneopmbaaDoorProg.lean LOADS. Nothing in Lean hashes anything: it is a label: what it is worth is what the hold of that sum in a sandbox is worth. -/
noncomputable def Tryd.pinned : Pinned := { name := "ytidjchoneopmbaadoor", sum := "70ab0b262a93e82db6905c4bdda7440214ae0113944d23cd23e2718fd7bc5e69", checked := Tryd.checked }
namespace Rows
def none {H : Type} : Left H := { results := [], args := [] }

/- WHAT THE LISTED PACKAGE-LEVEL VARIABLES READ AS WHEN THE CALL BEGINS. Each datum BY PROGRAM (the guide's laid-datum.mjs) off the statement by which the dump's own 'gosem.cut.vars' lays the variable. In a bare row this is a premise. The card (YtidjchoneopmbaaDoorCards.lean) ties it to the program's text. -/
def laid_unicode_utf8_acceptRanges {H : Type} : DataW H := .agg [.agg [.lit (.int .u8 128), .lit (.int .u8 191)], .agg [.lit (.int .u8 160), .lit (.int .u8 191)], .agg [.lit (.int .u8 128), .lit (.int .u8 159)], .agg [.lit (.int .u8 144), .lit (.int .u8 191)], .agg [.lit (.int .u8 128), .lit (.int .u8 143)], .agg [.lit (.int .u8 0), .lit (.int .u8 0)], .agg [.lit (.int .u8 0), .lit (.int .u8 0)], .agg [.lit (.int .u8 0), .lit (.int .u8 0)], .agg [.lit (.int .u8 0), .lit (.int .u8 0)], .agg [.lit (.int .u8 0), .lit (.int .u8 0)], .agg [.lit (.int .u8 0), .lit (.int .u8 0)], .agg [.lit (.int .u8 0), .lit (.int .u8 0)], .agg [.lit (.int .u8 0), .lit (.int .u8 0)], .agg [.lit (.int .u8 0), .lit (.int .u8 0)], .agg [.lit (.int .u8 0), .lit (.int .u8 0)], .agg [.lit (.int .u8 0), .lit (.int .u8 0)]]
/-- One of Go's own tables, pinned by name: the form's constant. -/
def laid_unicode_utf8_first : DataW Unit := Go.Pinned.utf8First
def laid_strconv_ErrSyntax {H : Type} : DataW H := .iface "*errors.errorString" (.ptr (.agg [.lit (.string [105, 110, 118, 97, 108, 105, 100, 32, 115, 121, 110, 116, 97, 120])]))

/-- 'laws.FnCanBackquote': WHATEVER THE INPUT: true; the input reads as it did. -/
def fnCanBackquoteSpec : ChangeSpec := { name := "fnCanBackquote", fn := fun _ => fun
  | [d] => { results := [.lit (.bool true)], args := [d] }
  | _ => none }
def fnCanBackquoteRow : OpenClaim := { program := "ytidjchoneopmbaadoor", sum := "70ab0b262a93e82db6905c4bdda7440214ae0113944d23cd23e2718fd7bc5e69", func := "loop.example/lib-g03217/laws.FnCanBackquote", spec := "fnCanBackquote", named := ["unicode/utf8.first", "unicode/utf8.acceptRanges"], apart := false, laid := [("unicode/utf8.acceptRanges", laid_unicode_utf8_acceptRanges), ("unicode/utf8.first", laid_unicode_utf8_first)] }
def FnCanBackquoteSaid : Prop := fnCanBackquoteRow.holds Tryd.pinned (OpenSpec.ofChange fnCanBackquoteSpec)

/-- ITS FALSE NEIGHBOUR: 'it returns false'. Refute it at one input. -/
def fnCanBackquoteWrong : ChangeSpec := { name := "fnCanBackquote", fn := fun _ => fun
  | [d] => { results := [.lit (.bool false)], args := [d] }
  | _ => none }
def FnCanBackquoteWrongFalsely : Prop := fnCanBackquoteRow.holds Tryd.pinned (OpenSpec.ofChange fnCanBackquoteWrong)

/-- 'laws.FnCanBoth': WHATEVER THE INPUT: true; the input reads as it did. -/
def fnCanBothSpec : ChangeSpec := { name := "fnCanBoth", fn := fun _ => fun
  | [d1, d2] => { results := [.lit (.bool true)], args := [d1, d2] }
  | _ => none }
def fnCanBothRow : OpenClaim := { program := "ytidjchoneopmbaadoor", sum := "70ab0b262a93e82db6905c4bdda7440214ae0113944d23cd23e2718fd7bc5e69", func := "loop.example/lib-g03217/laws.FnCanBoth", spec := "fnCanBoth", named := ["unicode/utf8.first", "unicode/utf8.acceptRanges"], apart := false, laid := [("unicode/utf8.acceptRanges", laid_unicode_utf8_acceptRanges), ("unicode/utf8.first", laid_unicode_utf8_first)] }
def FnCanBothSaid : Prop := fnCanBothRow.holds Tryd.pinned (OpenSpec.ofChange fnCanBothSpec)

/-- ITS FALSE NEIGHBOUR: 'it returns false'. Refute it at one input. -/
def fnCanBothWrong : ChangeSpec := { name := "fnCanBoth", fn := fun _ => fun
  | [d1, d2] => { results := [.lit (.bool false)], args := [d1, d2] }
  | _ => none }
def FnCanBothWrongFalsely : Prop := fnCanBothRow.holds Tryd.pinned (OpenSpec.ofChange fnCanBothWrong)

/-- 'laws.FnQuoteArgument': WHATEVER THE INPUT: true; the input reads as it did. -/
def fnQuoteArgumentSpec : ChangeSpec := { name := "fnQuoteArgument", fn := fun _ => fun
  | [d] => { results := [.lit (.bool true)], args := [d] }
  | _ => none }
def fnQuoteArgumentRow : OpenClaim := { program := "ytidjchoneopmbaadoor", sum := "70ab0b262a93e82db6905c4bdda7440214ae0113944d23cd23e2718fd7bc5e69", func := "loop.example/lib-g03217/laws.FnQuoteArgument", spec := "fnQuoteArgument", named := ["strconv.ErrSyntax", "unicode/utf8.first", "unicode/utf8.acceptRanges"], apart := false, laid := [("unicode/utf8.acceptRanges", laid_unicode_utf8_acceptRanges), ("strconv.ErrSyntax", laid_strconv_ErrSyntax), ("unicode/utf8.first", laid_unicode_utf8_first)] }
def FnQuoteArgumentSaid : Prop := fnQuoteArgumentRow.holds Tryd.pinned (OpenSpec.ofChange fnQuoteArgumentSpec)

/-- ITS FALSE NEIGHBOUR: 'it returns false'. Refute it at one input. -/
def fnQuoteArgumentWrong : ChangeSpec := { name := "fnQuoteArgument", fn := fun _ => fun
  | [d] => { results := [.lit (.bool false)], args := [d] }
  | _ => none }
def FnQuoteArgumentWrongFalsely : Prop := fnQuoteArgumentRow.holds Tryd.pinned (OpenSpec.ofChange fnQuoteArgumentWrong)

/-- 'laws.FnTail': WHATEVER THE INPUT: true; the input reads as it did. -/
def fnTailSpec : ChangeSpec := { name := "fnTail", fn := fun _ => fun
  | [d1, d2, d3] => { results := [.lit (.bool true)], args := [d1, d2, d3] }
  | _ => none }
def fnTailRow : OpenClaim := { program := "ytidjchoneopmbaadoor", sum := "70ab0b262a93e82db6905c4bdda7440214ae0113944d23cd23e2718fd7bc5e69", func := "loop.example/lib-g03217/laws.FnTail", spec := "fnTail", named := ["strconv.ErrSyntax", "unicode/utf8.first", "unicode/utf8.acceptRanges"], apart := false, laid := [("unicode/utf8.acceptRanges", laid_unicode_utf8_acceptRanges), ("strconv.ErrSyntax", laid_strconv_ErrSyntax), ("unicode/utf8.first", laid_unicode_utf8_first)] }
def FnTailSaid : Prop := fnTailRow.holds Tryd.pinned (OpenSpec.ofChange fnTailSpec)

/-- ITS FALSE NEIGHBOUR: 'it returns false'. Refute it at one input. -/
def fnTailWrong : ChangeSpec := { name := "fnTail", fn := fun _ => fun
  | [d1, d2, d3] => { results := [.lit (.bool false)], args := [d1, d2, d3] }
  | _ => none }
def FnTailWrongFalsely : Prop := fnTailRow.holds Tryd.pinned (OpenSpec.ofChange fnTailWrong)

/-- 'laws.FnUnquoteChar': WHATEVER THE INPUT: true; the input reads as it did. -/
def fnUnquoteCharSpec : ChangeSpec := { name := "fnUnquoteChar", fn := fun _ => fun
  | [d1, d2] => { results := [.lit (.bool true)], args := [d1, d2] }
  | _ => none }
def fnUnquoteCharRow : OpenClaim := { program := "ytidjchoneopmbaadoor", sum := "70ab0b262a93e82db6905c4bdda7440214ae0113944d23cd23e2718fd7bc5e69", func := "loop.example/lib-g03217/laws.FnUnquoteChar", spec := "fnUnquoteChar", named := ["strconv.ErrSyntax", "unicode/utf8.first", "unicode/utf8.acceptRanges"], apart := false, laid := [("unicode/utf8.acceptRanges", laid_unicode_utf8_acceptRanges), ("strconv.ErrSyntax", laid_strconv_ErrSyntax), ("unicode/utf8.first", laid_unicode_utf8_first)] }
def FnUnquoteCharSaid : Prop := fnUnquoteCharRow.holds Tryd.pinned (OpenSpec.ofChange fnUnquoteCharSpec)

/-- ITS FALSE NEIGHBOUR: 'it returns false'. Refute it at one input. -/
def fnUnquoteCharWrong : ChangeSpec := { name := "fnUnquoteChar", fn := fun _ => fun
  | [d1, d2] => { results := [.lit (.bool false)], args := [d1, d2] }
  | _ => none }
def FnUnquoteCharWrongFalsely : Prop := fnUnquoteCharRow.holds Tryd.pinned (OpenSpec.ofChange fnUnquoteCharWrong)

/-- 'laws.FnUnquoted': WHATEVER THE INPUT: true; the input reads as it did. -/
def fnUnquotedSpec : ChangeSpec := { name := "fnUnquoted", fn := fun _ => fun
  | [d] => { results := [.lit (.bool true)], args := [d] }
  | _ => none }
def fnUnquotedRow : OpenClaim := { program := "ytidjchoneopmbaadoor", sum := "70ab0b262a93e82db6905c4bdda7440214ae0113944d23cd23e2718fd7bc5e69", func := "loop.example/lib-g03217/laws.FnUnquoted", spec := "fnUnquoted", inPlace := ["internal/bytealg.IndexByteString"], named := ["strconv.ErrSyntax", "unicode/utf8.first", "unicode/utf8.acceptRanges"], apart := false, laid := [("unicode/utf8.acceptRanges", laid_unicode_utf8_acceptRanges), ("strconv.ErrSyntax", laid_strconv_ErrSyntax), ("unicode/utf8.first", laid_unicode_utf8_first)] }
def FnUnquotedSaid : Prop := fnUnquotedRow.holds Tryd.pinned (OpenSpec.ofChange fnUnquotedSpec)

/-- ITS FALSE NEIGHBOUR: 'it returns false'. Refute it at one input. -/
def fnUnquotedWrong : ChangeSpec := { name := "fnUnquoted", fn := fun _ => fun
  | [d] => { results := [.lit (.bool false)], args := [d] }
  | _ => none }
def FnUnquotedWrongFalsely : Prop := fnUnquotedRow.holds Tryd.pinned (OpenSpec.ofChange fnUnquotedWrong)

/-- 'laws.FnCanRaw': WHATEVER THE INPUT: true; the input reads as it did. -/
def fnCanRawSpec : ChangeSpec := { name := "fnCanRaw", fn := fun _ => fun
  | [d] => { results := [.lit (.bool true)], args := [d] }
  | _ => none }
def fnCanRawRow : OpenClaim := { program := "ytidjchoneopmbaadoor", sum := "70ab0b262a93e82db6905c4bdda7440214ae0113944d23cd23e2718fd7bc5e69", func := "loop.example/lib-g03217/laws.FnCanRaw", spec := "fnCanRaw", inPlace := ["internal/bytealg.IndexByteString"], named := ["unicode/utf8.first", "unicode/utf8.acceptRanges", "strconv.ErrSyntax"], apart := false, laid := [("unicode/utf8.acceptRanges", laid_unicode_utf8_acceptRanges), ("strconv.ErrSyntax", laid_strconv_ErrSyntax), ("unicode/utf8.first", laid_unicode_utf8_first)] }
def FnCanRawSaid : Prop := fnCanRawRow.holds Tryd.pinned (OpenSpec.ofChange fnCanRawSpec)

/-- ITS FALSE NEIGHBOUR: 'it returns false'. Refute it at one input. -/
def fnCanRawWrong : ChangeSpec := { name := "fnCanRaw", fn := fun _ => fun
  | [d] => { results := [.lit (.bool false)], args := [d] }
  | _ => none }
def FnCanRawWrongFalsely : Prop := fnCanRawRow.holds Tryd.pinned (OpenSpec.ofChange fnCanRawWrong)

/- THE SECOND FORM. 'bulk': how many values and letters a reading holds, each counted each time it is reached (what is shared counts as often as it is met; a slice's spare places count too). A statement '..UptoSaid' is the law's where the arguments, and the package variables that the reading takes, are together of bulk at most 1048576: NARROWER than '..Said'. Prove '..Said' where nothing that the law and all that it calls make is longer than what came in: it says more and counts as full. Else prove '..UptoSaid'. A law counts once. -/
mutual
def uptoBulk {H : Type} : DataW H → Nat
  | .lit (.string bytes) => bytes.length + 1
  | .lit _ => 1
  | .nil => 1
  | .ptr d => uptoBulk d + 1
  | .slice elems spare => uptoBulkAll elems + uptoBulkAll spare + 1
  | .agg parts => uptoBulkAll parts + 1
  | .iface _ d => uptoBulk d + 1
  | .map entries => uptoBulkEntries entries + 1
  | .held _ => 1
def uptoBulkAll {H : Type} : List (DataW H) → Nat
  | [] => 0
  | d :: r => uptoBulk d + uptoBulkAll r
def uptoBulkEntries {H : Type} : List (Lit × DataW H) → Nat
  | [] => 0
  | x :: r => uptoBulkEntry x + uptoBulkEntries r
def uptoBulkEntry {H : Type} : Lit × DataW H → Nat
  | (.string bytes, d) => bytes.length + uptoBulk d + 1
  | (_, d) => uptoBulk d + 1
 end
def uptoSmall : (H : Type) → List (DataW H) → Bool := fun _ ds => decide (uptoBulkAll ds ≤ 1048576)
def OpenSpec.upto (s : _root_.Go.ChangeSpec) : _root_.Go.OpenSpec := { _root_.Go.OpenSpec.ofChange s with cond := some uptoSmall }

/-- 'laws.FnCanBackquote', WHERE WHAT IT READS IS OF BULK AT MOST 1048576: true; the input reads as it did. -/
def fnCanBackquoteUptoRow : OpenClaim := { program := "ytidjchoneopmbaadoor", sum := "70ab0b262a93e82db6905c4bdda7440214ae0113944d23cd23e2718fd7bc5e69", func := "loop.example/lib-g03217/laws.FnCanBackquote", spec := "fnCanBackquote", named := ["unicode/utf8.first", "unicode/utf8.acceptRanges"], apart := false, laid := [("unicode/utf8.acceptRanges", laid_unicode_utf8_acceptRanges), ("unicode/utf8.first", laid_unicode_utf8_first)], narrowed := true }
def FnCanBackquoteUptoSaid : Prop := fnCanBackquoteUptoRow.holds Tryd.pinned (OpenSpec.upto fnCanBackquoteSpec)

/-- 'laws.FnCanBoth', WHERE WHAT IT READS IS OF BULK AT MOST 1048576: true; the input reads as it did. -/
def fnCanBothUptoRow : OpenClaim := { program := "ytidjchoneopmbaadoor", sum := "70ab0b262a93e82db6905c4bdda7440214ae0113944d23cd23e2718fd7bc5e69", func := "loop.example/lib-g03217/laws.FnCanBoth", spec := "fnCanBoth", named := ["unicode/utf8.first", "unicode/utf8.acceptRanges"], apart := false, laid := [("unicode/utf8.acceptRanges", laid_unicode_utf8_acceptRanges), ("unicode/utf8.first", laid_unicode_utf8_first)], narrowed := true }
def FnCanBothUptoSaid : Prop := fnCanBothUptoRow.holds Tryd.pinned (OpenSpec.upto fnCanBothSpec)

/-- 'laws.FnQuoteArgument', WHERE WHAT IT READS IS OF BULK AT MOST 1048576: true; the input reads as it did. -/
def fnQuoteArgumentUptoRow : OpenClaim := { program := "ytidjchoneopmbaadoor", sum := "70ab0b262a93e82db6905c4bdda7440214ae0113944d23cd23e2718fd7bc5e69", func := "loop.example/lib-g03217/laws.FnQuoteArgument", spec := "fnQuoteArgument", named := ["strconv.ErrSyntax", "unicode/utf8.first", "unicode/utf8.acceptRanges"], apart := false, laid := [("unicode/utf8.acceptRanges", laid_unicode_utf8_acceptRanges), ("strconv.ErrSyntax", laid_strconv_ErrSyntax), ("unicode/utf8.first", laid_unicode_utf8_first)], narrowed := true }
def FnQuoteArgumentUptoSaid : Prop := fnQuoteArgumentUptoRow.holds Tryd.pinned (OpenSpec.upto fnQuoteArgumentSpec)

/-- 'laws.FnTail', WHERE WHAT IT READS IS OF BULK AT MOST 1048576: true; the input reads as it did. -/
def fnTailUptoRow : OpenClaim := { program := "ytidjchoneopmbaadoor", sum := "70ab0b262a93e82db6905c4bdda7440214ae0113944d23cd23e2718fd7bc5e69", func := "loop.example/lib-g03217/laws.FnTail", spec := "fnTail", named := ["strconv.ErrSyntax", "unicode/utf8.first", "unicode/utf8.acceptRanges"], apart := false, laid := [("unicode/utf8.acceptRanges", laid_unicode_utf8_acceptRanges), ("strconv.ErrSyntax", laid_strconv_ErrSyntax), ("unicode/utf8.first", laid_unicode_utf8_first)], narrowed := true }
def FnTailUptoSaid : Prop := fnTailUptoRow.holds Tryd.pinned (OpenSpec.upto fnTailSpec)

/-- 'laws.FnUnquoteChar', WHERE WHAT IT READS IS OF BULK AT MOST 1048576: true; the input reads as it did. -/
def fnUnquoteCharUptoRow : OpenClaim := { program := "ytidjchoneopmbaadoor", sum := "70ab0b262a93e82db6905c4bdda7440214ae0113944d23cd23e2718fd7bc5e69", func := "loop.example/lib-g03217/laws.FnUnquoteChar", spec := "fnUnquoteChar", named := ["strconv.ErrSyntax", "unicode/utf8.first", "unicode/utf8.acceptRanges"], apart := false, laid := [("unicode/utf8.acceptRanges", laid_unicode_utf8_acceptRanges), ("strconv.ErrSyntax", laid_strconv_ErrSyntax), ("unicode/utf8.first", laid_unicode_utf8_first)], narrowed := true }
def FnUnquoteCharUptoSaid : Prop := fnUnquoteCharUptoRow.holds Tryd.pinned (OpenSpec.upto fnUnquoteCharSpec)

/-- 'laws.FnUnquoted', WHERE WHAT IT READS IS OF BULK AT MOST 1048576: true; the input reads as it did. -/
def fnUnquotedUptoRow : OpenClaim := { program := "ytidjchoneopmbaadoor", sum := "70ab0b262a93e82db6905c4bdda7440214ae0113944d23cd23e2718fd7bc5e69", func := "loop.example/lib-g03217/laws.FnUnquoted", spec := "fnUnquoted", inPlace := ["internal/bytealg.IndexByteString"], named := ["strconv.ErrSyntax", "unicode/utf8.first", "unicode/utf8.acceptRanges"], apart := false, laid := [("unicode/utf8.acceptRanges", laid_unicode_utf8_acceptRanges), ("strconv.ErrSyntax", laid_strconv_ErrSyntax), ("unicode/utf8.first", laid_unicode_utf8_first)], narrowed := true }
def FnUnquotedUptoSaid : Prop := fnUnquotedUptoRow.holds Tryd.pinned (OpenSpec.upto fnUnquotedSpec)

/-- 'laws.FnCanRaw', WHERE WHAT IT READS IS OF BULK AT MOST 1048576: true; the input reads as it did. -/
def fnCanRawUptoRow : OpenClaim := { program := "ytidjchoneopmbaadoor", sum := "70ab0b262a93e82db6905c4bdda7440214ae0113944d23cd23e2718fd7bc5e69", func := "loop.example/lib-g03217/laws.FnCanRaw", spec := "fnCanRaw", inPlace := ["internal/bytealg.IndexByteString"], named := ["unicode/utf8.first", "unicode/utf8.acceptRanges", "strconv.ErrSyntax"], apart := false, laid := [("unicode/utf8.acceptRanges", laid_unicode_utf8_acceptRanges), ("strconv.ErrSyntax", laid_strconv_ErrSyntax), ("unicode/utf8.first", laid_unicode_utf8_first)], narrowed := true }
def FnCanRawUptoSaid : Prop := fnCanRawUptoRow.holds Tryd.pinned (OpenSpec.upto fnCanRawSpec)

end Rows
end Go.Proofs.YtidjchoneopmbaaDoor
