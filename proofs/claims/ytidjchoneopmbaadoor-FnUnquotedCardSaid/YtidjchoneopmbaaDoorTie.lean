/-
  DERIVED. GIVEN WITH THE SEED: THE PROGRAM's TIES (one call each: nine closed facts by the kernel) AND EACH ROW's TIE, after the 31st guide's Derived/Test/Toyas{Tie, Card}.lean. No idea stands in it: it is a product of the set-up. Laid BY PROGRAM, IN A SANDBOX (cutbox-door.mjs). By AI agents, Wed Nov 11 2026. No macro, syntax, notation, axiom, sorry.
-/
import Derived.Test.YtidjchoneopmbaaDoorRows
import Derived.LaidByTextLater
import Derived.SevenTiedAt
import Derived.LaidSub
import Derived.LaidOnce
namespace Go.Proofs.YtidjchoneopmbaaDoor
open Go
set_option maxRecDepth 100000
theorem seatTie1 : Tryd.prog.laidByTextLater [("unicode/utf8.acceptRanges", Rows.laid_unicode_utf8_acceptRanges), ("strconv.ErrSyntax", Rows.laid_strconv_ErrSyntax)] [.data, .sentinel] true :=
  Program.laidByTextLater_by_one 38 8 33 (by kernel_rfl) (by kernel_rfl) (by kernel_rfl) (by kernel_rfl) (by kernel_rfl) (by kernel_rfl) (fun _ _ => by kernel_rfl)
theorem pin_laid_unicode_utf8_first : Tryd.pinned.checked.prog.pinnedFits "unicode/utf8.first" = true := by kernel_rfl
theorem noOwnUnsafe : Tryd.pinned.checked.prog.headLifts.contains "ownunsafe" = false := by kernel_rfl
theorem fits1 : Tryd.pinned.checked.prog.listedFits [("unicode/utf8.acceptRanges", Rows.laid_unicode_utf8_acceptRanges), ("unicode/utf8.first", Rows.laid_unicode_utf8_first)] = true := by
  unfold Program.listedFits
  rw [noOwnUnsafe]
  kernel_rfl
theorem tie : Tryd.prog.laidByTextLater [("unicode/utf8.acceptRanges", Rows.laid_unicode_utf8_acceptRanges)] [.data] true :=
  Program.laidByTextLater.sub seatTie1 ["unicode/utf8.acceptRanges"] (by kernel_rfl) (by kernel_rfl)
theorem fnCanBackquote_row_tie : Rows.fnCanBackquoteRow.laidByTextAt .later Tryd.pinned [.data, .pinned] true :=
  OpenClaim.laidByTextAt_pinned rfl rfl tie rfl rfl rfl rfl (fun y hy _e => by
    simp only [Rows.fnCanBackquoteRow, List.zip_cons_cons, List.zip_nil_right, List.mem_cons, List.mem_nil_iff, or_false] at hy
    rcases hy with rfl | rfl
    · cases _e
    · exact ⟨pin_laid_unicode_utf8_first, by kernel_rfl⟩) fits1
theorem fnCanBoth_row_tie : Rows.fnCanBothRow.laidByTextAt .later Tryd.pinned [.data, .pinned] true :=
  OpenClaim.laidByTextAt_pinned rfl rfl tie rfl rfl rfl rfl (fun y hy _e => by
    simp only [Rows.fnCanBothRow, List.zip_cons_cons, List.zip_nil_right, List.mem_cons, List.mem_nil_iff, or_false] at hy
    rcases hy with rfl | rfl
    · cases _e
    · exact ⟨pin_laid_unicode_utf8_first, by kernel_rfl⟩) fits1
theorem fits2 : Tryd.pinned.checked.prog.listedFits [("unicode/utf8.acceptRanges", Rows.laid_unicode_utf8_acceptRanges), ("strconv.ErrSyntax", Rows.laid_strconv_ErrSyntax), ("unicode/utf8.first", Rows.laid_unicode_utf8_first)] = true := by
  unfold Program.listedFits
  rw [noOwnUnsafe]
  kernel_rfl
theorem tie2 : Tryd.prog.laidByTextLater [("unicode/utf8.acceptRanges", Rows.laid_unicode_utf8_acceptRanges), ("strconv.ErrSyntax", Rows.laid_strconv_ErrSyntax)] [.data, .sentinel] true :=
  Program.laidByTextLater.sub seatTie1 ["unicode/utf8.acceptRanges", "strconv.ErrSyntax"] (by kernel_rfl) (by kernel_rfl)
theorem fnQuoteArgument_row_tie : Rows.fnQuoteArgumentRow.laidByTextAt .later Tryd.pinned [.data, .sentinel, .pinned] true :=
  OpenClaim.laidByTextAt_pinned rfl rfl tie2 rfl rfl rfl rfl (fun y hy _e => by
    simp only [Rows.fnQuoteArgumentRow, List.zip_cons_cons, List.zip_nil_right, List.mem_cons, List.mem_nil_iff, or_false] at hy
    rcases hy with rfl | rfl | rfl
    · cases _e
    · cases _e
    · exact ⟨pin_laid_unicode_utf8_first, by kernel_rfl⟩) fits2
theorem fnTail_row_tie : Rows.fnTailRow.laidByTextAt .later Tryd.pinned [.data, .sentinel, .pinned] true :=
  OpenClaim.laidByTextAt_pinned rfl rfl tie2 rfl rfl rfl rfl (fun y hy _e => by
    simp only [Rows.fnTailRow, List.zip_cons_cons, List.zip_nil_right, List.mem_cons, List.mem_nil_iff, or_false] at hy
    rcases hy with rfl | rfl | rfl
    · cases _e
    · cases _e
    · exact ⟨pin_laid_unicode_utf8_first, by kernel_rfl⟩) fits2
theorem fnUnquoteChar_row_tie : Rows.fnUnquoteCharRow.laidByTextAt .later Tryd.pinned [.data, .sentinel, .pinned] true :=
  OpenClaim.laidByTextAt_pinned rfl rfl tie2 rfl rfl rfl rfl (fun y hy _e => by
    simp only [Rows.fnUnquoteCharRow, List.zip_cons_cons, List.zip_nil_right, List.mem_cons, List.mem_nil_iff, or_false] at hy
    rcases hy with rfl | rfl | rfl
    · cases _e
    · cases _e
    · exact ⟨pin_laid_unicode_utf8_first, by kernel_rfl⟩) fits2
theorem fnUnquoted_row_tie : Rows.fnUnquotedRow.laidByTextAt .later Tryd.pinned [.data, .sentinel, .pinned] true :=
  OpenClaim.laidByTextAt_pinned rfl rfl tie2 rfl rfl rfl rfl (fun y hy _e => by
    simp only [Rows.fnUnquotedRow, List.zip_cons_cons, List.zip_nil_right, List.mem_cons, List.mem_nil_iff, or_false] at hy
    rcases hy with rfl | rfl | rfl
    · cases _e
    · cases _e
    · exact ⟨pin_laid_unicode_utf8_first, by kernel_rfl⟩) fits2
theorem fnCanRaw_row_tie : Rows.fnCanRawRow.laidByTextAt .later Tryd.pinned [.data, .sentinel, .pinned] true :=
  OpenClaim.laidByTextAt_pinned rfl rfl tie2 rfl rfl rfl rfl (fun y hy _e => by
    simp only [Rows.fnCanRawRow, List.zip_cons_cons, List.zip_nil_right, List.mem_cons, List.mem_nil_iff, or_false] at hy
    rcases hy with rfl | rfl | rfl
    · cases _e
    · cases _e
    · exact ⟨pin_laid_unicode_utf8_first, by kernel_rfl⟩) fits2
theorem fnCanBackquoteUpto_row_tie : Rows.fnCanBackquoteUptoRow.laidByTextAt .later Tryd.pinned [.data, .pinned] true :=
  OpenClaim.laidByTextAt_pinned rfl rfl tie rfl rfl rfl rfl (fun y hy _e => by
    simp only [Rows.fnCanBackquoteUptoRow, List.zip_cons_cons, List.zip_nil_right, List.mem_cons, List.mem_nil_iff, or_false] at hy
    rcases hy with rfl | rfl
    · cases _e
    · exact ⟨pin_laid_unicode_utf8_first, by kernel_rfl⟩) fits1
theorem fnCanBothUpto_row_tie : Rows.fnCanBothUptoRow.laidByTextAt .later Tryd.pinned [.data, .pinned] true :=
  OpenClaim.laidByTextAt_pinned rfl rfl tie rfl rfl rfl rfl (fun y hy _e => by
    simp only [Rows.fnCanBothUptoRow, List.zip_cons_cons, List.zip_nil_right, List.mem_cons, List.mem_nil_iff, or_false] at hy
    rcases hy with rfl | rfl
    · cases _e
    · exact ⟨pin_laid_unicode_utf8_first, by kernel_rfl⟩) fits1
theorem fnQuoteArgumentUpto_row_tie : Rows.fnQuoteArgumentUptoRow.laidByTextAt .later Tryd.pinned [.data, .sentinel, .pinned] true :=
  OpenClaim.laidByTextAt_pinned rfl rfl tie2 rfl rfl rfl rfl (fun y hy _e => by
    simp only [Rows.fnQuoteArgumentUptoRow, List.zip_cons_cons, List.zip_nil_right, List.mem_cons, List.mem_nil_iff, or_false] at hy
    rcases hy with rfl | rfl | rfl
    · cases _e
    · cases _e
    · exact ⟨pin_laid_unicode_utf8_first, by kernel_rfl⟩) fits2
theorem fnTailUpto_row_tie : Rows.fnTailUptoRow.laidByTextAt .later Tryd.pinned [.data, .sentinel, .pinned] true :=
  OpenClaim.laidByTextAt_pinned rfl rfl tie2 rfl rfl rfl rfl (fun y hy _e => by
    simp only [Rows.fnTailUptoRow, List.zip_cons_cons, List.zip_nil_right, List.mem_cons, List.mem_nil_iff, or_false] at hy
    rcases hy with rfl | rfl | rfl
    · cases _e
    · cases _e
    · exact ⟨pin_laid_unicode_utf8_first, by kernel_rfl⟩) fits2
theorem fnUnquoteCharUpto_row_tie : Rows.fnUnquoteCharUptoRow.laidByTextAt .later Tryd.pinned [.data, .sentinel, .pinned] true :=
  OpenClaim.laidByTextAt_pinned rfl rfl tie2 rfl rfl rfl rfl (fun y hy _e => by
    simp only [Rows.fnUnquoteCharUptoRow, List.zip_cons_cons, List.zip_nil_right, List.mem_cons, List.mem_nil_iff, or_false] at hy
    rcases hy with rfl | rfl | rfl
    · cases _e
    · cases _e
    · exact ⟨pin_laid_unicode_utf8_first, by kernel_rfl⟩) fits2
theorem fnUnquotedUpto_row_tie : Rows.fnUnquotedUptoRow.laidByTextAt .later Tryd.pinned [.data, .sentinel, .pinned] true :=
  OpenClaim.laidByTextAt_pinned rfl rfl tie2 rfl rfl rfl rfl (fun y hy _e => by
    simp only [Rows.fnUnquotedUptoRow, List.zip_cons_cons, List.zip_nil_right, List.mem_cons, List.mem_nil_iff, or_false] at hy
    rcases hy with rfl | rfl | rfl
    · cases _e
    · cases _e
    · exact ⟨pin_laid_unicode_utf8_first, by kernel_rfl⟩) fits2
theorem fnCanRawUpto_row_tie : Rows.fnCanRawUptoRow.laidByTextAt .later Tryd.pinned [.data, .sentinel, .pinned] true :=
  OpenClaim.laidByTextAt_pinned rfl rfl tie2 rfl rfl rfl rfl (fun y hy _e => by
    simp only [Rows.fnCanRawUptoRow, List.zip_cons_cons, List.zip_nil_right, List.mem_cons, List.mem_nil_iff, or_false] at hy
    rcases hy with rfl | rfl | rfl
    · cases _e
    · cases _e
    · exact ⟨pin_laid_unicode_utf8_first, by kernel_rfl⟩) fits2
end Go.Proofs.YtidjchoneopmbaaDoor
