/-
  The walk over the library's CanBackquote.
-/
import Derived.Test.YtbnginnbpppegaaDoorWd
import Derived.Test.YtbnginnbpppegaaDoorShelf
namespace Go.Proofs.YtbnginnbpppegaaDoor
open Go.RowKit Go.Uq

/-- the two tables of the decoder -/
def Tabs (w : World) : Prop := Lib.Utf8Tabs 1 2 w
theorem Tabs.bw {w w' : World} (h : Tabs w) (hb : Bw w w') : Tabs w' := by
  have key : ∀ {a : Addr} {v : Value}, w.cell? a = some v → w'.cell? a = some v := fun hc => by
    rw [Below.cell hb (block_lt_of_cell hc)]; exact hc
  exact ⟨fun c hc => key (h.1 c hc), fun i hi => ⟨key (h.2 i hi).1, key (h.2 i hi).2⟩⟩
theorem decodeGo_eq {t : ByteArray} (h : 0 < t.size) : Lib.decodeGo t = Lib.decodeL t.data.toList := by
  unfold Lib.decodeGo Lib.decodeL
  rw [if_neg (by omega)]
/-- utf8.DecodeRuneInString, of a string that is not empty -/
theorem decodeRune_at (t : ByteArray) (w : World) (r k : Nat) (h0 : 0 < t.size) (hT : Tabs w) (hd : Lib.decodeL t.data.toList = (r, k)) :
    Calls Tryd.prog 37 #[.string t] w fun e w' => e = .returned (.tuple #[.int .i32 r, .int .i64 k]) ∧ Bw w w' := by
  have c := Tryd.utf8_DecodeRuneInString t w hT
  rw [decodeGo_eq h0, hd] at c
  exact c
/-- what stands at the beginning of a string that is not empty -/
theorem rune_at {t : ByteArray} (h : 0 < t.size) : ∃ r k : Nat, Lib.decodeL t.data.toList = (r, k) ∧ 1 ≤ k ∧ k ≤ t.size ∧ r ≤ 1114111 := by
  refine ⟨(Lib.decodeL t.data.toList).1, (Lib.decodeL t.data.toList).2, rfl, Lib.decodeL_width _, ?_, Lib.decodeL_rune _⟩
  have := Lib.decodeL_le _ (ne_of_size h)
  rw [Lib.size_eq]
  exact this

end Go.Proofs.YtbnginnbpppegaaDoor
