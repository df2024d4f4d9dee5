/-
  The walks over the reference's UnquoteChar and the laws' isQuote.
-/
import Derived.Test.YtbnginnbpppegaaDoorWo
namespace Go.Proofs.YtbnginnbpppegaaDoor
open Go.RowKit Go.Uq

theorem first_bd {l : List UInt8} {q : Nat} {e : El} (hq : q < 128) (h : first l q = some e) : e.v ≤ 1114111 := by
  match l with
  | [] => cases h
  | c :: t =>
    unfold first at h
    simp only at h
    split at h
    · cases h
    split at h
    · rcases esc_kinds hq h with ⟨_, _, h1, _⟩ | ⟨_, _, h1, _⟩ | ⟨_, _, h1, _⟩
      · omega
      · omega
      · simp only [cp, decide_eq_true_eq] at h1; omega
    · split at h
      · cases h; exact Lib.decodeL_rune _
      · cases h
theorem first_none_at (s : ByteArray) (q : Nat) (w : World) (hz : s.size ≤ 9223372036854775807) (hq : q = 0 ∨ q = 34 ∨ q = 39) (h : first s.data.toList q = none) :
    Calls Tryd.prog 30 #[.string s, .int .u8 q] w fun e w' => EscBad e ∧ Bw w w' :=
  (first_calls s q w hz hq).mono fun e w' he => by unfold PostFirst at he; rw [h] at he; exact he
theorem first_some_at (s : ByteArray) (q : Nat) (x : El) (w : World) (hz : s.size ≤ 9223372036854775807) (hq : q = 0 ∨ q = 34 ∨ q = 39) (h : first s.data.toList q = some x) :
    Calls Tryd.prog 30 #[.string s, .int .u8 q] w fun e w' => e = .returned (.tuple #[.agg #[.int .i64 x.v, .bool x.b, .int .i64 x.n, .bool x.w], .bool true]) ∧ Bw w w' :=
  (first_calls s q w hz hq).mono fun e w' he => by unfold PostFirst at he; rw [h] at he; exact he
def several (e : El) : Bool := !e.b && decide (127 < e.v)
end Go.Proofs.YtbnginnbpppegaaDoor
