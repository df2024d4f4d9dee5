/-
  The walks over the reference's Kind and raw, and over the laws' without.
-/
import Derived.Test.YtbnginnbpppegaaDoorHp
namespace Go.Proofs.YtbnginnbpppegaaDoor
open Go.RowKit Go.Uq

/-- an empty row of the call's own -/
theorem empty_buf (w : World) : Buf w.heap.size (w.alloc (.cells #[] 5)) (.slice (some ⟨w.heap.size, 0, none⟩) 0 0) [] :=
  ⟨rfl, .inr ⟨w.heap.size, 0, #[], rfl, Nat.le_refl _, (show (w.heap.push _)[w.heap.size]? = _ by simp), Nat.le_refl _, Nat.zero_le _, rfl, rfl⟩⟩
end Go.Proofs.YtbnginnbpppegaaDoor
