/-
  What every law's last step needs: what the listed variables give, a world that holds them, and the step from a walk that keeps all that was there to a law's statement.
-/
import Derived.Test.YtbnginnbpppegaaDoorWf
import Derived.Test.YtbnginnbpppegaaDoorRows
import Derived.ProofKit
import Derived.OpenShut
import Derived.PinnedBridge
import Derived.Lib.LaidU8T
import Derived.Deep.DeepHandedRow
import Derived.Deep.DeepWitnessRowRef
import Derived.Stop.LaidErr
import Derived.SizedLaws
namespace Go.Proofs.YtbnginnbpppegaaDoor
open Go.ChangeShapes Go.WideShapes Go.ChangeAt Go.RowKit Go.Lib

theorem own : ownKnob Tryd.prog.godebug = none := by kernel_rfl
theorem u8extra : U8Extra Tryd.prog Tryd.lays260_ren := ⟨by kernel_rfl, by kernel_rfl, by kernel_rfl, by kernel_rfl, by kernel_rfl, by kernel_rfl, by kernel_rfl⟩
theorem accept_eq : (Rows.laid_unicode_utf8_acceptRanges : DataW Unit) = acceptData := by kernel_rfl
theorem gErr : Tryd.prog.globalNamed "strconv.ErrSyntax" = some 0 := by kernel_rfl
theorem tErr : (Tryd.prog.globals[0]?).map (·.type) = some 39 := by kernel_rfl
/-- THE SENTINEL, out of the list -/
theorem sent_of {W : World} (r : VarReads Tryd.prog W "strconv.ErrSyntax" Rows.laid_strconv_ErrSyntax) : Sent W := by
  obtain ⟨g, t, cs, fuel, p, hg, hty, hvar, hd⟩ := r
  obtain rfl := Option.some.inj (gErr.symm.trans hg)
  obtain rfl := Option.some.inj (tErr.symm.trans hty)
  obtain ⟨_, u, v, hcs, _, _⟩ := iface_of_trod Tryd.underlying39 hd
  have h := World.var?_cell hg hvar 0
  rw [← Array.getElem?_toList, hcs] at h
  exact ⟨u, v, h⟩

/-- A world for the witness: the tables hold what their initialisers lay, the sentinel is an error of one block more. -/
def withCells (cs : Array Value) : Obj → Obj
  | .cells _ t frozen => .cells cs t frozen
  | o => o
def firstCells : Array Value := (Pinned.utf8FirstZ.map fun n : Nat => Value.int .u8 (n : Int)).toArray
def acceptCells : Array Value := #[.int .u8 128, .int .u8 191, .int .u8 160, .int .u8 191, .int .u8 128, .int .u8 159, .int .u8 144, .int .u8 191, .int .u8 128, .int .u8 143, .int .u8 0, .int .u8 0, .int .u8 0, .int .u8 0, .int .u8 0, .int .u8 0, .int .u8 0, .int .u8 0, .int .u8 0, .int .u8 0, .int .u8 0, .int .u8 0, .int .u8 0, .int .u8 0, .int .u8 0, .int .u8 0, .int .u8 0, .int .u8 0, .int .u8 0, .int .u8 0, .int .u8 0, .int .u8 0]
def errCells (k : Nat) : Array Value := #[.iface 73 (.pointer (some ⟨k, 0, none⟩))]
def errText : Array Value := #[.string ⟨#[105, 110, 118, 97, 108, 105, 100, 32, 115, 121, 110, 116, 97, 120]⟩]
def laidHeap (h : Array Obj) : Array Obj := (((h.modify 1 (withCells firstCells)).modify 2 (withCells acceptCells)).modify 0 (withCells (errCells h.size))).push (.cells errText 90)
noncomputable def laidWorld (os : Os) : World := { World.holding Tryd.prog os ⟨#[], #[], []⟩ with heap := laidHeap (World.holding Tryd.prog os ⟨#[], #[], []⟩).heap }

/-- from a walk to a law's post: the call answers true, and of what was there nothing has turned -/
theorem law_post {H : Type} {enc : TypeId × Value → H} {f : Func} {s : ChangeSpec} {W W' : World} {args : Array Value} {ds : List (DataW H)}
    (hW : DataW.Whole enc Tryd.prog f.params.toList s.vars false W args.toList ds [] [])
    (hrt : f.resultTypes = #[4]) (hvars : s.vars = []) (hres : (s.fn H (ds ++ [])).results = [.lit (.bool true)]) (hvar : (s.fn H (ds ++ [])).vars = [])
    (hargs : DataW.TrodAll enc Tryd.prog W' 0 (fun b => decide (b < W.heap.size)) true f.params.toList args.toList (s.fn H (ds ++ [])).args [])
    (hb : Bw W W') : s.post enc Tryd.prog f false true false false W args (.bool true) W' := by
  refine ⟨ds, [], [], [], [], [], hW, ?_, hargs, ?_, World.keptBut_mono (fun p hp => by cases hp) (Below.frame hb (· ∈ [])), fun h => by cases h⟩
  · rw [hrt, hres]
    exact trodAll_mk1 (shut_bool Tryd.underlying4 true)
  · rw [hvars, hvar]
    rfl
end Go.Proofs.YtbnginnbpppegaaDoor
