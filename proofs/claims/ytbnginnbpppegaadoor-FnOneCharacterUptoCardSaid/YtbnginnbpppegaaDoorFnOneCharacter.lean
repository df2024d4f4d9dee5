/-
  The statement FnOneCharacterUptoCardSaid is proved: for every input of bulk at most 1048576 the law FnOneCharacter of the given package returns true and its arguments read afterwards as before; the listed variables start as the program's own text lays them.
-/
import Derived.Test.YtbnginnbpppegaaDoorMf
import Derived.Test.YtbnginnbpppegaaDoorCards
import Derived.Test.YtbnginnbpppegaaDoorTie
namespace Go.Proofs.YtbnginnbpppegaaDoor.fnOneCharacter
open Go.ChangeShapes Go.WideShapes Go.ChangeAt Go.RowKit
open Go.ChangeMaps (open_string shut_string)

theorem laid_plain (W : World) (h : laidMetH Tryd.prog Rows.fnOneCharacterUptoRow.laid W) : laidMet Tryd.prog Rows.fnOneCharacterUptoRow.laid W := by
  rw [MakeChecks.laidMetH_plain _ _ _ (by kernel_rfl)] at h
  exact h
theorem short {H : Type} {x0 : ByteArray} (hk : Rows.uptoSmall H [(DataW.lit (H := H) (.string x0.data.toList))] = true) : x0.size ≤ 1048576 := by
  have h : Rows.uptoBulkAll [(DataW.lit (H := H) (.string x0.data.toList))] ≤ 1048576 := of_decide_eq_true hk
  simp only [Rows.uptoBulkAll, Rows.uptoBulk] at h
  have ex0 : x0.data.toList.length = x0.size := (Lib.size_eq x0).symm
  omega
set_option maxRecDepth 100000 in
theorem contract (H : Type) (enc : TypeId × Value → H) (W : World) (base : Nat) (args : Array Value) (ds gs : List (DataW H)) (before : List MemPlace)
    (hval : ∀ (j : Nat) t v, Tryd.f7.params[j]? = some t → args[j]? = some v → Value.okWide Tryd.prog W .any base t v)
    (hW : DataW.Whole enc Tryd.prog Tryd.f7.params.toList Rows.fnOneCharacterSpec.vars false W args.toList ds gs before) (hk : Rows.uptoSmall H (ds ++ gs) = true)
    (hsz : (DataW.weightsEach Tryd.prog (Tryd.f7.params.toList ++ (OpenSpec.ofChange Rows.fnOneCharacterSpec).bare.plain.varTypes Tryd.prog) (ds ++ gs)).all (· ≤ reachBytes) = true) (hL : laidMetH Tryd.prog Rows.fnOneCharacterUptoRow.laid W) :
    Calls Tryd.prog 7 args W fun e W' => ∃ v, e = .returned v ∧ Rows.fnOneCharacterSpec.post enc Tryd.prog Tryd.f7 false true false false W args v W' := by
  have hW' := hW
  obtain ⟨p, q, hA0, hV, rfl, hfz, hnd⟩ := hW
  have hA : DataW.TrodAll enc Tryd.prog W 0 (fun _ => true) true Tryd.f7.params.toList args.toList ds p := hA0
  rw [Tryd.params7] at hA hval
  obtain ⟨v0, vs0, d0, ds0, p0, q0, hargs, rfl, rfl, h0, r0⟩ := trodAll_cons hA
  obtain ⟨rfl, rfl, rfl⟩ := trodAll_nil r0
  obtain rfl : args = #[v0] := by cases args; simp_all
  obtain ⟨rfl, rfl⟩ := trodVars_none hV
  obtain ⟨x0, rfl, rfl, rfl, hm0⟩ := open_string Tryd.underlying9 (hval 0 9 v0 rfl rfl) h0
  have hz0 : x0.size ≤ reachBytes := by
    have := sized_string hsz (j := 0) (t := 9) (bytes := x0.data.toList) (by rw [Tryd.params7]; rfl) rfl
    rw [Lib.size_eq]; exact this
  have hr : reachBytes = 140737488351232 := by kernel_rfl
  clear hA0
  simp only [List.append_nil] at hW' hk
  have hT : Tabs W := by
    refine utf8Tabs_of_readsT (U8Types.of260 Tryd.lays260) u8extra ?_ ?_
    · rw [← Pinned.utf8First_eq]
      show Lib.VarReads Tryd.prog W _ Rows.laid_unicode_utf8_first
      exact Lib.laidMet.reads (laid_plain W hL) (by simp [Rows.fnOneCharacterUptoRow])
    · rw [← accept_eq]
      exact Lib.laidMet.reads (laid_plain W hL) (by simp [Rows.fnOneCharacterUptoRow])
  have hE : Sent W := sent_of (Lib.laidMet.reads (laid_plain W hL) (by simp [Rows.fnOneCharacterUptoRow]))
  refine (fnOneCharacter_walk x0 W (short hk) hT hE).mono fun e W' ⟨he, hb⟩ => ?_
  subst he
  exact ⟨_, rfl, law_post (ds := [_]) hW' (by kernel_rfl) rfl rfl rfl (by rw [Tryd.params7]; exact (trodAll_cons_mk (shut_string Tryd.underlying9 hm0) trodAll_mk0)) hb⟩

theorem laid_met (os : Os) : laidMetH Tryd.prog Rows.fnOneCharacterUptoRow.laid ((laidWorld os).forCall (fun _ _ => 0) ⟨#[], #[.string ⟨#[]⟩], []⟩).memory := by
  rw [MakeChecks.laidMetH_plain _ _ _ (by kernel_rfl)]
  exact laidMet_of_run' 8 (by kernel_rfl) (by kernel_rfl)
theorem reads (os : Os) {H : Type} (enc : TypeId × Value → H) : ∃ places, DataW.whole enc Tryd.prog ((laidWorld os).forCall (fun _ _ => 0) ⟨#[], #[.string ⟨#[]⟩], []⟩).memory Tryd.f7.params.toList Rows.fnOneCharacterSpec.vars false (#[.string ⟨#[]⟩] : Array Value).toList 8 = some ([.lit (.string [])], [], places) :=
  ⟨[], by kernel_rfl⟩
set_option maxRecDepth 100000 in
theorem lifted (os : Os) (started : os.Started) (H : Type) (enc : TypeId × Value → H) (F : Stop.Interp) :
    ReturnsInHanded {} Tryd.checked os 7 .any ((Rows.OpenSpec.upto Rows.fnOneCharacterSpec).preRow enc Tryd.prog Tryd.f7 Rows.fnOneCharacterUptoRow.domain false Rows.fnOneCharacterUptoRow.laid) (((Rows.OpenSpec.upto Rows.fnOneCharacterSpec).at F).post enc Tryd.prog Tryd.f7 false true false false) := by
  obtain ⟨places, hx⟩ := reads os enc
  refine returnsInHanded_of_row (C := Tryd.checked) (s := Rows.OpenSpec.upto Rows.fnOneCharacterSpec) own started (by kernel_rfl) Tryd.func7
    (witness_row_atRef (enc := enc) (C := Tryd.checked) false (laidWorld os) #[.string ⟨#[]⟩] rfl (by kernel_rfl) (by kernel_rfl) (by kernel_rfl)
      (OpenSpec.preRow_of_cond 8 hx (by kernel_rfl) (fun k hk => by cases hk; kernel_rfl) (by kernel_rfl) (laid_met os))) ?_
  intro W base args ds gs before hval hW _ hc hsz hL _ _
  exact contract H enc W base args ds gs before hval hW (hc _ rfl) hsz hL
theorem said : Rows.FnOneCharacterUptoSaid :=
  OpenClaim.holds_of_cond 7 Tryd.f7 rfl rfl rfl rfl rfl rfl rfl ⟨rfl, rfl, rfl, rfl, rfl⟩ rfl rfl rfl rfl rfl (by kernel_rfl) Tryd.func7 (by kernel_rfl)
    (of_decide_eq_true (by kernel_rfl)) (by unfold Func.isWrapper; first | (rw [if_pos (by decide +kernel)]; kernel_rfl) | (rw [if_neg (by decide +kernel)]; exact ⟨rfl, rfl⟩))
    (fun os started H enc _ F => by rw [OpenClaim.pre_eq_preRow]; exact lifted os started H enc F)
theorem named : Tryd.prog.funcNamed Rows.fnOneCharacterUptoRow.func = some 7 := by kernel_rfl
theorem plain (f : FuncId) (fn : Func) (hf : Tryd.pinned.checked.prog.funcNamed Rows.fnOneCharacterUptoRow.func = some f) (hfn : Tryd.pinned.checked.prog.funcs[f]? = some fn) :
    false = Tryd.pinned.checked.prog.looks [] ∧ ∀ (j : Nat) t, fn.params[j]? = some t → Tryd.pinned.checked.prog.wantsStandIn t = false := by
  obtain rfl : f = 7 := Option.some.inj (named.symm.trans hf) |>.symm
  obtain rfl : fn = Tryd.f7 := (Option.some.inj (Tryd.func7.symm.trans hfn)).symm
  refine ⟨by kernel_rfl, fun j t ht => ?_⟩
  rw [Tryd.params7] at ht
  have hm := Array.mem_of_getElem? ht
  simp only [List.mem_toArray, List.mem_cons, List.mem_nil_iff, or_false] at hm
  obtain rfl : t = 9 := hm
  exact (show Tryd.prog.wantsStandIn 9 = false by kernel_rfl)
theorem card : Rows.FnOneCharacterUptoCardSaid :=
  Claim7.holds_tied_plain_at .later [] _ _ _ _ said (fun _ h => by cases h) (by kernel_rfl) (fun _ h => by cases h) fnOneCharacterUpto_row_tie rfl ⟨rfl, rfl⟩ (by kernel_rfl) rfl plain (by kernel_rfl)
#print axioms card
end Go.Proofs.YtbnginnbpppegaaDoor.fnOneCharacter
