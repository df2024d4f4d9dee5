/-
  The walks over the laws on CanBackquote.
-/
import Derived.Test.YtidjchoneopmbaaDoorFrame
namespace Go.Proofs.YtidjchoneopmbaaDoor
open Go.RowKit Go.Uq

set_option maxHeartbeats 400000 in
theorem fnCanBackquote_walk (s : ByteArray) (w : World) (hs : s.size ≤ 9223372036854775807) (hT : Tabs w) :
    Calls Tryd.prog 3 #[.string s] w fun e w' => e = .returned (.bool true) ∧ Bw w w' := by
  have c1 := bqc_any s w hs
  cases hq : bqc s.data.toList with
  | true =>
    rw [hq] at c1
    have C1 := Lib.hid c1
    clear c1 hq
    go_enter Tryd.func3, Tryd.ntmps3
    go_wp2_with (go_at_call 10; refine C1.out.mono ?_; rintro e w' ⟨rfl, hb'⟩)
    go_ret
    exact ⟨rfl, hb'⟩
  | false =>
    rw [hq] at c1
    have C1 := Lib.hid c1
    have c2 := fun (w' : World) (hb : Bw w w') => implCan_any s w' hs (hT.bw hb)
    have c3 := fun (w' : World) => canS_any s w' hs
    rw [canL_eq s.data.toList.length _ (Nat.le_refl _) hq] at c2
    have C2 := Lib.hid c2
    have C3 := Lib.hid c3
    clear c1 c2 c3 hq
    generalize canSpec s.data.toList = B at C2 C3
    go_enter Tryd.func3, Tryd.ntmps3
    go_wp2_with (first
      | (go_at_call 10; refine C1.out.mono ?_; rintro e w1 ⟨rfl, hb1⟩)
      | (go_at_call 11; refine (C2.out _ hb1).mono ?_; rintro e w2 ⟨rfl, hb2⟩)
      | (go_at_call 12; refine (C3.out _).mono ?_; rintro e w3 ⟨rfl, hb3⟩))
    go_ret
    exact ⟨by simp, (hb1.trans hb2).trans hb3⟩
end Go.Proofs.YtidjchoneopmbaaDoor
