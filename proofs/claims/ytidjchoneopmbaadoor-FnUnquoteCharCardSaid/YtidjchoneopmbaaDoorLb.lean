/-
  The walk over the law FnQuoteArgument.
-/
import Derived.Test.YtidjchoneopmbaaDoorWk
import Derived.Test.YtidjchoneopmbaaDoorLa
namespace Go.Proofs.YtidjchoneopmbaaDoor
open Go.RowKit Go.Uq

/-- impl.UnquoteChar, by what is left of the text -/
theorem implUC_is (x y : ByteArray) (q r k : Nat) (m : Bool) (w : World) (hE : Sent w) (hT : Tabs w) (hq : q = 0 ∨ q = 34 ∨ q = 39) (h : uc x.data.toList q = some (r, m, k)) (hy : x.extract k x.size = y) :
    Calls Tryd.prog 14 #[.string x, .int .u8 q] w fun e w' => e = .returned (.tuple #[.int .i32 r, .bool m, .string y, .bool true]) ∧ Bw w w' := by
  have := implUC_some x q r k m w hE hT hq h
  rw [hy] at this
  exact this
def Env (w : World) : Prop := Sent w ∧ Tabs w
theorem Env.bw {w w' : World} (h : Env w) (hb : Bw w w') : Env w' := ⟨h.1.bw hb, h.2.bw hb⟩
theorem implUC_yes (x y : ByteArray) (q : Int) (qn r k : Nat) (m : Bool) (w : World) (hW : Env w) (hqn : q = qn) (hq : qn = 0 ∨ qn = 34 ∨ qn = 39) (h : uc x.data.toList qn = some (r, m, k)) (hy : x.extract k x.size = y) :
    Calls Tryd.prog 14 #[.string x, .int .u8 q] w fun e w' => e = .returned (.tuple #[.int .i32 r, .bool m, .string y, .bool true]) ∧ Bw w w' := by
  subst hqn
  exact implUC_is x y qn r k m w hW.1 hW.2 hq h hy
theorem implUC_no (x : ByteArray) (q : Int) (qn : Nat) (w : World) (hW : Env w) (hqn : q = qn) (hq : qn = 0 ∨ qn = 34 ∨ qn = 39) (h : uc x.data.toList qn = none) :
    Calls Tryd.prog 14 #[.string x, .int .u8 q] w fun e w' => e = .returned (.tuple #[.int .i32 0, .bool false, .string ⟨#[]⟩, .bool false]) ∧ Bw w w' := by
  subst hqn
  exact implUC_none x qn w hW.1 hW.2 hq h

theorem two_list (a b : UInt8) (s : ByteArray) : ((⟨#[a]⟩ : ByteArray) ++ ⟨#[b]⟩ ++ s).data.toList = a :: b :: s.data.toList := by rw [app_list, app_list]; rfl
theorem one_list (a : UInt8) (s : ByteArray) : ((⟨#[a]⟩ : ByteArray) ++ s).data.toList = a :: s.data.toList := by rw [app_list]; rfl
theorem two_rest (a b : UInt8) (s : ByteArray) : ((⟨#[a]⟩ : ByteArray) ++ ⟨#[b]⟩ ++ s).extract 2 ((⟨#[a]⟩ : ByteArray) ++ ⟨#[b]⟩ ++ s).size = s := by
  apply ba_ext
  rw [Lib.extract_to_end, two_list]
  rfl
theorem one_rest (a : UInt8) (s : ByteArray) : ((⟨#[a]⟩ : ByteArray) ++ s).extract 1 ((⟨#[a]⟩ : ByteArray) ++ s).size = s := by
  apply ba_ext
  rw [Lib.extract_to_end, one_list]
  rfl
theorem ucq39_own (l : List UInt8) : uc (92 :: 39 :: l) 39 = some (39, false, 2) := by simp [uc, esc, simp1]
theorem ucq39_plain (l : List UInt8) : uc (39 :: l) 39 = none := by simp [uc]
theorem ucq39_other (l : List UInt8) : uc (92 :: 39 :: l) 34 = none := by simp [uc, esc, simp1, num, digN]
theorem ucq39_none (l : List UInt8) : uc (92 :: 39 :: l) 0 = none := by simp [uc, esc, simp1, num, digN]
theorem ucq39_zero (l : List UInt8) : uc (39 :: l) 0 = some (39, false, 1) := by simp [uc]
theorem ucq34_own (l : List UInt8) : uc (92 :: 34 :: l) 34 = some (34, false, 2) := by simp [uc, esc, simp1]
theorem ucq34_plain (l : List UInt8) : uc (34 :: l) 34 = none := by simp [uc]
theorem ucq34_other (l : List UInt8) : uc (92 :: 34 :: l) 39 = none := by simp [uc, esc, simp1, num, digN]
theorem ucq34_none (l : List UInt8) : uc (92 :: 34 :: l) 0 = none := by simp [uc, esc, simp1, num, digN]
theorem ucq34_zero (l : List UInt8) : uc (34 :: l) 0 = some (34, false, 1) := by simp [uc]
set_option maxHeartbeats 1000000 in
set_option maxRecDepth 100000 in
theorem fnQuoteArgument_walk (s : ByteArray) (w : World) (hs : s.size ≤ 140737488351232) (hT : Tabs w) (hE : Sent w) :
    Calls Tryd.prog 5 #[.string s] w fun e w' => e = .returned (.bool true) ∧ Bw w w' := by
  have hW := Lib.hid (show Env w from ⟨hE, hT⟩)
  clear hT hE
  have sz1 : ∀ (W : World) (o : Obj), (W.alloc o).heap.size = W.heap.size + 1 := fun W o => by simp
  have hcv1 : ∀ (o : Obj) (a : Int), (convert 24 9 (.slice (some ⟨w.heap.size + 1, 0, none⟩) 1 1)).run Tryd.prog ((w.alloc o).alloc (.cells #[.int .u8 a] 5)) = .ok (.string (strOfNums [a])) ((w.alloc o).alloc (.cells #[.int .u8 a] 5)) := fun o a => by
    have := conv1 (w.alloc o) a
    rwa [sz1] at this
  clear sz1
  have e39 : strOfNums [39] = ⟨#[39]⟩ := rfl
  have e34 : strOfNums [34] = ⟨#[34]⟩ := rfl
  have n1 : ¬ 9223372036854775807 < 2 + s.size := by omega
  have n2 : ¬ 9223372036854775807 < 1 + s.size := by omega
  go_enter Tryd.func5, Tryd.ntmps5
  go_wp2_with fail
  refine wp_loop_rounds 3 ?_
  rw [rounds_succ]
  go_wp2_with fail
  refine (implUC_yes _ s _ 39 39 2 false _ (hW.out.bw (((Bw.refl w).alloc _).alloc _)) rfl (by omega) (by rw [two_list]; exact ucq39_own _) (two_rest _ _ _)).mono ?_
  rintro e xa ⟨rfl, hbxa⟩
  have HBxa := Lib.hid (Bw.trans (((Bw.refl w).alloc _).alloc _) hbxa)
  go_wp2_with fail
  refine (implUC_no _ _ 39 _ (hW.out.bw HBxa.out) rfl (by omega) (by rw [one_list]; exact ucq39_plain _)).mono ?_
  rintro e xb ⟨rfl, hbxb⟩
  have HBxb := Lib.hid (HBxa.out.trans hbxb)
  go_wp2_with fail
  refine (implUC_no _ _ 34 _ (hW.out.bw HBxb.out) rfl (by omega) (by rw [two_list]; exact ucq39_other _)).mono ?_
  rintro e xc ⟨rfl, hbxc⟩
  have HBxc := Lib.hid (HBxb.out.trans hbxc)
  go_wp2_with fail
  refine (implUC_no _ _ 0 _ (hW.out.bw HBxc.out) rfl (by omega) (by rw [two_list]; exact ucq39_none _)).mono ?_
  rintro e xd ⟨rfl, hbxd⟩
  have HBxd := Lib.hid (HBxc.out.trans hbxd)
  go_wp2_with fail
  refine (implUC_yes _ s _ 0 39 1 false _ (hW.out.bw HBxd.out) rfl (by omega) (by rw [one_list]; exact ucq39_zero _) (one_rest _ _)).mono ?_
  rintro e xe ⟨rfl, hbxe⟩
  have HBxe := Lib.hid (HBxd.out.trans hbxe)
  have hc2 : xe.cell? ⟨w.heap.size, 1, none⟩ = some (.int .u8 34) := by
    have hkeep : Bw (w.alloc (.cells #[.int .u8 39, .int .u8 34] 5)) xe := ((((((Bw.refl _).alloc _).trans hbxa).trans hbxb).trans hbxc).trans hbxd).trans hbxe
    rw [Below.cell hkeep (by simp)]
    simp [go_sem]
  have hcv2 := conv1 xe
  clear hbxa hbxb hbxc hbxd hbxe
  go_wp2_with fail
  rw [rounds_succ]
  go_wp2_with fail
  refine (implUC_yes _ s _ 34 34 2 false _ (hW.out.bw (HBxe.out.alloc _)) rfl (by omega) (by rw [two_list]; exact ucq34_own _) (two_rest _ _ _)).mono ?_
  rintro e ya ⟨rfl, hbya⟩
  have HBya := Lib.hid (Bw.trans (HBxe.out.alloc _) hbya)
  go_wp2_with fail
  refine (implUC_no _ _ 34 _ (hW.out.bw HBya.out) rfl (by omega) (by rw [one_list]; exact ucq34_plain _)).mono ?_
  rintro e yb ⟨rfl, hbyb⟩
  have HByb := Lib.hid (HBya.out.trans hbyb)
  go_wp2_with fail
  refine (implUC_no _ _ 39 _ (hW.out.bw HByb.out) rfl (by omega) (by rw [two_list]; exact ucq34_other _)).mono ?_
  rintro e yc ⟨rfl, hbyc⟩
  have HByc := Lib.hid (HByb.out.trans hbyc)
  go_wp2_with fail
  refine (implUC_no _ _ 0 _ (hW.out.bw HByc.out) rfl (by omega) (by rw [two_list]; exact ucq34_none _)).mono ?_
  rintro e yd ⟨rfl, hbyd⟩
  have HByd := Lib.hid (HByc.out.trans hbyd)
  go_wp2_with fail
  refine (implUC_yes _ s _ 0 34 1 false _ (hW.out.bw HByd.out) rfl (by omega) (by rw [one_list]; exact ucq34_zero _) (one_rest _ _)).mono ?_
  rintro e ye ⟨rfl, hbye⟩
  have HBye := Lib.hid (HByd.out.trans hbye)
  go_wp2_with fail
  rw [rounds_succ]
  go_wp2_with fail
  go_ret
  exact ⟨rfl, HBye.out⟩
end Go.Proofs.YtidjchoneopmbaaDoor
