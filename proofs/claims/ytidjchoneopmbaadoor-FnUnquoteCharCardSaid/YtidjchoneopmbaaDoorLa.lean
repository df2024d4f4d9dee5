/-
  The walks over the laws on CanBackquote.
-/
import Derived.Test.YtidjchoneopmbaaDoorFrame
namespace Go.Proofs.YtidjchoneopmbaaDoor
open Go.RowKit Go.Uq

set_option maxHeartbeats 400000 in
theorem fnCanBackquote_walk (s : ByteArray) (w : World) (hs : s.size ≤ 9223372036854775807) (hT : Tabs w) :
    Calls Tryd.prog 3 #[.string s] w fun e w' => e = .returned (.bool true) ∧ Bw w w' := by
  have c1 := bqc_any s w hs
  cases hq : bqc s.data.toList with
  | true =>
    rw [hq] at c1
    have C1 := Lib.hid c1
    clear c1 hq
    go_enter Tryd.func3, Tryd.ntmps3
    go_wp2_with (go_at_call 10; refine C1.out.mono ?_; rintro e w' ⟨rfl, hb'⟩)
    go_ret
    exact ⟨rfl, hb'⟩
  | false =>
    rw [hq] at c1
    have C1 := Lib.hid c1
    have c2 := fun (w' : World) (hb : Bw w w') => implCan_any s w' hs (hT.bw hb)
    have c3 := fun (w' : World) => canS_any s w' hs
    rw [canL_eq s.data.toList.length _ (Nat.le_refl _) hq] at c2
    have C2 := Lib.hid c2
    have C3 := Lib.hid c3
    clear c1 c2 c3 hq
    generalize canSpec s.data.toList = B at C2 C3
    go_enter Tryd.func3, Tryd.ntmps3
    go_wp2_with (first
      | (go_at_call 10; refine C1.out.mono ?_; rintro e w1 ⟨rfl, hb1⟩)
      | (go_at_call 11; refine (C2.out _ hb1).mono ?_; rintro e w2 ⟨rfl, hb2⟩)
      | (go_at_call 12; refine (C3.out _).mono ?_; rintro e w3 ⟨rfl, hb3⟩))
    go_ret
    exact ⟨by simp, (hb1.trans hb2).trans hb3⟩

theorem app_list (a b : ByteArray) : (a ++ b).data.toList = a.data.toList ++ b.data.toList := by simp
theorem app_size (a b : ByteArray) : (a ++ b).size = a.size + b.size := by rw [Lib.size_eq, app_list, List.length_append, ← Lib.size_eq, ← Lib.size_eq]

set_option maxHeartbeats 400000 in
theorem fnCanBoth_walk (a b : ByteArray) (w : World) (ha : a.size ≤ 140737488351232) (hb : b.size ≤ 140737488351232) (hT : Tabs w) :
    Calls Tryd.prog 4 #[.string a, .string b] w fun e w' => e = .returned (.bool true) ∧ Bw w w' := by
  have t1 := fun (w : World) => isText_any a w (by omega)
  have t2 := fun (w : World) => isText_any b w (by omega)
  have q1 := fun (w : World) => bqc_any a w (by omega)
  have q2 := fun (w : World) => bqc_any b w (by omega)
  cases hv1 : Lib.validD a.data.toList with
  | false =>
    rw [hv1] at t1
    have T1 := Lib.hid t1
    clear t1 t2 q1 q2 hv1
    go_enter Tryd.func4, Tryd.ntmps4
    go_wp2_with (go_at_call 13; refine (T1.out _).mono ?_; rintro e w1 ⟨rfl, hb1⟩)
    go_ret
    exact ⟨rfl, hb1⟩
  | true =>
  rw [hv1] at t1
  have T1 := Lib.hid t1
  clear t1
  cases hv2 : Lib.validD b.data.toList with
  | false =>
    rw [hv2] at t2
    have T2 := Lib.hid t2
    clear t2 q1 q2 hv1 hv2
    go_enter Tryd.func4, Tryd.ntmps4
    go_wp2_with fail
    refine (T1.out _).mono ?_
    rintro e w1 ⟨rfl, hb1⟩
    go_wp2_with fail
    refine (T2.out _).mono ?_
    rintro e w2 ⟨rfl, hb2⟩
    go_wp2_with fail
    go_ret
    exact ⟨rfl, hb1.trans hb2⟩
  | true =>
  rw [hv2] at t2
  have T2 := Lib.hid t2
  clear t2
  cases hq1 : bqc a.data.toList with
  | true =>
    rw [hq1] at q1
    have Q1 := Lib.hid q1
    clear q1 q2 hv1 hv2 hq1
    go_enter Tryd.func4, Tryd.ntmps4
    go_wp2_with fail
    refine (T1.out _).mono ?_
    rintro e w1 ⟨rfl, hb1⟩
    go_wp2_with fail
    refine (T2.out _).mono ?_
    rintro e w2 ⟨rfl, hb2⟩
    go_wp2_with fail
    refine (Q1.out _).mono ?_
    rintro e w3 ⟨rfl, hb3⟩
    go_wp2_with fail
    go_ret
    exact ⟨rfl, (hb1.trans hb2).trans hb3⟩
  | false =>
  rw [hq1] at q1
  have Q1 := Lib.hid q1
  clear q1
  cases hq2 : bqc b.data.toList with
  | true =>
    rw [hq2] at q2
    have Q2 := Lib.hid q2
    clear q2 hv1 hv2 hq1 hq2
    go_enter Tryd.func4, Tryd.ntmps4
    go_wp2_with fail
    refine (T1.out _).mono ?_
    rintro e w1 ⟨rfl, hb1⟩
    go_wp2_with fail
    refine (T2.out _).mono ?_
    rintro e w2 ⟨rfl, hb2⟩
    go_wp2_with fail
    refine (Q1.out _).mono ?_
    rintro e w3 ⟨rfl, hb3⟩
    go_wp2_with fail
    refine (Q2.out _).mono ?_
    rintro e w4 ⟨rfl, hb4⟩
    go_wp2_with fail
    go_ret
    exact ⟨rfl, ((hb1.trans hb2).trans hb3).trans hb4⟩
  | false =>
  rw [hq2] at q2
  have Q2 := Lib.hid q2
  clear q2
  have n1 : ¬ 9223372036854775807 < a.size + b.size := by omega
  have i1 := fun (w' : World) (hw : Bw w w') => implCan_any (a ++ b) w' (by rw [app_size]; omega) (hT.bw hw)
  have i2 := fun (w' : World) (hw : Bw w w') => implCan_any ⟨#[]⟩ w' (by simp [ByteArray.size]) (hT.bw hw)
  have c1 := fun (w : World) => canS_any a w (by omega)
  have c2 := fun (w : World) => canS_any b w (by omega)
  rw [app_list, canL_app a.data.toList.length _ _ (Nat.le_refl _) hv1, canL_eq a.data.toList.length _ (Nat.le_refl _) hq1, canL_eq b.data.toList.length _ (Nat.le_refl _) hq2] at i1
  rw [show canL (ByteArray.mk #[]).data.toList = true from rfl] at i2
  generalize canSpec a.data.toList = A at i1 c1
  generalize canSpec b.data.toList = B at i1 c2
  have I1 := Lib.hid i1
  have I2 := Lib.hid i2
  have C1 := Lib.hid c1
  have C2 := Lib.hid c2
  clear i1 i2 c1 c2 hv1 hv2 hq1 hq2
  cases A with
  | false =>
    go_enter Tryd.func4, Tryd.ntmps4
    go_wp2_with fail
    refine (T1.out _).mono ?_
    rintro e w1 ⟨rfl, hb1⟩
    go_wp2_with fail
    refine (T2.out _).mono ?_
    rintro e w2 ⟨rfl, hb2⟩
    go_wp2_with fail
    refine (Q1.out _).mono ?_
    rintro e w3 ⟨rfl, hb3⟩
    go_wp2_with fail
    refine (Q2.out _).mono ?_
    rintro e w4 ⟨rfl, hb4⟩
    have hx := ((hb1.trans hb2).trans hb3).trans hb4
    go_wp2_with fail
    refine (I1.out _ hx).mono ?_
    rintro e w5 ⟨rfl, hb5⟩
    go_wp2_with fail
    refine (C1.out _).mono ?_
    rintro e w6 ⟨rfl, hb6⟩
    go_wp2_with fail
    refine (I2.out _ ((hx.trans hb5).trans hb6)).mono ?_
    rintro e w7 ⟨rfl, hb7⟩
    go_wp2_with fail
    go_ret
    exact ⟨by simp, ((hx.trans hb5).trans hb6).trans hb7⟩
  | true =>
    go_enter Tryd.func4, Tryd.ntmps4
    go_wp2_with fail
    refine (T1.out _).mono ?_
    rintro e w1 ⟨rfl, hb1⟩
    go_wp2_with fail
    refine (T2.out _).mono ?_
    rintro e w2 ⟨rfl, hb2⟩
    go_wp2_with fail
    refine (Q1.out _).mono ?_
    rintro e w3 ⟨rfl, hb3⟩
    go_wp2_with fail
    refine (Q2.out _).mono ?_
    rintro e w4 ⟨rfl, hb4⟩
    have hx := ((hb1.trans hb2).trans hb3).trans hb4
    go_wp2_with fail
    refine (I1.out _ hx).mono ?_
    rintro e w5 ⟨rfl, hb5⟩
    go_wp2_with fail
    refine (C1.out _).mono ?_
    rintro e w6 ⟨rfl, hb6⟩
    go_wp2_with fail
    refine (C2.out _).mono ?_
    rintro e w7 ⟨rfl, hb7⟩
    go_wp2_with fail
    refine (I2.out _ (((hx.trans hb5).trans hb6).trans hb7)).mono ?_
    rintro e w8 ⟨rfl, hb8⟩
    go_wp2_with fail
    go_ret
    exact ⟨by simp, (((hx.trans hb5).trans hb6).trans hb7).trans hb8⟩
end Go.Proofs.YtidjchoneopmbaaDoor
