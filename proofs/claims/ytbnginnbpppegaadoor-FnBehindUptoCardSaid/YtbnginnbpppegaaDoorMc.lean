/-
  The walk over the law FnBehind.
-/
import Derived.Test.YtbnginnbpppegaaDoorVc
namespace Go.Proofs.YtbnginnbpppegaaDoor
open Go.RowKit Go.Uq

set_option maxHeartbeats 2000000 in
set_option maxRecDepth 100000 in
theorem fnBehind_walk (a b : ByteArray) (w : World) (hs : a.size + b.size ≤ 1048576) (hT : Tabs w) (hE : Sent w) :
    Calls Tryd.prog 4 #[.string a, .string b] w fun e w' => e = .returned (.bool true) ∧ Bw w w' := by
  have HW := Lib.hid (show Env w from ⟨hE, hT⟩)
  clear hT hE
  have z34 : (ByteArray.mk #[34]).size = 1 := rfl
  have QA := Lib.hid (fun (w : World) => quoted_any ⟨#[34]⟩ a w (by omega))
  have QB := Lib.hid (fun (w : World) => quoted_any ⟨#[34]⟩ b w (by omega))
  have lA := between_list 34 a
  have lB := between_list 34 b
  have zA := between_size 34 a
  have zB := between_size 34 b
  generalize (⟨#[34]⟩ : ByteArray) ++ a ++ ⟨#[34]⟩ = A at QA lA zA
  generalize (⟨#[34]⟩ : ByteArray) ++ b ++ ⟨#[34]⟩ = BB at QB lB zB
  obtain ⟨X, D1, hx1, _, hS1⟩ := specUnq_gen A (by omega)
  obtain ⟨Y, D2, hy1, _, hS2⟩ := specUnq_gen BB (by omega)
  rw [lA] at hx1
  rw [lB] at hy1
  have S1 := Lib.hid hS1
  have S2 := Lib.hid hS2
  clear hS1 hS2 lA lB zA zB
  have T1 := Lib.hid (fun (w : World) => isText_any a w (by omega))
  have T2 := Lib.hid (fun (w : World) => isText_any b w (by omega))
  generalize hV1 : Lib.validD a.data.toList = V1 at T1
  generalize hV2 : Lib.validD b.data.toList = V2 at T2
  clear hV1 hV2
  have HB := Bw.refl w
  by_cases hall : D1 = true ∧ D2 = true ∧ V1 = true ∧ V2 = true
  rotate_left
  · have hc : D1 = false ∨ (D1 = true ∧ D2 = false) ∨ (D1 = true ∧ D2 = true ∧ V1 = false) ∨ (D1 = true ∧ D2 = true ∧ V1 = true ∧ V2 = false) := by
      revert hall; cases D1 <;> cases D2 <;> cases V1 <;> cases V2 <;> simp
    clear hall hx1 hy1
    rcases hc with rfl | ⟨rfl, rfl⟩ | ⟨rfl, rfl, rfl⟩ | ⟨rfl, rfl, rfl, rfl⟩
    all_goals
      go_enter Tryd.func4, Tryd.ntmps4
      go_wp2_with (first
        | (go_at_call 16; (first | with_reducible refine (QA.out _).mono ?_ | with_reducible refine (QB.out _).mono ?_); rintro e w1 ⟨rfl, hb1⟩; replace HB := Bw.trans HB hb1; clear hb1)
        | (go_at_call 15; (first | with_reducible refine (S1.out _).mono ?_ | with_reducible refine (S2.out _).mono ?_); rintro e w1 ⟨rfl, hb1⟩; replace HB := Bw.trans HB hb1; clear hb1)
        | (go_at_call 17; (first | with_reducible refine (T1.out _).mono ?_ | with_reducible refine (T2.out _).mono ?_); rintro e w1 ⟨rfl, hb1⟩; replace HB := Bw.trans HB hb1; clear hb1))
      go_ret
      exact ⟨rfl, HB⟩
  obtain ⟨rfl, rfl, rfl, rfl⟩ := hall
  have hx := hx1 rfl
  have hy := hy1 rfl
  have lx : X.size ≤ a.size := by rw [Lib.size_eq, Lib.size_eq a]; exact specU_len (by decide) hx
  have ly : Y.size ≤ b.size := by rw [Lib.size_eq, Lib.size_eq b]; exact specU_len (by decide) hy
  have zab : (a ++ b).size = a.size + b.size := app_size _ _
  have zba : (b ++ a).size = b.size + a.size := app_size _ _
  have QC := Lib.hid (fun (w : World) => quoted_any ⟨#[34]⟩ (a ++ b) w (by omega))
  have QD := Lib.hid (fun (w : World) => quoted_any ⟨#[34]⟩ (b ++ a) w (by omega))
  have lC := between_list 34 (a ++ b)
  have lD := between_list 34 (b ++ a)
  have zC := between_size 34 (a ++ b)
  have zD := between_size 34 (b ++ a)
  rw [app_list a b] at lC
  rw [app_list b a] at lD
  generalize (⟨#[34]⟩ : ByteArray) ++ (a ++ b) ++ ⟨#[34]⟩ = CC at QC lC zC
  generalize (⟨#[34]⟩ : ByteArray) ++ (b ++ a) ++ ⟨#[34]⟩ = DD at QD lD zD
  have G1 := Lib.hid (fun (w' : World) (hb : Bw w w') => gives_is CC (X ++ Y) w' (HW.out.bw hb) (uqRoom.small true (by omega)) (by rw [lC, app_list]; exact unqL_of_specU (specU_behind hx hy)))
  have G2 := Lib.hid (fun (w' : World) (hb : Bw w w') => gives_is DD (Y ++ X) w' (HW.out.bw hb) (uqRoom.small true (by omega)) (by rw [lD, app_list]; exact unqL_of_specU (specU_behind hy hx)))
  have n1 : ¬ 9223372036854775807 < a.size + b.size := by omega
  have n2 : ¬ 9223372036854775807 < b.size + a.size := by omega
  have n3 : ¬ 9223372036854775807 < X.size + Y.size := by omega
  have n4 : ¬ 9223372036854775807 < Y.size + X.size := by omega
  clear hx1 hy1 hx hy lC lD zC zD zab zba
  go_enter Tryd.func4, Tryd.ntmps4
  go_wp2_with (first
    | (go_at_call 16; (first | with_reducible refine (QA.out _).mono ?_ | with_reducible refine (QB.out _).mono ?_ | with_reducible refine (QC.out _).mono ?_ | with_reducible refine (QD.out _).mono ?_); rintro e w1 ⟨rfl, hb1⟩; replace HB := Bw.trans HB hb1; clear hb1)
    | (go_at_call 15; (first | with_reducible refine (S1.out _).mono ?_ | with_reducible refine (S2.out _).mono ?_); rintro e w1 ⟨rfl, hb1⟩; replace HB := Bw.trans HB hb1; clear hb1)
    | (go_at_call 17; (first | with_reducible refine (T1.out _).mono ?_ | with_reducible refine (T2.out _).mono ?_); rintro e w1 ⟨rfl, hb1⟩; replace HB := Bw.trans HB hb1; clear hb1)
    | (go_at_call 18; (first | with_reducible refine (G1.out _ HB).mono ?_ | with_reducible refine (G2.out _ HB).mono ?_); rintro e w1 ⟨rfl, hb1⟩; replace HB := Bw.trans HB hb1; clear hb1))
  go_ret
  exact ⟨by first | rfl | simp, HB⟩
end Go.Proofs.YtbnginnbpppegaaDoor
