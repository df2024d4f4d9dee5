/-
  The walk over the law FnEscapedQuotes.
-/
import Derived.Test.YtbnginnbpppegaaDoorPl
namespace Go.Proofs.YtbnginnbpppegaaDoor
open Go.RowKit Go.Uq

set_option maxHeartbeats 4000000 in
set_option maxRecDepth 100000 in
theorem fnEscapedQuotes_walk (s : ByteArray) (w : World) (hs : s.size ≤ 1048576) (hT : Tabs w) (hE : Sent w) :
    Calls Tryd.prog 6 #[.string s] w fun e w' => e = .returned (.bool true) ∧ Bw w w' := by
  have HW := Lib.hid (show Env w from ⟨hE, hT⟩)
  clear hT hE
  have T1 := Lib.hid (fun (w : World) => isText_any s w (by omega))
  have H1 := Lib.hid (fun (w : World) => has_is s 92 92 w (by omega) rfl)
  have H2 := Lib.hid (fun (w : World) => has_is s 10 10 w (by omega) rfl)
  have H3 := Lib.hid (fun (w : World) => has_is s 13 13 w (by omega) rfl)
  have H4 := Lib.hid (fun (w : World) => has_is s 34 34 w (by omega) rfl)
  have H5 := Lib.hid (fun (w : World) => has_is s 39 39 w (by omega) rfl)
  have H6 := Lib.hid (fun (w : World) => has_is s 96 96 w (by omega) rfl)
  generalize hB0 : Lib.validD s.data.toList = B0 at T1
  generalize hB1 : hasB 92 s.data.toList = B1 at H1
  generalize hB2 : hasB 10 s.data.toList = B2 at H2
  generalize hB3 : hasB 13 s.data.toList = B3 at H3
  generalize hB4 : hasB 34 s.data.toList = B4 at H4
  generalize hB5 : hasB 39 s.data.toList = B5 at H5
  generalize hB6 : hasB 96 s.data.toList = B6 at H6
  by_cases hall : B0 = true ∧ B1 = false ∧ B2 = false ∧ B3 = false ∧ B4 = false ∧ B5 = false ∧ B6 = false
  rotate_left
  · have hc : B0 = false ∨ (B0 = true ∧ B1 = true) ∨ (B0 = true ∧ B1 = false ∧ B2 = true) ∨ (B0 = true ∧ B1 = false ∧ B2 = false ∧ B3 = true) ∨ (B0 = true ∧ B1 = false ∧ B2 = false ∧ B3 = false ∧ B4 = true) ∨ (B0 = true ∧ B1 = false ∧ B2 = false ∧ B3 = false ∧ B4 = false ∧ B5 = true) ∨ (B0 = true ∧ B1 = false ∧ B2 = false ∧ B3 = false ∧ B4 = false ∧ B5 = false ∧ B6 = true) := by
      revert hall; cases B0 <;> cases B1 <;> cases B2 <;> cases B3 <;> cases B4 <;> cases B5 <;> cases B6 <;> simp
    clear hB0 hB1 hB2 hB3 hB4 hB5 hB6 hall
    rcases hc with rfl | ⟨rfl, rfl⟩ | ⟨rfl, rfl, rfl⟩ | ⟨rfl, rfl, rfl, rfl⟩ | ⟨rfl, rfl, rfl, rfl, rfl⟩ | ⟨rfl, rfl, rfl, rfl, rfl, rfl⟩ | ⟨rfl, rfl, rfl, rfl, rfl, rfl, rfl⟩
    all_goals
      have HB := Bw.refl w
      go_enter Tryd.func6, Tryd.ntmps6
      go_wp2_with (first
        | (go_at_call 17; refine (T1.out _).mono ?_; rintro e w1 ⟨rfl, hb1⟩; replace HB := Bw.trans HB hb1; clear hb1)
        | (go_at_call 20; (first | with_reducible refine (H1.out _).mono ?_ | with_reducible refine (H2.out _).mono ?_ | with_reducible refine (H3.out _).mono ?_ | with_reducible refine (H4.out _).mono ?_ | with_reducible refine (H5.out _).mono ?_ | with_reducible refine (H6.out _).mono ?_); rintro e w1 ⟨rfl, hb1⟩; replace HB := Bw.trans HB hb1; clear hb1))
      go_ret
      exact ⟨rfl, HB⟩
  obtain ⟨rfl, rfl, rfl, rfl, rfl, rfl, rfl⟩ := hall
  have f1 := hasB_false hB1
  have f2 := hasB_false hB2
  have f3 := hasB_false hB3
  have f4 := hasB_false hB4
  have f6 := hasB_false hB6
  have hcl : ∀ x ∈ s.data.toList, x.toNat ≠ 34 ∧ x.toNat ≠ 92 ∧ x.toNat ≠ 10 := fun x hx => ⟨f4 x hx, f1 x hx, f2 x hx⟩
  have z34 : (ByteArray.mk #[34]).size = 1 := rfl
  have z39 : (ByteArray.mk #[39]).size = 1 := rfl
  have z96 : (ByteArray.mk #[96]).size = 1 := rfl
  have z1 : (s ++ (⟨#[92, 34]⟩ : ByteArray)).size = s.size + 2 := app_size _ _
  have z2 : (s ++ (⟨#[92, 34]⟩ : ByteArray) ++ s).size = s.size + 2 + s.size := by rw [app_size, z1]
  have z3 : (s ++ (⟨#[34]⟩ : ByteArray)).size = s.size + 1 := app_size _ _
  have z4 : (s ++ (⟨#[92, 39]⟩ : ByteArray)).size = s.size + 2 := app_size _ _
  have z5 : (s ++ (⟨#[39]⟩ : ByteArray)).size = s.size + 1 := app_size _ _
  have z6 : (s ++ (⟨#[34, 39, 92]⟩ : ByteArray)).size = s.size + 3 := app_size _ _
  have Q1 := Lib.hid (fun (w : World) => quoted_any ⟨#[34]⟩ (s ++ ⟨#[92, 34]⟩ ++ s) w (by omega))
  have Q2 := Lib.hid (fun (w : World) => quoted_any ⟨#[34]⟩ (s ++ ⟨#[92, 39]⟩) w (by omega))
  have Q3 := Lib.hid (fun (w : World) => quoted_any ⟨#[34]⟩ (s ++ ⟨#[39]⟩) w (by omega))
  have Q4 := Lib.hid (fun (w : World) => quoted_any ⟨#[34]⟩ (s ++ ⟨#[34]⟩) w (by omega))
  have Q5 := Lib.hid (fun (w : World) => quoted_any ⟨#[96]⟩ (s ++ ⟨#[34, 39, 92]⟩) w (by omega))
  have l1 := between_list 34 (s ++ ⟨#[92, 34]⟩ ++ s)
  have l2 := between_list 34 (s ++ ⟨#[92, 39]⟩)
  have l3 := between_list 34 (s ++ ⟨#[39]⟩)
  have l4 := between_list 34 (s ++ ⟨#[34]⟩)
  have l5 := between_list 96 (s ++ ⟨#[34, 39, 92]⟩)
  rw [app_list (s ++ ⟨#[92, 34]⟩) s, app_list s ⟨#[92, 34]⟩] at l1
  rw [app_list s ⟨#[92, 39]⟩] at l2
  rw [app_list s ⟨#[39]⟩] at l3
  rw [app_list s ⟨#[34]⟩] at l4
  rw [app_list s ⟨#[34, 39, 92]⟩] at l5
  have y1 := between_size 34 (s ++ ⟨#[92, 34]⟩ ++ s)
  have y2 := between_size 34 (s ++ ⟨#[92, 39]⟩)
  have y3 := between_size 34 (s ++ ⟨#[39]⟩)
  have y4 := between_size 34 (s ++ ⟨#[34]⟩)
  have y5 := between_size 96 (s ++ ⟨#[34, 39, 92]⟩)
  generalize (⟨#[34]⟩ : ByteArray) ++ (s ++ ⟨#[92, 34]⟩ ++ s) ++ ⟨#[34]⟩ = X1 at Q1 l1 y1
  generalize (⟨#[34]⟩ : ByteArray) ++ (s ++ ⟨#[92, 39]⟩) ++ ⟨#[34]⟩ = X2 at Q2 l2 y2
  generalize (⟨#[34]⟩ : ByteArray) ++ (s ++ ⟨#[39]⟩) ++ ⟨#[34]⟩ = X3 at Q3 l3 y3
  generalize (⟨#[34]⟩ : ByteArray) ++ (s ++ ⟨#[34]⟩) ++ ⟨#[34]⟩ = X4 at Q4 l4 y4
  generalize (⟨#[96]⟩ : ByteArray) ++ (s ++ ⟨#[34, 39, 92]⟩) ++ ⟨#[96]⟩ = X5 at Q5 l5 y5
  have G1 := Lib.hid (fun (w' : World) (hb : Bw w w') => gives_is X1 (s ++ ⟨#[34]⟩ ++ s) w' (HW.out.bw hb) (uqRoom.small true (by omega)) (by rw [l1, app_list, app_list]; exact unqL_of_specU (quotes1 hB0 hcl)))
  have R2 := Lib.hid (fun (w' : World) (hb : Bw w w') => refuses_yes X2 w' (HW.out.bw hb) (uqRoom.small true (by omega)) (by rw [l2]; exact quotes2 hB0 hcl))
  have G3 := Lib.hid (fun (w' : World) (hb : Bw w w') => gives_is X3 (s ++ ⟨#[39]⟩) w' (HW.out.bw hb) (uqRoom.small true (by omega)) (by rw [l3, app_list]; exact unqL_of_specU (quotes3 hB0 hcl)))
  have R4 := Lib.hid (fun (w' : World) (hb : Bw w w') => refuses_yes X4 w' (HW.out.bw hb) (uqRoom.small true (by omega)) (by rw [l4]; exact quotes4 hB0 hcl))
  have G5 := Lib.hid (fun (w' : World) (hb : Bw w w') => gives_is X5 (s ++ ⟨#[34, 39, 92]⟩) w' (HW.out.bw hb) (uqRoom.small true (by omega)) (by rw [l5, app_list]; exact unqL_of_specU (quotes5 hB0 f6 f3)))
  have G6 := Lib.hid (fun (w' : World) (hb : Bw w w') => gives_is ⟨#[39, 92, 39, 39]⟩ ⟨#[39]⟩ w' (HW.out.bw hb) (uqRoom.small true (by decide)) (by decide +kernel))
  have R7 := Lib.hid (fun (w' : World) (hb : Bw w w') => refuses_yes ⟨#[39, 92, 34, 39]⟩ w' (HW.out.bw hb) (uqRoom.small true (by decide)) (by decide +kernel))
  have G8 := Lib.hid (fun (w' : World) (hb : Bw w w') => gives_is ⟨#[39, 34, 39]⟩ ⟨#[34]⟩ w' (HW.out.bw hb) (uqRoom.small true (by decide)) (by decide +kernel))
  clear f1 f2 f3 f4 f6 hcl hB0 hB1 hB2 hB3 hB4 hB5 hB6 l1 l2 l3 l4 l5 y1 y2 y3 y4 y5
  have n1 : ¬ 9223372036854775807 < s.size + 2 := by omega
  have n2 : ¬ 9223372036854775807 < s.size + 1 := by omega
  have n3 : ¬ 9223372036854775807 < s.size + 3 := by omega
  have n4 : ¬ 9223372036854775807 < (s ++ (⟨#[92, 34]⟩ : ByteArray)).size + s.size := by omega
  have n5 : ¬ 9223372036854775807 < (s ++ (⟨#[34]⟩ : ByteArray)).size + s.size := by omega
  have n6 : ¬ 9223372036854775807 < s.size + 2 + s.size := by omega
  have n7 : ¬ 9223372036854775807 < s.size + 1 + s.size := by omega
  have HB := Bw.refl w
  go_enter Tryd.func6, Tryd.ntmps6
  go_wp2_with (first
    | (go_at_call 17; refine (T1.out _).mono ?_; rintro e w1 ⟨rfl, hb1⟩; replace HB := Bw.trans HB hb1; clear hb1)
    | (go_at_call 20; (first | with_reducible refine (H1.out _).mono ?_ | with_reducible refine (H2.out _).mono ?_ | with_reducible refine (H3.out _).mono ?_ | with_reducible refine (H4.out _).mono ?_ | with_reducible refine (H5.out _).mono ?_ | with_reducible refine (H6.out _).mono ?_); rintro e w1 ⟨rfl, hb1⟩; replace HB := Bw.trans HB hb1; clear hb1)
    | (go_at_call 16; (first | with_reducible refine (Q1.out _).mono ?_ | with_reducible refine (Q2.out _).mono ?_ | with_reducible refine (Q3.out _).mono ?_ | with_reducible refine (Q4.out _).mono ?_ | with_reducible refine (Q5.out _).mono ?_); rintro e w1 ⟨rfl, hb1⟩; replace HB := Bw.trans HB hb1; clear hb1)
    | (go_at_call 18; (first | with_reducible refine (G1.out _ HB).mono ?_ | with_reducible refine (G3.out _ HB).mono ?_ | with_reducible refine (G5.out _ HB).mono ?_ | with_reducible refine (G6.out _ HB).mono ?_ | with_reducible refine (G8.out _ HB).mono ?_); rintro e w1 ⟨rfl, hb1⟩; replace HB := Bw.trans HB hb1; clear hb1)
    | (go_at_call 19; (first | with_reducible refine (R2.out _ HB).mono ?_ | with_reducible refine (R4.out _ HB).mono ?_ | with_reducible refine (R7.out _ HB).mono ?_); rintro e w1 ⟨rfl, hb1⟩; replace HB := Bw.trans HB hb1; clear hb1))
  go_ret
  exact ⟨by first | rfl | simp, HB⟩
end Go.Proofs.YtbnginnbpppegaaDoor
