/-
  The walks over the laws FnCanRaw and FnUnquoted.
-/
import Derived.Test.YtidjchoneopmbaaDoorHp
namespace Go.Proofs.YtidjchoneopmbaaDoor
open Go.RowKit Go.Uq

theorem canL_96 : canL [96] = false := by decide +kernel
theorem canL_10 : canL [10] = false := by decide +kernel
set_option maxHeartbeats 800000 in
set_option maxRecDepth 100000 in
theorem fnCanRaw_walk (s : ByteArray) (w : World) (hs : s.size ≤ 140737488351232) (hT : Tabs w) (hE : Sent w) :
    Calls Tryd.prog 9 #[.string s] w fun e w' => e = .returned (.bool true) ∧ Bw w w' := by
  have HW := Lib.hid (show Env w from ⟨hE, hT⟩)
  clear hT hE
  have C1 := Lib.hid (fun (w : World) => bqc_any s w (by omega))
  have C2 := Lib.hid (fun (w : World) => canS_any s w (by omega))
  generalize hB0 : bqc s.data.toList = B0 at C1
  generalize hB1 : canSpec s.data.toList = B1 at C2
  by_cases hall : B0 = false ∧ B1 = true
  rotate_left
  · have hc : B0 = true ∨ (B0 = false ∧ B1 = false) := by revert hall; cases B0 <;> cases B1 <;> simp
    clear hB0 hB1 hall
    rcases hc with rfl | ⟨rfl, rfl⟩
    all_goals
      have HB := Bw.refl w
      go_enter Tryd.func9, Tryd.ntmps9
      go_wp2_with (first
        | (go_at_call 10; refine (C1.out _).mono ?_; rintro e w1 ⟨rfl, hb1⟩; replace HB := Bw.trans HB hb1; clear hb1)
        | (go_at_call 12; refine (C2.out _).mono ?_; rintro e w1 ⟨rfl, hb1⟩; replace HB := Bw.trans HB hb1; clear hb1))
      go_ret
      exact ⟨rfl, HB⟩
  obtain ⟨rfl, rfl⟩ := hall
  have hcl : canL s.data.toList = true := by rw [canL_eq s.data.toList.length _ (Nat.le_refl _) hB0, hB1]
  have hv : Lib.validD s.data.toList = true := by
    unfold canSpec at hB1
    rw [Bool.and_eq_true] at hB1
    exact hB1.1
  have hby := can_bytes s.data.toList.length _ (Nat.le_refl _) hcl
  have C3 := Lib.hid (fun (w' : World) (hb : Bw w w') => implCan_any s w' (by omega) (HW.out.bw hb).2)
  rw [hcl] at C3
  have e4 : canL (s ++ ⟨#[96]⟩).data.toList = false := by
    rw [app_list, canL_app s.data.toList.length _ _ (Nat.le_refl _) hv, show (ByteArray.mk #[96]).data.toList = [96] from rfl, canL_96]
    simp
  have e5 : canL ((⟨#[10]⟩ : ByteArray) ++ s).data.toList = false := by
    rw [app_list, show (ByteArray.mk #[10]).data.toList = [10] from rfl, canL_app 1 _ _ (by simp) (by decide +kernel), canL_10]
    simp
  have z4 : (s ++ (⟨#[96]⟩ : ByteArray)).size = s.size + 1 := by rw [app_size]; rfl
  have z5 : ((⟨#[10]⟩ : ByteArray) ++ s).size = 1 + s.size := by rw [app_size]; rfl
  have C4 := Lib.hid (fun (w' : World) (hb : Bw w w') => implCan_any (s ++ ⟨#[96]⟩) w' (by omega) (HW.out.bw hb).2)
  have C5 := Lib.hid (fun (w' : World) (hb : Bw w w') => implCan_any (⟨#[10]⟩ ++ s) w' (by omega) (HW.out.bw hb).2)
  rw [e4] at C4
  rw [e5] at C5
  have Q := Lib.hid (fun (w : World) => quoted_any ⟨#[96]⟩ s w (by rw [show (ByteArray.mk #[96]).size = 1 from rfl]; omega))
  have hDl := between_list 96 s
  have hDz := between_size 96 s
  generalize hD : (⟨#[96]⟩ : ByteArray) ++ s ++ ⟨#[96]⟩ = D at Q hDl hDz
  have G := Lib.hid (fun (w' : World) (hb : Bw w w') => gives_is D s w' (HW.out.bw hb) ⟨by omega, fun _ => ⟨by omega, .inr (easy_head hDl (by decide))⟩⟩
    (by rw [hDl, unqL_of_specU (specU_rawText (by decide) hv fun x hx => (hby x hx).1), filter_no13 fun x hx => (hby x hx).2]))
  clear hD hDl hDz hby hv hcl hB0 hB1 e4 e5
  have n1 : ¬ 9223372036854775807 < s.size + 1 := by omega
  have n2 : ¬ 9223372036854775807 < 1 + s.size := by omega
  have HB := Bw.refl w
  go_enter Tryd.func9, Tryd.ntmps9
  go_wp2_with (first
    | (go_at_call 10; refine (C1.out _).mono ?_; rintro e w1 ⟨rfl, hb1⟩; replace HB := Bw.trans HB hb1; clear hb1)
    | (go_at_call 12; refine (C2.out _).mono ?_; rintro e w1 ⟨rfl, hb1⟩; replace HB := Bw.trans HB hb1; clear hb1)
    | (go_at_call 21; refine (Q.out _).mono ?_; rintro e w1 ⟨rfl, hb1⟩; replace HB := Bw.trans HB hb1; clear hb1)
    | (go_at_call 23; refine (G.out _ HB).mono ?_; rintro e w1 ⟨rfl, hb1⟩; replace HB := Bw.trans HB hb1; clear hb1)
    | (go_at_call 11; (first | with_reducible refine (C3.out _ HB).mono ?_ | with_reducible refine (C4.out _ HB).mono ?_ | with_reducible refine (C5.out _ HB).mono ?_); rintro e w1 ⟨rfl, hb1⟩; replace HB := Bw.trans HB hb1; clear hb1))
  go_ret
  exact ⟨rfl, HB⟩

set_option maxHeartbeats 1000000 in
set_option maxRecDepth 100000 in
theorem fnUnquoted_walk (s : ByteArray) (w : World) (hs : s.size ≤ 140737488351232) (hT : Tabs w) (hE : Sent w) :
    Calls Tryd.prog 8 #[.string s] w fun e w' => e = .returned (.bool true) ∧ Bw w w' := by
  have HW := Lib.hid (show Env w from ⟨hE, hT⟩)
  clear hT hE
  have T1 := Lib.hid (fun (w : World) => isText_any s w (by omega))
  have H1 := Lib.hid (fun (w : World) => has_is s 34 34 w (by omega) rfl)
  have H2 := Lib.hid (fun (w : World) => has_is s 39 39 w (by omega) rfl)
  have H3 := Lib.hid (fun (w : World) => has_is s 96 96 w (by omega) rfl)
  have H4 := Lib.hid (fun (w : World) => has_is s 92 92 w (by omega) rfl)
  have H5 := Lib.hid (fun (w : World) => has_is s 10 10 w (by omega) rfl)
  have H6 := Lib.hid (fun (w : World) => has_is s 13 13 w (by omega) rfl)
  generalize hB0 : Lib.validD s.data.toList = B0 at T1
  generalize hB1 : hasB 34 s.data.toList = B1 at H1
  generalize hB2 : hasB 39 s.data.toList = B2 at H2
  generalize hB3 : hasB 96 s.data.toList = B3 at H3
  generalize hB4 : hasB 92 s.data.toList = B4 at H4
  generalize hB5 : hasB 10 s.data.toList = B5 at H5
  generalize hB6 : hasB 13 s.data.toList = B6 at H6
  by_cases hall : B0 = true ∧ B1 = false ∧ B2 = false ∧ B3 = false ∧ B4 = false ∧ B5 = false ∧ B6 = false
  rotate_left
  · have hc : B0 = false ∨ (B0 = true ∧ B1 = true) ∨ (B0 = true ∧ B1 = false ∧ B2 = true) ∨ (B0 = true ∧ B1 = false ∧ B2 = false ∧ B3 = true) ∨ (B0 = true ∧ B1 = false ∧ B2 = false ∧ B3 = false ∧ B4 = true) ∨ (B0 = true ∧ B1 = false ∧ B2 = false ∧ B3 = false ∧ B4 = false ∧ B5 = true) ∨ (B0 = true ∧ B1 = false ∧ B2 = false ∧ B3 = false ∧ B4 = false ∧ B5 = false ∧ B6 = true) := by
      revert hall; cases B0 <;> cases B1 <;> cases B2 <;> cases B3 <;> cases B4 <;> cases B5 <;> cases B6 <;> simp
    clear hB0 hB1 hB2 hB3 hB4 hB5 hB6 hall
    rcases hc with rfl | ⟨rfl, rfl⟩ | ⟨rfl, rfl, rfl⟩ | ⟨rfl, rfl, rfl, rfl⟩ | ⟨rfl, rfl, rfl, rfl, rfl⟩ | ⟨rfl, rfl, rfl, rfl, rfl, rfl⟩ | ⟨rfl, rfl, rfl, rfl, rfl, rfl, rfl⟩
    all_goals
      have HB := Bw.refl w
      go_enter Tryd.func8, Tryd.ntmps8
      go_wp2_with (first
        | (go_at_call 13; refine (T1.out _).mono ?_; rintro e w1 ⟨rfl, hb1⟩; replace HB := Bw.trans HB hb1; clear hb1)
        | (go_at_call 19; (first | with_reducible refine (H1.out _).mono ?_ | with_reducible refine (H2.out _).mono ?_ | with_reducible refine (H3.out _).mono ?_ | with_reducible refine (H4.out _).mono ?_ | with_reducible refine (H5.out _).mono ?_ | with_reducible refine (H6.out _).mono ?_); rintro e w1 ⟨rfl, hb1⟩; replace HB := Bw.trans HB hb1; clear hb1))
      go_ret
      exact ⟨rfl, HB⟩
  obtain ⟨rfl, rfl, rfl, rfl, rfl, rfl, rfl⟩ := hall
  have f1 := hasB_false hB1
  have f2 := hasB_false hB2
  have f3 := hasB_false hB3
  have f4 := hasB_false hB4
  have f5 := hasB_false hB5
  have f6 := hasB_false hB6
  have s34 : specU (34 :: (s.data.toList ++ [34])) = some s.data.toList := specU_plain (by decide) hB0 fun x hx => ⟨f1 x hx, f4 x hx, f5 x hx⟩
  have s96 : specU (96 :: (s.data.toList ++ [96])) = some s.data.toList := by
    have := specU_rawText (c := 96) (by decide) hB0 f3
    rwa [filter_no13 f6] at this
  have QD := Lib.hid (fun (w : World) => quoted_any ⟨#[34]⟩ s w (by rw [show (ByteArray.mk #[34]).size = 1 from rfl]; omega))
  have QE := Lib.hid (fun (w : World) => quoted_any ⟨#[96]⟩ s w (by rw [show (ByteArray.mk #[96]).size = 1 from rfl]; omega))
  have hDl := between_list 34 s
  have hDz := between_size 34 s
  have hEl := between_list 96 s
  have hEz := between_size 96 s
  generalize hD : (⟨#[34]⟩ : ByteArray) ++ s ++ ⟨#[34]⟩ = D at QD hDl hDz
  generalize hE : (⟨#[96]⟩ : ByteArray) ++ s ++ ⟨#[96]⟩ = E at QE hEl hEz
  have eD : easy D := by
    refine easy_text (by rw [hDl, show (34 : UInt8) :: (s.data.toList ++ [34]) = [34] ++ (s.data.toList ++ [34]) from rfl, valid_append _ (by decide +kernel), valid_append _ hB0]; decide +kernel) ?_
    rw [hDl]
    intro x hx
    simp only [List.mem_cons, List.mem_append, List.mem_nil_iff, or_false] at hx
    rcases hx with rfl | hx | rfl
    · decide
    · exact ⟨f4 x hx, f5 x hx, f2 x hx⟩
    · decide
  have es : easy s := easy_text hB0 fun x hx => ⟨f4 x hx, f5 x hx, f2 x hx⟩
  have eE : easy E := easy_head hEl (by decide)
  have hl : libU s.data.toList = none := libU_other fun x hx => ⟨f1 x hx, f2 x hx, f3 x hx⟩
  have hFz : (D ++ s).size = D.size + s.size := app_size _ _
  have P1 := Lib.hid (fun (w' : World) (hb : Bw w w') => implQ_no s w' (HW.out.bw hb) (uqRoom.pre (by omega)) (by unfold preL; rw [hl]))
  have P2 := Lib.hid (fun (w' : World) (hb : Bw w w') => implQ_is (D ++ s) D w' (HW.out.bw hb) (uqRoom.pre (by omega)) (by rw [app_list, hDl]; exact preL_of_specU s34 _))
  have U1 := Lib.hid (fun (w' : World) (hb : Bw w w') => refuses_yes s w' (HW.out.bw hb) ⟨by omega, fun _ => ⟨by omega, .inr es⟩⟩ (by unfold unqL; rw [hl]))
  have U2 := Lib.hid (fun (w' : World) (hb : Bw w w') => gives_is D s w' (HW.out.bw hb) ⟨by omega, fun _ => ⟨by omega, .inr eD⟩⟩ (by rw [hDl]; exact unqL_of_specU s34))
  have U3 := Lib.hid (fun (w' : World) (hb : Bw w w') => gives_is E s w' (HW.out.bw hb) ⟨by omega, fun _ => ⟨by omega, .inr eE⟩⟩ (by rw [hEl]; exact unqL_of_specU s96))
  clear f1 f2 f3 f4 f5 f6 hB0 hB1 hB2 hB3 hB4 hB5 hB6 s34 s96 eD es eE hl hFz hD hE hDl hEl
  have n1 : ¬ 9223372036854775807 < D.size + s.size := by omega
  have HB := Bw.refl w
  go_enter Tryd.func8, Tryd.ntmps8
  go_wp2_with (first
    | (go_at_call 13; refine (T1.out _).mono ?_; rintro e w1 ⟨rfl, hb1⟩; replace HB := Bw.trans HB hb1; clear hb1)
    | (go_at_call 19; (first | with_reducible refine (H1.out _).mono ?_ | with_reducible refine (H2.out _).mono ?_ | with_reducible refine (H3.out _).mono ?_ | with_reducible refine (H4.out _).mono ?_ | with_reducible refine (H5.out _).mono ?_ | with_reducible refine (H6.out _).mono ?_); rintro e w1 ⟨rfl, hb1⟩; replace HB := Bw.trans HB hb1; clear hb1)
    | (go_at_call 21; (first | with_reducible refine (QD.out _).mono ?_ | with_reducible refine (QE.out _).mono ?_); rintro e w1 ⟨rfl, hb1⟩; replace HB := Bw.trans HB hb1; clear hb1)
    | (go_at_call 20; (first | with_reducible refine (P1.out _ HB).mono ?_ | with_reducible refine (P2.out _ HB).mono ?_); rintro e w1 ⟨rfl, hb1⟩; replace HB := Bw.trans HB hb1; clear hb1)
    | (go_at_call 22; refine (U1.out _ HB).mono ?_; rintro e w1 ⟨rfl, hb1⟩; replace HB := Bw.trans HB hb1; clear hb1)
    | (go_at_call 23; (first | with_reducible refine (U2.out _ HB).mono ?_ | with_reducible refine (U3.out _ HB).mono ?_); rintro e w1 ⟨rfl, hb1⟩; replace HB := Bw.trans HB hb1; clear hb1))
  go_ret
  exact ⟨by simp, HB⟩
end Go.Proofs.YtidjchoneopmbaaDoor
