/-
  The walk over the law FnRaw.
-/
import Derived.Test.YtdhdgjnpolghhaaDoorWx
namespace Go.Proofs.YtdhdgjnpolghhaaDoor
open Go.RowKit Go.Uq

theorem unqL_rawTwice {b : List UInt8} (h : ∀ x ∈ b, x.toNat ≠ 96) : unqL (96 :: ((b ++ [96]) ++ [96])) = none := by
  have hr : rawB (b ++ 96 :: [96]) = some (b.filter (fun c => c.toNat != 13), [96]) := raw_clean b 96 [96] (by
    rw [List.any_eq_false]
    intro x hx
    simpa using h x hx) rfl
  have hl : libU (96 :: ((b ++ [96]) ++ [96])) = some (b.filter (fun c => c.toNat != 13), [96]) := by
    unfold libU
    rw [List.append_assoc]
    simpa using hr
  unfold unqL
  rw [hl]
  simp
set_option maxHeartbeats 1000000 in
set_option maxRecDepth 100000 in
theorem fnRaw_walk (s : ByteArray) (w : World) (hs : s.size ≤ 140737488351232) (hT : Tabs w) (hE : Sent w) :
    Calls Tryd.prog 9 #[.string s] w fun e w' => e = .returned (.bool true) ∧ Bw w w' := by
  have HW := Lib.hid (show Env w from ⟨hE, hT⟩)
  clear hT hE
  have T1 := Lib.hid (fun (w : World) => isText_any s w (by omega))
  have H1 := Lib.hid (fun (w : World) => has_is s 96 96 w (by omega) rfl)
  generalize hB0 : Lib.validD s.data.toList = B0 at T1
  generalize hB1 : hasB 96 s.data.toList = B1 at H1
  by_cases hall : B0 = true ∧ B1 = false
  rotate_left
  · have hc : B0 = false ∨ (B0 = true ∧ B1 = true) := by revert hall; cases B0 <;> cases B1 <;> simp
    clear hB0 hB1 hall
    rcases hc with rfl | ⟨rfl, rfl⟩
    all_goals
      have HB := Bw.refl w
      go_enter Tryd.func9, Tryd.ntmps9
      go_wp2_with (first
        | (go_at_call 15; refine (T1.out _).mono ?_; rintro e w1 ⟨rfl, hb1⟩; replace HB := Bw.trans HB hb1; clear hb1)
        | (go_at_call 19; refine (H1.out _).mono ?_; rintro e w1 ⟨rfl, hb1⟩; replace HB := Bw.trans HB hb1; clear hb1))
      go_ret
      exact ⟨rfl, HB⟩
  obtain ⟨rfl, rfl⟩ := hall
  have f1 := hasB_false hB1
  have z1 : (ByteArray.mk #[96]).size = 1 := rfl
  have hFz : (s ++ (⟨#[96]⟩ : ByteArray)).size = s.size + 1 := app_size _ _
  have QD := Lib.hid (fun (w : World) => quoted_any ⟨#[96]⟩ s w (by omega))
  have QE := Lib.hid (fun (w : World) => quoted_any ⟨#[96]⟩ (s ++ ⟨#[96]⟩) w (by omega))
  have hDl := between_list 96 s
  have hDz := between_size 96 s
  have hEl := between_list 96 (s ++ ⟨#[96]⟩)
  have hEz := between_size 96 (s ++ ⟨#[96]⟩)
  rw [app_list s] at hEl
  generalize hD : (⟨#[96]⟩ : ByteArray) ++ s ++ ⟨#[96]⟩ = D at QD hDl hDz
  generalize hE : (⟨#[96]⟩ : ByteArray) ++ (s ++ ⟨#[96]⟩) ++ ⟨#[96]⟩ = E at QE hEl hEz
  have WO := Lib.hid (fun (w : World) => without_any s 13 w (by omega))
  rw [show ((13 : Nat) : Int) = 13 from rfl] at WO
  generalize hO : ByteArray.mk (s.data.toList.filter fun x => x.toNat != 13).toArray = O at WO
  have U2 := Lib.hid (fun (w' : World) (hb : Bw w w') => gives_is D O w' (HW.out.bw hb) ⟨by omega, fun _ => ⟨by omega, .inr (easy_head hDl (by decide))⟩⟩ (by rw [hDl, ← hO]; exact unqL_of_specU (specU_rawText (by decide) hB0 f1)))
  have U3 := Lib.hid (fun (w' : World) (hb : Bw w w') => refuses_yes E w' (HW.out.bw hb) ⟨by omega, fun _ => ⟨by omega, .inr (easy_head hEl (by decide))⟩⟩ (by rw [hEl]; exact unqL_rawTwice f1))
  clear f1 hB0 hB1 hFz hD hE hDl hEl hO
  have n1 : ¬ 9223372036854775807 < s.size + 1 := by omega
  have HB := Bw.refl w
  go_enter Tryd.func9, Tryd.ntmps9
  go_wp2_with (first
    | (go_at_call 15; refine (T1.out _).mono ?_; rintro e w1 ⟨rfl, hb1⟩; replace HB := Bw.trans HB hb1; clear hb1)
    | (go_at_call 19; refine (H1.out _).mono ?_; rintro e w1 ⟨rfl, hb1⟩; replace HB := Bw.trans HB hb1; clear hb1)
    | (go_at_call 21; refine (WO.out _).mono ?_; rintro e w1 ⟨rfl, hb1⟩; replace HB := Bw.trans HB hb1; clear hb1)
    | (go_at_call 14; (first | with_reducible refine (QD.out _).mono ?_ | with_reducible refine (QE.out _).mono ?_); rintro e w1 ⟨rfl, hb1⟩; replace HB := Bw.trans HB hb1; clear hb1)
    | (go_at_call 18; refine (U3.out _ HB).mono ?_; rintro e w1 ⟨rfl, hb1⟩; replace HB := Bw.trans HB hb1; clear hb1)
    | (go_at_call 16; refine (U2.out _ HB).mono ?_; rintro e w1 ⟨rfl, hb1⟩; replace HB := Bw.trans HB hb1; clear hb1))
  go_ret
  exact ⟨rfl, HB⟩
end Go.Proofs.YtdhdgjnpolghhaaDoor
