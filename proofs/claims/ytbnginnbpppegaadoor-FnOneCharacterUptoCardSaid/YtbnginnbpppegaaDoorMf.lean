/-
  The walk over the law FnOneCharacter.
-/
import Derived.Test.YtbnginnbpppegaaDoorVc
namespace Go.Proofs.YtbnginnbpppegaaDoor
open Go.RowKit Go.Uq

theorem one_double {b : List UInt8} {es : List El} (h : ∀ x ∈ b, x.toNat ≠ 34 ∧ x.toNat ≠ 39) (he : elems b 39 = some es) : specU (34 :: (b ++ [34])) = some (outOf es) := by
  rw [specU_double (by decide), elems_alike h, he]
  rfl
theorem one_single {b : List UInt8} {es : List El} (he : elems b 39 = some es) (h1 : ¬ 1 < es.length) : specU (39 :: (b ++ [39])) = some (outOf es) := by
  rw [specU_single (by decide), he]
  simp only
  rw [if_neg h1]
theorem one_many {b : List UInt8} {es : List El} (hv : Lib.validD b = true) (he : elems b 39 = some es) (h1 : 1 < es.length) : unqL (39 :: (b ++ [39])) = none := by
  have hv' : Lib.validD (39 :: (b ++ [39])) = true := by
    rw [show (39 : UInt8) :: (b ++ [39]) = [39] ++ (b ++ [39]) from rfl, valid_append _ (by decide +kernel), valid_append _ hv]
    decide +kernel
  rw [unqL_eq hv', specU_single (by decide), he]
  simp only
  rw [if_pos h1]
set_option maxHeartbeats 4000000 in
set_option maxRecDepth 100000 in
theorem fnOneCharacter_walk (s : ByteArray) (w : World) (hs : s.size ≤ 1048576) (hT : Tabs w) (hE : Sent w) :
    Calls Tryd.prog 7 #[.string s] w fun e w' => e = .returned (.bool true) ∧ Bw w w' := by
  have HW := Lib.hid (show Env w from ⟨hE, hT⟩)
  clear hT hE
  have z34 : (ByteArray.mk #[34]).size = 1 := rfl
  have z39 : (ByteArray.mk #[39]).size = 1 := rfl
  have Q1 := Lib.hid (fun (w : World) => quoted_any ⟨#[39]⟩ s w (by omega))
  have Q2 := Lib.hid (fun (w : World) => quoted_any ⟨#[34]⟩ s w (by omega))
  have l1 := between_list 39 s
  have l2 := between_list 34 s
  have y1 := between_size 39 s
  have y2 := between_size 34 s
  generalize (⟨#[39]⟩ : ByteArray) ++ s ++ ⟨#[39]⟩ = X1 at Q1 l1 y1
  generalize (⟨#[34]⟩ : ByteArray) ++ s ++ ⟨#[34]⟩ = X2 at Q2 l2 y2
  have HB := Bw.refl w
  cases hel : elems s.data.toList 39 with
  | none =>
    have E := Lib.hid (fun (w : World) => elements_none s 39 w (by omega) (by omega) hel)
    rw [show ((39 : Nat) : Int) = 39 from rfl] at E
    clear hel l1 l2 y1 y2
    go_enter Tryd.func7, Tryd.ntmps7
    go_wp2_with (first
      | (go_at_call 21; refine (E.out _).mono ?_; rintro e w1 ⟨rfl, hb1⟩; replace HB := Bw.trans HB hb1; clear hb1)
      | (go_at_call 16; with_reducible refine (Q1.out _).mono ?_; rintro e w1 ⟨rfl, hb1⟩; replace HB := Bw.trans HB hb1; clear hb1))
    go_ret
    exact ⟨rfl, HB⟩
  | some es =>
    have E := Lib.hid (fun (w : World) => elements_gen s 39 es w (by omega) (by omega) hel)
    rw [show ((39 : Nat) : Int) = 39 from rfl] at E
    obtain ⟨B0, _, hC0⟩ := corner_any X1 (by omega)
    have C := Lib.hid hC0
    clear hC0
    have T1 := Lib.hid (fun (w : World) => isText_any s w (by omega))
    have H1 := Lib.hid (fun (w : World) => has_is s 34 34 w (by omega) rfl)
    have H2 := Lib.hid (fun (w : World) => has_is s 39 39 w (by omega) rfl)
    have H3 := Lib.hid (fun (w : World) => has_is s 10 10 w (by omega) rfl)
    generalize hV : Lib.validD s.data.toList = V at T1
    generalize hB1 : hasB 34 s.data.toList = B1 at H1
    generalize hB2 : hasB 39 s.data.toList = B2 at H2
    generalize hB3 : hasB 10 s.data.toList = B3 at H3
    by_cases hall : B0 = false ∧ V = true ∧ B1 = false ∧ B2 = false ∧ B3 = false
    rotate_left
    · have hc : B0 = true ∨ (B0 = false ∧ V = false) ∨ (B0 = false ∧ V = true ∧ B1 = true) ∨ (B0 = false ∧ V = true ∧ B1 = false ∧ B2 = true) ∨ (B0 = false ∧ V = true ∧ B1 = false ∧ B2 = false ∧ B3 = true) := by
        revert hall; cases B0 <;> cases V <;> cases B1 <;> cases B2 <;> cases B3 <;> simp
      clear hV hB1 hB2 hB3 hall hel l1 l2 y1 y2
      rcases hc with rfl | ⟨rfl, rfl⟩ | ⟨rfl, rfl, rfl⟩ | ⟨rfl, rfl, rfl, rfl⟩ | ⟨rfl, rfl, rfl, rfl, rfl⟩
      all_goals
        go_enter Tryd.func7, Tryd.ntmps7
        go_wp2_with (first
          | (go_at_call 21; refine (E.out _).mono ?_; rintro e w1 ⟨⟨pp, cc, rfl⟩, hb1⟩; replace HB := Bw.trans HB hb1; clear hb1)
          | (go_at_call 16; with_reducible refine (Q1.out _).mono ?_; rintro e w1 ⟨rfl, hb1⟩; replace HB := Bw.trans HB hb1; clear hb1)
          | (go_at_call 12; refine (C.out _).mono ?_; rintro e w1 ⟨rfl, hb1⟩; replace HB := Bw.trans HB hb1; clear hb1)
          | (go_at_call 17; refine (T1.out _).mono ?_; rintro e w1 ⟨rfl, hb1⟩; replace HB := Bw.trans HB hb1; clear hb1)
          | (go_at_call 20; (first | with_reducible refine (H1.out _).mono ?_ | with_reducible refine (H2.out _).mono ?_ | with_reducible refine (H3.out _).mono ?_); rintro e w1 ⟨rfl, hb1⟩; replace HB := Bw.trans HB hb1; clear hb1))
        go_ret
        exact ⟨rfl, HB⟩
    obtain ⟨rfl, rfl, rfl, rfl, rfl⟩ := hall
    have f1 := hasB_false hB1
    have f2 := hasB_false hB2
    have hcl : ∀ x ∈ s.data.toList, x.toNat ≠ 34 ∧ x.toNat ≠ 39 := fun x hx => ⟨f1 x hx, f2 x hx⟩
    have hd : specU X2.data.toList = some (outOf es) := by rw [l2]; exact one_double hcl hel
    by_cases h1 : 1 < es.length
    · have h1z : decide ((1 : Int) < (es.length : Int)) = true := decide_eq_true (by omega)
      have R1 := Lib.hid (fun (w' : World) (hb : Bw w w') => refuses_yes X1 w' (HW.out.bw hb) (uqRoom.small true (by omega)) (by rw [l1]; exact one_many hV hel h1))
      have R2 := Lib.hid (fun (w' : World) (hb : Bw w w') => refuses_no X2 ⟨(outOf es).toArray⟩ w' (HW.out.bw hb) (uqRoom.small true (by omega)) (by rw [unqL_of_specU hd]))
      clear hV hB1 hB2 hB3 hel l1 l2 y1 y2 f1 f2 hcl hd h1
      go_enter Tryd.func7, Tryd.ntmps7
      go_wp2_with (first
        | (go_at_call 21; refine (E.out _).mono ?_; rintro e w1 ⟨⟨pp, cc, rfl⟩, hb1⟩; replace HB := Bw.trans HB hb1; clear hb1)
        | (go_at_call 16; (first | with_reducible refine (Q1.out _).mono ?_ | with_reducible refine (Q2.out _).mono ?_); rintro e w1 ⟨rfl, hb1⟩; replace HB := Bw.trans HB hb1; clear hb1)
        | (go_at_call 12; refine (C.out _).mono ?_; rintro e w1 ⟨rfl, hb1⟩; replace HB := Bw.trans HB hb1; clear hb1)
        | (go_at_call 17; refine (T1.out _).mono ?_; rintro e w1 ⟨rfl, hb1⟩; replace HB := Bw.trans HB hb1; clear hb1)
        | (go_at_call 20; (first | with_reducible refine (H1.out _).mono ?_ | with_reducible refine (H2.out _).mono ?_ | with_reducible refine (H3.out _).mono ?_); rintro e w1 ⟨rfl, hb1⟩; replace HB := Bw.trans HB hb1; clear hb1)
        | (go_at_call 19; (first | with_reducible refine (R1.out _ HB).mono ?_ | with_reducible refine (R2.out _ HB).mono ?_); rintro e w1 ⟨rfl, hb1⟩; replace HB := Bw.trans HB hb1; clear hb1))
      go_ret
      exact ⟨by first | rfl | simp, HB⟩
    · have h1z : decide ((1 : Int) < (es.length : Int)) = false := decide_eq_false (by omega)
      have hd1 : specU X1.data.toList = some (outOf es) := by rw [l1]; exact one_single hel h1
      have S := Lib.hid (fun (w : World) => specUnq_calls X2 w (by omega))
      rw [hd] at S
      simp only [ansU] at S
      have G1 := Lib.hid (fun (w' : World) (hb : Bw w w') => gives_is X1 ⟨(outOf es).toArray⟩ w' (HW.out.bw hb) (uqRoom.small true (by omega)) (by rw [unqL_of_specU hd1]))
      have G2 := Lib.hid (fun (w' : World) (hb : Bw w w') => gives_is X2 ⟨(outOf es).toArray⟩ w' (HW.out.bw hb) (uqRoom.small true (by omega)) (by rw [unqL_of_specU hd]))
      generalize ByteArray.mk (outOf es).toArray = O at S G1 G2
      clear hV hB1 hB2 hB3 hel l1 l2 y1 y2 f1 f2 hcl hd hd1 h1
      go_enter Tryd.func7, Tryd.ntmps7
      go_wp2_with (first
        | (go_at_call 21; refine (E.out _).mono ?_; rintro e w1 ⟨⟨pp, cc, rfl⟩, hb1⟩; replace HB := Bw.trans HB hb1; clear hb1)
        | (go_at_call 16; (first | with_reducible refine (Q1.out _).mono ?_ | with_reducible refine (Q2.out _).mono ?_); rintro e w1 ⟨rfl, hb1⟩; replace HB := Bw.trans HB hb1; clear hb1)
        | (go_at_call 12; refine (C.out _).mono ?_; rintro e w1 ⟨rfl, hb1⟩; replace HB := Bw.trans HB hb1; clear hb1)
        | (go_at_call 17; refine (T1.out _).mono ?_; rintro e w1 ⟨rfl, hb1⟩; replace HB := Bw.trans HB hb1; clear hb1)
        | (go_at_call 20; (first | with_reducible refine (H1.out _).mono ?_ | with_reducible refine (H2.out _).mono ?_ | with_reducible refine (H3.out _).mono ?_); rintro e w1 ⟨rfl, hb1⟩; replace HB := Bw.trans HB hb1; clear hb1)
        | (go_at_call 15; refine (S.out _).mono ?_; rintro e w1 ⟨rfl, hb1⟩; replace HB := Bw.trans HB hb1; clear hb1)
        | (go_at_call 18; (first | with_reducible refine (G1.out _ HB).mono ?_ | with_reducible refine (G2.out _ HB).mono ?_); rintro e w1 ⟨rfl, hb1⟩; replace HB := Bw.trans HB hb1; clear hb1))
      go_ret
      exact ⟨by first | rfl | simp, HB⟩
end Go.Proofs.YtbnginnbpppegaaDoor
