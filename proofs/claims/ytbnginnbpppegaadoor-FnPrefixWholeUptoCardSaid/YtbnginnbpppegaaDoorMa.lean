/-
  The walks over the laws FnUnquote and FnPrefixWhole.
-/
import Derived.Test.YtbnginnbpppegaaDoorVc
namespace Go.Proofs.YtbnginnbpppegaaDoor
open Go.RowKit Go.Uq

set_option maxHeartbeats 1000000 in
set_option maxRecDepth 100000 in
theorem fnUnquote_walk (s : ByteArray) (w : World) (hs : s.size ≤ 1048576) (hT : Tabs w) (hE : Sent w) :
    Calls Tryd.prog 8 #[.string s] w fun e w' => e = .returned (.bool true) ∧ Bw w w' := by
  have HW := Lib.hid (show Env w from ⟨hE, hT⟩)
  clear hT hE
  obtain ⟨B, hB, hC⟩ := corner_any s (by omega)
  obtain ⟨O, D, hD1, hD0, hS⟩ := specUnq_gen s (by omega)
  have C := Lib.hid hC
  have S := Lib.hid hS
  clear hC hS
  have HB := Bw.refl w
  cases B with
  | true =>
    clear hB hD1 hD0
    go_enter Tryd.func8, Tryd.ntmps8
    go_wp2_with (go_at_call 12; refine (C.out _).mono ?_; rintro e w1 ⟨rfl, hb1⟩; replace HB := Bw.trans HB hb1; clear hb1)
    go_ret
    exact ⟨rfl, HB⟩
  | false =>
    have he := unqL_eq (hB rfl)
    cases D with
    | false =>
      rw [hD0 rfl] at he
      have U := Lib.hid (fun (w' : World) (hb : Bw w w') => implU_none s w' (HW.out.bw hb).1 (HW.out.bw hb).2 (uqRoom.small true (by omega)) he)
      clear hB hD1 hD0 he
      go_enter Tryd.func8, Tryd.ntmps8
      go_wp2_with (first
        | (go_at_call 12; refine (C.out _).mono ?_; rintro e w1 ⟨rfl, hb1⟩; replace HB := Bw.trans HB hb1; clear hb1)
        | (go_at_call 15; refine (S.out _).mono ?_; rintro e w1 ⟨rfl, hb1⟩; replace HB := Bw.trans HB hb1; clear hb1)
        | (go_at_call 22; refine (U.out _ HB).mono ?_; rintro e w1 ⟨rfl, hb1⟩; replace HB := Bw.trans HB hb1; clear hb1))
      go_ret
      exact ⟨by first | rfl | simp, HB⟩
    | true =>
      rw [hD1 rfl] at he
      have U := Lib.hid (fun (w' : World) (hb : Bw w w') => implU_is s O w' (HW.out.bw hb) (uqRoom.small true (by omega)) he)
      clear hB hD1 hD0 he
      go_enter Tryd.func8, Tryd.ntmps8
      go_wp2_with (first
        | (go_at_call 12; refine (C.out _).mono ?_; rintro e w1 ⟨rfl, hb1⟩; replace HB := Bw.trans HB hb1; clear hb1)
        | (go_at_call 15; refine (S.out _).mono ?_; rintro e w1 ⟨rfl, hb1⟩; replace HB := Bw.trans HB hb1; clear hb1)
        | (go_at_call 22; refine (U.out _ HB).mono ?_; rintro e w1 ⟨rfl, hb1⟩; replace HB := Bw.trans HB hb1; clear hb1))
      go_ret
      exact ⟨by first | rfl | simp, HB⟩
set_option maxHeartbeats 1000000 in
set_option maxRecDepth 100000 in
theorem fnPrefixWhole_walk (s r : ByteArray) (w : World) (hs : s.size + r.size ≤ 1048576) (hT : Tabs w) (hE : Sent w) :
    Calls Tryd.prog 11 #[.string s, .string r] w fun e w' => e = .returned (.bool true) ∧ Bw w w' := by
  have HW := Lib.hid (show Env w from ⟨hE, hT⟩)
  clear hT hE
  obtain ⟨B, hB, hC⟩ := corner_any s (by omega)
  obtain ⟨O, D, hD1, hD0, hS⟩ := specUnq_gen s (by omega)
  have C := Lib.hid hC
  have S := Lib.hid hS
  clear hC hS hD0
  have HB := Bw.refl w
  cases D with
  | false =>
    clear hB hD1
    go_enter Tryd.func11, Tryd.ntmps11
    go_wp2_with (go_at_call 15; refine (S.out _).mono ?_; rintro e w1 ⟨rfl, hb1⟩; replace HB := Bw.trans HB hb1; clear hb1)
    go_ret
    exact ⟨rfl, HB⟩
  | true =>
    have hx := hD1 rfl
    cases B with
    | true =>
      clear hB hD1 hx
      go_enter Tryd.func11, Tryd.ntmps11
      go_wp2_with (first
        | (go_at_call 15; refine (S.out _).mono ?_; rintro e w1 ⟨rfl, hb1⟩; replace HB := Bw.trans HB hb1; clear hb1)
        | (go_at_call 12; refine (C.out _).mono ?_; rintro e w1 ⟨rfl, hb1⟩; replace HB := Bw.trans HB hb1; clear hb1))
      go_ret
      exact ⟨rfl, HB⟩
    | false =>
      have hz : (s ++ r).size = s.size + r.size := app_size _ _
      have U := Lib.hid (fun (w' : World) (hb : Bw w w') => implU_is s O w' (HW.out.bw hb) (uqRoom.small true (by omega)) (unqL_of_specU hx))
      have P := Lib.hid (fun (w' : World) (hb : Bw w w') => implQ_is (s ++ r) s w' (HW.out.bw hb) (uqRoom.pre (by omega)) (by rw [app_list]; exact preL_of_specU hx _))
      clear hB hD1 hx hz
      have n1 : ¬ 9223372036854775807 < s.size + r.size := by omega
      go_enter Tryd.func11, Tryd.ntmps11
      go_wp2_with (first
        | (go_at_call 15; refine (S.out _).mono ?_; rintro e w1 ⟨rfl, hb1⟩; replace HB := Bw.trans HB hb1; clear hb1)
        | (go_at_call 12; refine (C.out _).mono ?_; rintro e w1 ⟨rfl, hb1⟩; replace HB := Bw.trans HB hb1; clear hb1)
        | (go_at_call 22; refine (U.out _ HB).mono ?_; rintro e w1 ⟨rfl, hb1⟩; replace HB := Bw.trans HB hb1; clear hb1)
        | (go_at_call 14; refine (P.out _ HB).mono ?_; rintro e w1 ⟨rfl, hb1⟩; replace HB := Bw.trans HB hb1; clear hb1))
      go_ret
      exact ⟨by first | rfl | simp, HB⟩
end Go.Proofs.YtbnginnbpppegaaDoor
