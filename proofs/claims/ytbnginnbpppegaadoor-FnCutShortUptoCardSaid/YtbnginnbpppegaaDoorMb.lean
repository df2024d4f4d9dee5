/-
  The walk over the law FnCutShort.
-/
import Derived.Test.YtbnginnbpppegaaDoorVc
namespace Go.Proofs.YtbnginnbpppegaaDoor
open Go.RowKit Go.Uq

set_option maxHeartbeats 2000000 in
set_option maxRecDepth 100000 in
theorem fnCutShort_walk (s : ByteArray) (w : World) (hs : s.size ≤ 1048576) (hT : Tabs w) (hE : Sent w) :
    Calls Tryd.prog 5 #[.string s] w fun e w' => e = .returned (.bool true) ∧ Bw w w' := by
  have HW := Lib.hid (show Env w from ⟨hE, hT⟩)
  clear hT hE
  obtain ⟨B, hB, hC⟩ := corner_any s (by omega)
  obtain ⟨O, D, hD1, hD0, hS⟩ := specUnq_gen s (by omega)
  have C := Lib.hid hC
  have S := Lib.hid hS
  clear hC hS hD0
  have HB := Bw.refl w
  cases D with
  | false =>
    clear hB hD1
    go_enter Tryd.func5, Tryd.ntmps5
    go_wp2_with (go_at_call 15; refine (S.out _).mono ?_; rintro e w1 ⟨rfl, hb1⟩; replace HB := Bw.trans HB hb1; clear hb1)
    go_ret
    exact ⟨rfl, HB⟩
  | true =>
    have hx := hD1 rfl
    cases B with
    | true =>
      clear hB hD1 hx
      go_enter Tryd.func5, Tryd.ntmps5
      go_wp2_with (first
        | (go_at_call 15; refine (S.out _).mono ?_; rintro e w1 ⟨rfl, hb1⟩; replace HB := Bw.trans HB hb1; clear hb1)
        | (go_at_call 12; refine (C.out _).mono ?_; rintro e w1 ⟨rfl, hb1⟩; replace HB := Bw.trans HB hb1; clear hb1))
      go_ret
      exact ⟨rfl, HB⟩
    | false =>
      have hv := hB rfl
      obtain ⟨c, b, hl, hc⟩ := specU_form hx
      have hlen : s.size = b.length + 2 := by rw [Lib.size_eq, hl]; simp
      have e1 : (s.extract 0 (s.size - 1)).data.toList = c :: b := by
        rw [take_list, hl, hlen]
        simp
      have e2 : (s.extract 0 1).data.toList = [c] := by
        rw [take_list, hl]
        rfl
      have z1 : (s.extract 0 (s.size - 1)).size = b.length + 1 := by rw [Lib.size_eq, e1]; rfl
      have z2 : (s.extract 0 1).size = 1 := by rw [Lib.size_eq, e2]; rfl
      have z3 : (s ++ s.extract 0 1).size = s.size + 1 := by rw [app_size, z2]
      have z4 : (s.extract 0 1 ++ s).size = 1 + s.size := by rw [app_size, z2]
      have z5 : (s ++ (⟨#[32]⟩ : ByteArray)).size = s.size + 1 := by rw [app_size]; rfl
      have hO : O.size ≤ b.length := by
        rw [Lib.size_eq]
        rw [hl] at hx
        exact specU_len hc hx
      have G := Lib.hid (fun (w' : World) (hb : Bw w w') => gives_is s O w' (HW.out.bw hb) (uqRoom.small true (by omega)) (unqL_of_specU hx))
      have R1 := Lib.hid (fun (w' : World) (hb : Bw w w') => refuses_yes (s.extract 0 (s.size - 1)) w' (HW.out.bw hb) (uqRoom.small true (by omega)) (by rw [e1]; rw [hl] at hx hv; exact cut_last hv (by omega) hx))
      have R2 := Lib.hid (fun (w' : World) (hb : Bw w w') => refuses_yes (s ++ s.extract 0 1) w' (HW.out.bw hb) (uqRoom.small true (by omega)) (by rw [app_list, e2]; exact unqL_more c hx))
      have R3 := Lib.hid (fun (w' : World) (hb : Bw w w') => refuses_yes (s.extract 0 1 ++ s) w' (HW.out.bw hb) (uqRoom.small true (by omega)) (by rw [app_list, e2, hl]; exact unqL_twice hc))
      have R4 := Lib.hid (fun (w' : World) (hb : Bw w w') => refuses_yes (s ++ ⟨#[32]⟩) w' (HW.out.bw hb) (uqRoom.small true (by omega)) (by rw [app_list]; exact unqL_more 32 hx))
      have hwr : IntKind.i64.wrap ((s.size : Int) - 1) = ((s.size - 1 : Nat) : Int) := by rw [IntWalk.i64_in _ (by omega)]; omega
      have hwr2 : IntKind.i64.wrap ((s.size : Int) - 2) = ((s.size - 2 : Nat) : Int) := by rw [IntWalk.i64_in _ (by omega)]; omega
      have i1 : (0 : Int) ≤ ((s.size - 1 : Nat) : Int) := by omega
      have i2 : ((s.size - 1 : Nat) : Int) ≤ s.size := by omega
      have i3 : (1 : Int) ≤ s.size := by omega
      have i4 : decide ((O.size : Int) ≤ ((s.size - 2 : Nat) : Int)) = true := decide_eq_true (by omega)
      have i5 : O.size ≤ s.size - 2 := by omega
      have n1 : ¬ 9223372036854775807 < s.size + 1 := by omega
      have n2 : ¬ 9223372036854775807 < s.size + (s.extract 0 1).size := by omega
      have n3 : ¬ 9223372036854775807 < (s.extract 0 1).size + s.size := by omega
      clear hB hD1 hx hv hl hc e1 e2 z1 z3 z4 z5 hO hlen
      go_enter Tryd.func5, Tryd.ntmps5
      go_wp2_with (first
        | (go_at_call 15; refine (S.out _).mono ?_; rintro e w1 ⟨rfl, hb1⟩; replace HB := Bw.trans HB hb1; clear hb1)
        | (go_at_call 12; refine (C.out _).mono ?_; rintro e w1 ⟨rfl, hb1⟩; replace HB := Bw.trans HB hb1; clear hb1)
        | (go_at_call 18; refine (G.out _ HB).mono ?_; rintro e w1 ⟨rfl, hb1⟩; replace HB := Bw.trans HB hb1; clear hb1)
        | (go_at_call 19; (first | with_reducible refine (R1.out _ HB).mono ?_ | with_reducible refine (R2.out _ HB).mono ?_ | with_reducible refine (R3.out _ HB).mono ?_ | with_reducible refine (R4.out _ HB).mono ?_); rintro e w1 ⟨rfl, hb1⟩; replace HB := Bw.trans HB hb1; clear hb1))
      go_ret
      exact ⟨by first | rfl | (simp; omega), HB⟩
end Go.Proofs.YtbnginnbpppegaaDoor
