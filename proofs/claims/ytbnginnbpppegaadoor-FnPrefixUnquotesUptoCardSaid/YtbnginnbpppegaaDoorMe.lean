/-
  The walks over the laws FnQuotedPrefix and FnPrefixUnquotes.
-/
import Derived.Test.YtbnginnbpppegaaDoorVc
namespace Go.Proofs.YtbnginnbpppegaaDoor
open Go.RowKit Go.Uq

theorem spq_size {s P : ByteArray} (h : spq s.data.toList = some P.data.toList) : P.size ≤ s.size ∧ s.extract 0 P.size = P := by
  obtain ⟨o, x, hl, _⟩ := spq_some h
  have h1 : s.size = P.size + x.length := by rw [Lib.size_eq, hl, List.length_append, ← Lib.size_eq]
  refine ⟨by omega, ba_ext ?_⟩
  rw [take_list, hl, Lib.size_eq, List.take_left]
set_option maxHeartbeats 1000000 in
set_option maxRecDepth 100000 in
theorem fnQuotedPrefix_walk (s : ByteArray) (w : World) (_hs : s.size ≤ 140737488351232) (hT : Tabs w) (hE : Sent w) :
    Calls Tryd.prog 3 #[.string s] w fun e w' => e = .returned (.bool true) ∧ Bw w w' := by
  have HW := Lib.hid (show Env w from ⟨hE, hT⟩)
  clear hT hE
  by_cases hbig : 3000 < s.size
  · have b1 : decide (3000 < (s.size : Int)) = true := decide_eq_true (by omega)
    go_enter Tryd.func3, Tryd.ntmps3
    go_wp2
    go_ret
    exact ⟨rfl, Bw.refl _⟩
  have b1 : decide (3000 < (s.size : Int)) = false := decide_eq_false (by omega)
  obtain ⟨B, hB, hC⟩ := corner_any s (by omega)
  obtain ⟨P, D, hD1, hD0, hS⟩ := specQP_gen s (by omega)
  have C := Lib.hid hC
  have S := Lib.hid hS
  clear hC hS
  have HB := Bw.refl w
  cases B with
  | true =>
    clear hB hD1 hD0
    go_enter Tryd.func3, Tryd.ntmps3
    go_wp2_with (go_at_call 12; refine (C.out _).mono ?_; rintro e w1 ⟨rfl, hb1⟩; replace HB := Bw.trans HB hb1; clear hb1)
    go_ret
    exact ⟨rfl, HB⟩
  | false =>
    have hv := hB rfl
    cases D with
    | false =>
      have U := Lib.hid (fun (w' : World) (hb : Bw w w') => implQ_no s w' (HW.out.bw hb) (uqRoom.pre (by omega)) (spq_none hv (hD0 rfl)))
      clear hB hD1 hD0 hv
      go_enter Tryd.func3, Tryd.ntmps3
      go_wp2_with (first
        | (go_at_call 12; refine (C.out _).mono ?_; rintro e w1 ⟨rfl, hb1⟩; replace HB := Bw.trans HB hb1; clear hb1)
        | (go_at_call 13; refine (S.out _).mono ?_; rintro e w1 ⟨rfl, hb1⟩; replace HB := Bw.trans HB hb1; clear hb1)
        | (go_at_call 14; refine (U.out _ HB).mono ?_; rintro e w1 ⟨rfl, hb1⟩; replace HB := Bw.trans HB hb1; clear hb1))
      go_ret
      exact ⟨by first | rfl | simp, HB⟩
    | true =>
      have hx := hD1 rfl
      have hz := spq_size hx
      obtain ⟨B2, _, hC2⟩ := corner_any P (by omega)
      have C2 := Lib.hid hC2
      clear hC2
      have U := Lib.hid (fun (w' : World) (hb : Bw w w') => implQ_is s P w' (HW.out.bw hb) (uqRoom.pre (by omega)) (spq_pre hx))
      clear hB hD1 hD0 hx hz hv
      cases B2 with
      | true =>
        go_enter Tryd.func3, Tryd.ntmps3
        go_wp2_with (first
          | (go_at_call 12; (first | with_reducible refine (C.out _).mono ?_ | with_reducible refine (C2.out _).mono ?_); rintro e w1 ⟨rfl, hb1⟩; replace HB := Bw.trans HB hb1; clear hb1)
          | (go_at_call 13; refine (S.out _).mono ?_; rintro e w1 ⟨rfl, hb1⟩; replace HB := Bw.trans HB hb1; clear hb1))
        go_ret
        exact ⟨by first | rfl | simp, HB⟩
      | false =>
        go_enter Tryd.func3, Tryd.ntmps3
        go_wp2_with (first
          | (go_at_call 12; (first | with_reducible refine (C.out _).mono ?_ | with_reducible refine (C2.out _).mono ?_); rintro e w1 ⟨rfl, hb1⟩; replace HB := Bw.trans HB hb1; clear hb1)
          | (go_at_call 13; refine (S.out _).mono ?_; rintro e w1 ⟨rfl, hb1⟩; replace HB := Bw.trans HB hb1; clear hb1)
          | (go_at_call 14; refine (U.out _ HB).mono ?_; rintro e w1 ⟨rfl, hb1⟩; replace HB := Bw.trans HB hb1; clear hb1))
        go_ret
        exact ⟨by first | rfl | simp, HB⟩
set_option maxHeartbeats 1000000 in
set_option maxRecDepth 100000 in
theorem fnPrefixUnquotes_walk (s : ByteArray) (w : World) (hs : s.size ≤ 1048576) (hT : Tabs w) (hE : Sent w) :
    Calls Tryd.prog 10 #[.string s] w fun e w' => e = .returned (.bool true) ∧ Bw w w' := by
  have HW := Lib.hid (show Env w from ⟨hE, hT⟩)
  clear hT hE
  obtain ⟨P, D, hD1, hD0, hS⟩ := specQP_gen s (by omega)
  have S := Lib.hid hS
  clear hS hD0
  have HB := Bw.refl w
  by_cases hbig : 3000 < s.size
  · have b1 : decide (3000 < (s.size : Int)) = true := decide_eq_true (by omega)
    clear hD1
    go_enter Tryd.func10, Tryd.ntmps10
    go_wp2_with (go_at_call 13; refine (S.out _).mono ?_; rintro e w1 ⟨rfl, hb1⟩; replace HB := Bw.trans HB hb1; clear hb1)
    go_ret
    exact ⟨rfl, HB⟩
  have b1 : decide (3000 < (s.size : Int)) = false := decide_eq_false (by omega)
  cases D with
  | false =>
    clear hD1
    go_enter Tryd.func10, Tryd.ntmps10
    go_wp2_with (go_at_call 13; refine (S.out _).mono ?_; rintro e w1 ⟨rfl, hb1⟩; replace HB := Bw.trans HB hb1; clear hb1)
    go_ret
    exact ⟨rfl, HB⟩
  | true =>
    have hx := hD1 rfl
    have hz := spq_size hx
    obtain ⟨B1, hB1, hC1⟩ := corner_any P (by omega)
    obtain ⟨B2, hB2, hC2⟩ := corner_any s (by omega)
    have C1 := Lib.hid hC1
    have C2 := Lib.hid hC2
    clear hC1 hC2 hD1 hB1 hB2
    cases B1 with
    | true =>
      clear hx hz
      go_enter Tryd.func10, Tryd.ntmps10
      go_wp2_with (first
        | (go_at_call 13; refine (S.out _).mono ?_; rintro e w1 ⟨rfl, hb1⟩; replace HB := Bw.trans HB hb1; clear hb1)
        | (go_at_call 12; with_reducible refine (C1.out _).mono ?_; rintro e w1 ⟨rfl, hb1⟩; replace HB := Bw.trans HB hb1; clear hb1))
      go_ret
      exact ⟨by first | rfl | simp, HB⟩
    | false =>
      cases B2 with
      | true =>
        clear hx hz
        go_enter Tryd.func10, Tryd.ntmps10
        go_wp2_with (first
          | (go_at_call 13; refine (S.out _).mono ?_; rintro e w1 ⟨rfl, hb1⟩; replace HB := Bw.trans HB hb1; clear hb1)
          | (go_at_call 12; (first | with_reducible refine (C1.out _).mono ?_ | with_reducible refine (C2.out _).mono ?_); rintro e w1 ⟨rfl, hb1⟩; replace HB := Bw.trans HB hb1; clear hb1))
        go_ret
        exact ⟨by first | rfl | simp, HB⟩
      | false =>
        obtain ⟨hz1, hz2⟩ := hz
        obtain ⟨o, x, _, ho⟩ := spq_some hx
        have U1 := Lib.hid (fun (w' : World) (hb : Bw w w') => implQ_is s P w' (HW.out.bw hb) (uqRoom.pre (by omega)) (spq_pre hx))
        have U2 := Lib.hid (fun (w' : World) (hb : Bw w w') => implQ_is P P w' (HW.out.bw hb) (uqRoom.pre (by omega)) (by have := preL_of_specU ho []; rwa [List.append_nil] at this))
        have U3 := Lib.hid (fun (w' : World) (hb : Bw w w') => implU_some P o w' (HW.out.bw hb).1 (HW.out.bw hb).2 (uqRoom.small true (by omega)) (unqL_of_specU ho))
        generalize ByteArray.mk o.toArray = O at U3
        clear hx ho
        have b2 : decide ((s.size : Int) < (P.size : Int)) = false := decide_eq_false (by omega)
        have i1 : (P.size : Int) ≤ s.size := by omega
        go_enter Tryd.func10, Tryd.ntmps10
        go_wp2_with (first
          | (go_at_call 13; refine (S.out _).mono ?_; rintro e w1 ⟨rfl, hb1⟩; replace HB := Bw.trans HB hb1; clear hb1)
          | (go_at_call 12; (first | with_reducible refine (C1.out _).mono ?_ | with_reducible refine (C2.out _).mono ?_); rintro e w1 ⟨rfl, hb1⟩; replace HB := Bw.trans HB hb1; clear hb1)
          | (go_at_call 14; (first | with_reducible refine (U1.out _ HB).mono ?_ | with_reducible refine (U2.out _ HB).mono ?_); rintro e w1 ⟨rfl, hb1⟩; replace HB := Bw.trans HB hb1; clear hb1)
          | (go_at_call 22; with_reducible refine (U3.out _ HB).mono ?_; rintro e w1 ⟨rfl, hb1⟩; replace HB := Bw.trans HB hb1; clear hb1))
        go_ret
        exact ⟨by first | rfl | simp, HB⟩
end Go.Proofs.YtbnginnbpppegaaDoor
