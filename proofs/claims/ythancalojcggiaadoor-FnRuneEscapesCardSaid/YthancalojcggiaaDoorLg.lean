/-
  The walk over the law FnRuneEscapes.
-/
import Derived.Test.YthancalojcggiaaDoorPe
namespace Go.Proofs.YthancalojcggiaaDoor
open Go.RowKit Go.Uq

theorem row_list (l : List UInt8) : (ByteArray.mk l.toArray).data.toList = l := by simp
theorem row_size (l : List UInt8) : (ByteArray.mk l.toArray).size = l.length := by rw [Lib.size_eq, row_list]
theorem small_room {s : ByteArray} (h : s.size ≤ 1000) : uqRoom s true := uqRoom.small true (by omega)
theorem cp_iff (n : Nat) : cp n = true ↔ (0 ≤ (n : Int) ∧ (n : Int) ≤ 1114111 ∧ ((n : Int) < 55296 ∨ 57343 < (n : Int))) := by
  unfold cp
  rw [decide_eq_true_eq]
  omega

set_option maxHeartbeats 2000000 in
set_option maxRecDepth 100000 in
theorem fnRuneEscapes_walk (rz : Int) (w : World) (_hwf : (Lit.int .i64 rz).wf = true) (hT : Tabs w) (hE : Sent w) :
    Calls Tryd.prog 4 #[.int .i64 rz] w fun e w' => e = .returned (.bool true) ∧ Bw w w' := by
  have HW := Lib.hid (show Env w from ⟨hE, hT⟩)
  clear hT hE _hwf
  by_cases hneg : rz < 0
  · have b1 : decide (rz < 0) = true := decide_eq_true hneg
    clear hneg
    go_enter Tryd.func4, Tryd.ntmps4
    go_wp2
    go_ret
    exact ⟨rfl, Bw.refl _⟩
  by_cases hbig : 2097151 < rz
  · have b1 : decide (rz < 0) = false := decide_eq_false hneg
    have b2 : decide (2097151 < rz) = true := decide_eq_true hbig
    clear hneg hbig
    go_enter Tryd.func4, Tryd.ntmps4
    go_wp2
    go_ret
    exact ⟨rfl, Bw.refl _⟩
  obtain ⟨n, rfl⟩ : ∃ n : Nat, rz = n := ⟨rz.toNat, by omega⟩
  have b1 : decide ((n : Int) < 0) = false := decide_eq_false hneg
  have b2 : decide (2097151 < (n : Int)) = false := decide_eq_false hbig
  have hn : n ≤ 2097151 := by omega
  clear hneg hbig
  have D8 := Lib.hid (fun (w : World) => digits_16_8 n w (by omega))
  have D4 := Lib.hid (fun (w : World) => digits_16_4 n w (by omega))
  have z8 := (row_size (digL 16 8 n)).trans (digL_len 16 8 n)
  have z4 := (row_size (digL 16 4 n)).trans (digL_len 16 4 n)
  have l8 := row_list (digL 16 8 n)
  have l4 := row_list (digL 16 4 n)
  generalize ByteArray.mk (digL 16 8 n).toArray = X8 at D8 z8 l8
  generalize ByteArray.mk (digL 16 4 n).toArray = X4 at D4 z4 l4
  have a85 : (ByteArray.mk #[92, 85]).data.toList = [92, 85] := rfl
  have a117 : (ByteArray.mk #[92, 117]).data.toList = [92, 117] := rfl
  have a48 : (ByteArray.mk #[48]).data.toList = [48] := rfl
  have a33 : (ByteArray.mk #[33]).data.toList = [33] := rfl
  have a97 : (ByteArray.mk #[97]).data.toList = [97] := rfl
  have s85 : (ByteArray.mk #[92, 85]).size = 2 := rfl
  have s117 : (ByteArray.mk #[92, 117]).size = 2 := rfl
  have s48 : (ByteArray.mk #[48]).size = 1 := rfl
  have s33 : (ByteArray.mk #[33]).size = 1 := rfl
  have s34 : (ByteArray.mk #[34]).size = 1 := rfl
  have s39 : (ByteArray.mk #[39]).size = 1 := rfl
  have s97 : (ByteArray.mk #[97]).size = 1 := rfl
  have y1 : ((⟨#[92, 85]⟩ : ByteArray) ++ X8).size = 10 := by rw [app_size]; omega
  have y2 : ((⟨#[92, 117]⟩ : ByteArray) ++ X4 ++ (⟨#[48]⟩ : ByteArray)).size = 7 := by rw [app_size, app_size]; omega
  have Q1 := Lib.hid (fun (w : World) => quoted_any ⟨#[34]⟩ (⟨#[92, 85]⟩ ++ X8) w (by omega))
  have Q2 := Lib.hid (fun (w : World) => quoted_any ⟨#[39]⟩ (⟨#[92, 85]⟩ ++ X8) w (by omega))
  have hlong : ((⟨#[92, 85]⟩ : ByteArray) ++ X8).data.toList = [92, 85] ++ digL 16 8 n := by rw [app_list, a85, l8]
  cases hcp : cp n with
  | false =>
    have CP := Lib.hid (fun (w : World) => isCodePoint_no (n : Int) w (fun h => by rw [(cp_iff n).2 h] at hcp; cases hcp))
    have Q3 := Lib.hid (fun (w : World) => quoted_any ⟨#[34]⟩ ⟨#[97]⟩ w (by omega))
    have U1 := Lib.hid (fun (w' : World) (hb : Bw w w') => refuses_yes (⟨#[34]⟩ ++ (⟨#[92, 85]⟩ ++ X8) ++ ⟨#[34]⟩) w' (HW.out.bw hb) (small_room (by rw [between_size]; omega)) (by rw [between_list, hlong]; exact long_double_no (by omega) hcp))
    have U2 := Lib.hid (fun (w' : World) (hb : Bw w w') => refuses_yes (⟨#[39]⟩ ++ (⟨#[92, 85]⟩ ++ X8) ++ ⟨#[39]⟩) w' (HW.out.bw hb) (small_room (by rw [between_size]; omega)) (by rw [between_list, hlong]; exact long_single_no (by omega) hcp))
    have U3 := Lib.hid (fun (w' : World) (hb : Bw w w') => gives_is (⟨#[34]⟩ ++ ⟨#[97]⟩ ++ ⟨#[34]⟩) ⟨#[97]⟩ w' (HW.out.bw hb) (small_room (by rw [between_size]; omega)) (by rw [between_list, a97]; decide +kernel))
    clear hlong hcp l8 l4 D4 y1 y2 a85 a117 a48 a33 a97
    have HB := Bw.refl w
    go_enter Tryd.func4, Tryd.ntmps4
    go_wp2_with (first
      | (go_at_call 11; refine (D8.out _).mono ?_; rintro e w1 ⟨rfl, hb1⟩; replace HB := Bw.trans HB hb1; clear hb1)
      | (go_at_call 12; refine (CP.out _).mono ?_; rintro e w1 ⟨rfl, rfl⟩)
      | (go_at_call 14; (first | with_reducible refine (Q1.out _).mono ?_ | with_reducible refine (Q2.out _).mono ?_ | with_reducible refine (Q3.out _).mono ?_); rintro e w1 ⟨rfl, hb1⟩; replace HB := Bw.trans HB hb1; clear hb1)
      | (go_at_call 13; (first | with_reducible refine (U1.out _ HB).mono ?_ | with_reducible refine (U2.out _ HB).mono ?_); rintro e w1 ⟨rfl, hb1⟩; replace HB := Bw.trans HB hb1; clear hb1)
      | (go_at_call 15; refine (U3.out _ HB).mono ?_; rintro e w1 ⟨rfl, hb1⟩; replace HB := Bw.trans HB hb1; clear hb1))
    go_ret
    exact ⟨rfl, HB⟩
  | true =>
    have CP := Lib.hid (fun (w : World) => isCodePoint_yes (n : Int) w ((cp_iff n).1 hcp))
    have EN := Lib.hid (fun (w : World) => encode_any (n : Int) w)
    have lw := row_list (encS (n : Int))
    rw [cpS hcp] at lw EN
    have zw := row_size (Lib.encodeRune (n : Int))
    have hl4 : (Lib.encodeRune (n : Int)).length ≤ 4 := by unfold Lib.encodeRune; rw [List.length_map]; exact (Lib.encodeRuneZ_length _).2
    generalize ByteArray.mk (Lib.encodeRune (n : Int)).toArray = WN at EN lw zw
    have hn2 : n ≤ 1114111 := by have := (cp_iff n).1 hcp; omega
    have UC := Lib.hid (fun (w' : World) (hb : Bw w w') => implUC_is (⟨#[92, 85]⟩ ++ X8 ++ ⟨#[33]⟩) ⟨#[33]⟩ 0 n 10 true w' (HW.out.bw hb).1 (HW.out.bw hb).2 (by omega)
      (by
        rw [app_list, hlong, a33]
        have hf := first_U n 0 [33] (by omega) (by omega)
        rw [if_pos hcp] at hf
        rw [uc_of_first hf]
        simp [multi])
      (by
        apply ba_ext
        rw [Lib.extract_to_end, app_list, List.drop_append, a33, List.drop_eq_nil_of_le (by rw [← Lib.size_eq, y1]; omega), ← Lib.size_eq, y1]
        rfl))
    rw [show ((0 : Nat) : Int) = 0 from rfl] at UC
    have Q3 := Lib.hid (fun (w : World) => quoted_any ⟨#[34]⟩ (⟨#[92, 117]⟩ ++ X4 ++ ⟨#[48]⟩) w (by omega))
    have Q4 := Lib.hid (fun (w : World) => quoted_any ⟨#[34]⟩ WN w (by omega))
    have U1 := Lib.hid (fun (w' : World) (hb : Bw w w') => gives_is (⟨#[34]⟩ ++ (⟨#[92, 85]⟩ ++ X8) ++ ⟨#[34]⟩) WN w' (HW.out.bw hb) (small_room (by rw [between_size]; omega)) (by rw [between_list, hlong, lw]; exact long_double (by omega) hcp))
    have U2 := Lib.hid (fun (w' : World) (hb : Bw w w') => gives_is (⟨#[39]⟩ ++ (⟨#[92, 85]⟩ ++ X8) ++ ⟨#[39]⟩) WN w' (HW.out.bw hb) (small_room (by rw [between_size]; omega)) (by rw [between_list, hlong, lw]; exact long_single (by omega) hcp))
    have U3 := Lib.hid (fun (h64 : decide ((n : Int) < 65536) = true) (w' : World) (hb : Bw w w') => gives_is (⟨#[34]⟩ ++ (⟨#[92, 117]⟩ ++ X4 ++ ⟨#[48]⟩) ++ ⟨#[34]⟩) (WN ++ ⟨#[48]⟩) w' (HW.out.bw hb) (small_room (by rw [between_size]; omega))
      (by rw [between_list, app_list, app_list, app_list, a117, l4, a48, lw]; exact short_double (by have := of_decide_eq_true h64; omega) hcp))
    have U4 := Lib.hid (fun (h34 : ((n : Int) == 34) = false) (h92 : ((n : Int) == 92) = false) (h10 : ((n : Int) == 10) = false) (w' : World) (hb : Bw w w') => gives_is (⟨#[34]⟩ ++ WN ++ ⟨#[34]⟩) WN w' (HW.out.bw hb) (small_room (by rw [between_size]; omega))
      (by
        rw [between_list, lw]
        have e1 := beq_eq_false_iff_ne.1 h34
        have e2 := beq_eq_false_iff_ne.1 h92
        have e3 := beq_eq_false_iff_ne.1 h10
        exact self_double hcp (by omega)))
    have hwz : WN.size ≤ 4 := by omega
    have hcase : (decide ((n : Int) < 65536) = false ∧ ((n : Int) == 34) = false ∧ ((n : Int) == 92) = false ∧ ((n : Int) == 10) = false) ∨ (decide ((n : Int) < 65536) = true ∧ ((n : Int) == 34) = false ∧ ((n : Int) == 92) = false ∧ ((n : Int) == 10) = false)
        ∨ (decide ((n : Int) < 65536) = true ∧ ((n : Int) == 34) = true) ∨ (decide ((n : Int) < 65536) = true ∧ ((n : Int) == 34) = false ∧ ((n : Int) == 92) = true) ∨ (decide ((n : Int) < 65536) = true ∧ ((n : Int) == 34) = false ∧ ((n : Int) == 92) = false ∧ ((n : Int) == 10) = true) := by
      simp only [decide_eq_false_iff_not, decide_eq_true_eq, beq_eq_false_iff_ne, beq_iff_eq]
      omega
    clear hlong hcp l8 l4 y1 y2 a85 a117 a48 a33 a97 lw zw hl4 hn
    have n1 : ¬ 9223372036854775807 < WN.size + 1 := by omega
    rcases hcase with ⟨c1, c2, c3, c4⟩ | ⟨c1, c2, c3, c4⟩ | ⟨c1, c2⟩ | ⟨c1, c2, c3⟩ | ⟨c1, c2, c3, c4⟩
    all_goals
      have HB := Bw.refl w
      go_enter Tryd.func4, Tryd.ntmps4
      go_wp2_with (first
        | (go_at_call 11; (first | with_reducible refine (D8.out _).mono ?_ | with_reducible refine (D4.out _).mono ?_); rintro e w1 ⟨rfl, hb1⟩; replace HB := Bw.trans HB hb1; clear hb1)
        | (go_at_call 12; refine (CP.out _).mono ?_; rintro e w1 ⟨rfl, rfl⟩)
        | (go_at_call 16; refine (EN.out _).mono ?_; rintro e w1 ⟨rfl, hb1⟩; replace HB := Bw.trans HB hb1; clear hb1)
        | (go_at_call 17; refine (UC.out _ HB).mono ?_; rintro e w1 ⟨rfl, hb1⟩; replace HB := Bw.trans HB hb1; clear hb1)
        | (go_at_call 14; (first | with_reducible refine (Q1.out _).mono ?_ | with_reducible refine (Q2.out _).mono ?_ | with_reducible refine (Q3.out _).mono ?_ | with_reducible refine (Q4.out _).mono ?_); rintro e w1 ⟨rfl, hb1⟩; replace HB := Bw.trans HB hb1; clear hb1)
        | (go_at_call 15; (first | with_reducible refine (U1.out _ HB).mono ?_ | with_reducible refine (U2.out _ HB).mono ?_ | with_reducible refine (U3.out c1 _ HB).mono ?_ | with_reducible refine (U4.out c2 c3 c4 _ HB).mono ?_); rintro e w1 ⟨rfl, hb1⟩; replace HB := Bw.trans HB hb1; clear hb1))
      go_ret
      exact ⟨by first | rfl | simp, HB⟩
end Go.Proofs.YthancalojcggiaaDoor
