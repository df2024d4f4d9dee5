/-
  The walk over the law FnByteEscapes.
-/
import Derived.Test.YtdhdgjnpolghhaaDoorWz
namespace Go.Proofs.YtdhdgjnpolghhaaDoor
open Go.RowKit Go.Uq

theorem be_hex : ∀ b : Fin 256, unqL (34 :: (([92, 120] ++ digL 16 2 b.val) ++ [34])) = some [b.val.toUInt8] := by decide +kernel
theorem be_oct : ∀ b : Fin 256, unqL (34 :: (([92] ++ digL 8 3 b.val) ++ [34])) = some [b.val.toUInt8] := by decide +kernel
theorem be_all : ∀ b : Fin 256, unqL (34 :: (((([92] ++ digL 8 3 b.val) ++ [55]) ++ ([92, 120] ++ digL 16 2 b.val)) ++ [34])) = some (([b.val.toUInt8] ++ [55]) ++ [b.val.toUInt8]) := by decide +kernel
theorem be_one : ∀ b : Fin 256, unqL (34 :: (([92, 120] ++ digL 16 1 b.val) ++ [34])) = none := by decide +kernel
theorem be_big : ∀ b : Fin 256, unqL (34 :: (([92] ++ digL 8 3 (256 + b.val)) ++ [34])) = none := by decide +kernel
theorem row_list (l : List UInt8) : (ByteArray.mk l.toArray).data.toList = l := by simp
theorem row_size (l : List UInt8) : (ByteArray.mk l.toArray).size = l.length := by rw [Lib.size_eq, row_list]
theorem small_room {s : ByteArray} (h : s.size ≤ 1000) : uqRoom s true := uqRoom.small true (by omega)

set_option maxHeartbeats 1000000 in
set_option maxRecDepth 100000 in
theorem fnByteEscapes_walk (bz : Int) (w : World) (hwf : (Lit.int .u8 bz).wf = true) (hT : Tabs w) (hE : Sent w) :
    Calls Tryd.prog 5 #[.int .u8 bz] w fun e w' => e = .returned (.bool true) ∧ Bw w w' := by
  have HW := Lib.hid (show Env w from ⟨hE, hT⟩)
  clear hT hE
  obtain ⟨b, rfl, hb⟩ := byte_nat hwf
  clear hwf
  have hcv := fun (W : World) => conv1 W (b : Int)
  have h0l : (strOfNums [(b : Int)]).data.toList = [b.toUInt8] := by simp [strOfNums]
  have h0z : (strOfNums [(b : Int)]).size = 1 := by rw [Lib.size_eq, h0l]; rfl
  generalize strOfNums [(b : Int)] = W0 at hcv h0l h0z
  have D2 := Lib.hid (fun (w : World) => digits_16_2 b w (by omega))
  have D3 := Lib.hid (fun (w : World) => digits_8_3 b w (by omega))
  have D1 := Lib.hid (fun (w : World) => digits_16_1 b w (by omega))
  have D4 := Lib.hid (fun (w : World) => digits_8_3 (256 + b) w (by omega))
  rw [show (((256 + b : Nat) : Int)) = 256 + (b : Int) by omega] at D4
  have z2 := (row_size (digL 16 2 b)).trans (digL_len 16 2 b)
  have z3 := (row_size (digL 8 3 b)).trans (digL_len 8 3 b)
  have z1 := (row_size (digL 16 1 b)).trans (digL_len 16 1 b)
  have z4 := (row_size (digL 8 3 (256 + b))).trans (digL_len 8 3 (256 + b))
  have l2 := row_list (digL 16 2 b)
  have l3 := row_list (digL 8 3 b)
  have l1 := row_list (digL 16 1 b)
  have l4 := row_list (digL 8 3 (256 + b))
  generalize ByteArray.mk (digL 16 2 b).toArray = X2 at D2 z2 l2
  generalize ByteArray.mk (digL 8 3 b).toArray = X3 at D3 z3 l3
  generalize ByteArray.mk (digL 16 1 b).toArray = X1 at D1 z1 l1
  generalize ByteArray.mk (digL 8 3 (256 + b)).toArray = X4 at D4 z4 l4
  have a120 : (ByteArray.mk #[92, 120]).data.toList = [92, 120] := rfl
  have a92 : (ByteArray.mk #[92]).data.toList = [92] := rfl
  have a55 : (ByteArray.mk #[55]).data.toList = [55] := rfl
  have s120 : (ByteArray.mk #[92, 120]).size = 2 := rfl
  have s92 : (ByteArray.mk #[92]).size = 1 := rfl
  have s55 : (ByteArray.mk #[55]).size = 1 := rfl
  have s34 : (ByteArray.mk #[34]).size = 1 := rfl
  have y1 : ((⟨#[92, 120]⟩ : ByteArray) ++ X2).size = 4 := by rw [app_size]; omega
  have y2 : ((⟨#[92]⟩ : ByteArray) ++ X3).size = 4 := by rw [app_size]; omega
  have y3 : ((⟨#[92]⟩ : ByteArray) ++ X3 ++ (⟨#[55]⟩ : ByteArray) ++ ((⟨#[92, 120]⟩ : ByteArray) ++ X2)).size = 9 := by rw [app_size, app_size, y1, y2]; omega
  have y4 : ((⟨#[92, 120]⟩ : ByteArray) ++ X1).size = 3 := by rw [app_size]; omega
  have y5 : ((⟨#[92]⟩ : ByteArray) ++ X4).size = 4 := by rw [app_size]; omega
  have Q1 := Lib.hid (fun (w : World) => quoted_any ⟨#[34]⟩ (⟨#[92, 120]⟩ ++ X2) w (by omega))
  have Q2 := Lib.hid (fun (w : World) => quoted_any ⟨#[34]⟩ (⟨#[92]⟩ ++ X3) w (by omega))
  have Q3 := Lib.hid (fun (w : World) => quoted_any ⟨#[34]⟩ (⟨#[92]⟩ ++ X3 ++ ⟨#[55]⟩ ++ (⟨#[92, 120]⟩ ++ X2)) w (by omega))
  have Q4 := Lib.hid (fun (w : World) => quoted_any ⟨#[34]⟩ (⟨#[92, 120]⟩ ++ X1) w (by omega))
  have Q5 := Lib.hid (fun (w : World) => quoted_any ⟨#[34]⟩ (⟨#[92]⟩ ++ X4) w (by omega))
  have U1 := Lib.hid (fun (w' : World) (hb : Bw w w') => gives_is (⟨#[34]⟩ ++ (⟨#[92, 120]⟩ ++ X2) ++ ⟨#[34]⟩) W0 w' (HW.out.bw hb) (small_room (by rw [between_size]; omega)) (by rw [between_list, app_list, a120, l2, h0l]; exact be_hex ⟨b, by assumption⟩))
  have U2 := Lib.hid (fun (w' : World) (hb : Bw w w') => gives_is (⟨#[34]⟩ ++ (⟨#[92]⟩ ++ X3) ++ ⟨#[34]⟩) W0 w' (HW.out.bw hb) (small_room (by rw [between_size]; omega)) (by rw [between_list, app_list, a92, l3, h0l]; exact be_oct ⟨b, by assumption⟩))
  have U3 := Lib.hid (fun (w' : World) (hb : Bw w w') => gives_is (⟨#[34]⟩ ++ (⟨#[92]⟩ ++ X3 ++ ⟨#[55]⟩ ++ (⟨#[92, 120]⟩ ++ X2)) ++ ⟨#[34]⟩) (W0 ++ ⟨#[55]⟩ ++ W0) w' (HW.out.bw hb) (small_room (by rw [between_size]; omega))
    (by rw [between_list, app_list, app_list, app_list, app_list, app_list, app_list, a92, a55, a120, l2, l3, h0l]; exact be_all ⟨b, by assumption⟩))
  have U4 := Lib.hid (fun (w' : World) (hb : Bw w w') => refuses_yes (⟨#[34]⟩ ++ (⟨#[92, 120]⟩ ++ X1) ++ ⟨#[34]⟩) w' (HW.out.bw hb) (small_room (by rw [between_size]; omega)) (by rw [between_list, app_list, a120, l1]; exact be_one ⟨b, by assumption⟩))
  have U5 := Lib.hid (fun (w' : World) (hb : Bw w w') => refuses_yes (⟨#[34]⟩ ++ (⟨#[92]⟩ ++ X4) ++ ⟨#[34]⟩) w' (HW.out.bw hb) (small_room (by rw [between_size]; omega)) (by rw [between_list, app_list, a92, l4]; exact be_big ⟨b, by assumption⟩))
  clear l1 l2 l3 l4 a120 a92 a55 h0l y1 y2 y3 y4 y5
  go_enter Tryd.func5, Tryd.ntmps5
  have HB := (Bw.refl w).alloc (.cells #[.int .u8 b] 5)
  go_wp2_with (first
    | (go_at_call 17; (first | with_reducible refine (D2.out _).mono ?_ | with_reducible refine (D3.out _).mono ?_ | with_reducible refine (D1.out _).mono ?_ | with_reducible refine (D4.out _).mono ?_); rintro e w1 ⟨rfl, hb1⟩; replace HB := Bw.trans HB hb1; clear hb1)
    | (go_at_call 14; (first | with_reducible refine (Q1.out _).mono ?_ | with_reducible refine (Q2.out _).mono ?_ | with_reducible refine (Q3.out _).mono ?_ | with_reducible refine (Q4.out _).mono ?_ | with_reducible refine (Q5.out _).mono ?_); rintro e w1 ⟨rfl, hb1⟩; replace HB := Bw.trans HB hb1; clear hb1)
    | (go_at_call 18; (first | with_reducible refine (U4.out _ HB).mono ?_ | with_reducible refine (U5.out _ HB).mono ?_); rintro e w1 ⟨rfl, hb1⟩; replace HB := Bw.trans HB hb1; clear hb1)
    | (go_at_call 16; (first | with_reducible refine (U1.out _ HB).mono ?_ | with_reducible refine (U2.out _ HB).mono ?_ | with_reducible refine (U3.out _ HB).mono ?_); rintro e w1 ⟨rfl, hb1⟩; replace HB := Bw.trans HB hb1; clear hb1))
  go_ret
  exact ⟨rfl, HB⟩
end Go.Proofs.YtdhdgjnpolghhaaDoor
