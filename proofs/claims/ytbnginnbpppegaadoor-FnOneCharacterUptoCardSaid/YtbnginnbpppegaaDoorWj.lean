/-
  The walk over the library's UnquoteChar: octal escapes.
-/
import Derived.Test.YtbnginnbpppegaaDoorWi
namespace Go.Proofs.YtbnginnbpppegaaDoor
open Go.RowKit Go.Uq

theorem dig8 (c : Nat) : digN c 8 = if 48 ≤ c ∧ c ≤ 55 then some (c - 48) else none := by
  unfold digN
  by_cases h : 48 ≤ c ∧ c ≤ 55
  · rw [if_pos h, if_pos (by omega), if_pos (by omega)]
  · rw [if_neg h]
    repeat' split
    all_goals first | rfl | omega
theorem num_one {c : UInt8} {t : List UInt8} (h : 48 ≤ c.toNat ∧ c.toNat ≤ 55) : num 8 1 (c :: t) 0 = some (c.toNat - 48) := by
  simp [num, dig8, h]
/-- the text behind the backslash -/
theorem tail_list (s : ByteArray) (h : 1 < s.size) : s.data.toList.drop 1 = s[1] :: (s.extract 2 s.size).data.toList := by
  rw [Lib.extract_to_end]
  have hl : 1 < s.data.toList.length := by rw [← Lib.size_eq]; exact h
  rw [List.drop_eq_getElem_cons hl]
  congr 1
def octs (d : Nat) : Prop := d = 48 ∨ d = 49 ∨ d = 50 ∨ d = 51 ∨ d = 52 ∨ d = 53 ∨ d = 54 ∨ d = 55
theorem octs_of {d : Nat} (h : 48 ≤ d ∧ d ≤ 55) : octs d := by unfold octs; omega
theorem octs_to {d : Nat} (h : octs d) : 48 ≤ d ∧ d ≤ 55 := by unfold octs at h; omega

set_option maxHeartbeats 2000000 in
set_option maxRecDepth 100000 in
theorem uc_o_short (s : ByteArray) (q d : Nat) (w : World) (t : TypeId) (v : Value) (hE : w.cell? ⟨0, 0, none⟩ = some (.iface t v)) (h : 1 < s.size) (hc : (s[0]'(by omega)).toNat = 92) (hd : (s[1]'h).toNat = d) (ho : octs d) (hq : q = 0 ∨ q = 34 ∨ q = 39) (hl : s.size - 2 < 2) :
    Calls Tryd.prog 32 #[.string s, .int .u8 q] w fun e w' => e = ucBad t v ∧ Bw w w' := by
  have hz : ((s.size : Int) == 0) = false := beq_eq_false_iff_ne.2 (by omega)
  have hcq : ((92 : Int) == q) = false := by simp; omega
  have hle : decide ((s.size : Int) ≤ 1) = false := by simp; omega
  have h2z : (2 : Int) ≤ s.size := by omega
  have h1z : (1 : Int) < s.size := by omega
  have h0z : (0 : Int) < s.size := by omega
  have hll : decide (((s.size - 2 : Nat) : Int) < 2) = true := by simp; omega
  clear hq
  unfold octs at ho
  rcases ho with rfl | rfl | rfl | rfl | rfl | rfl | rfl | rfl
  all_goals
    go_enter Tryd.func32, Tryd.ntmps32
    go_wp2
    refine bodyPost_ret (results4 rfl _ _ _) rfl ?_
    exact ⟨rfl, Bw.refl _⟩
def Post_o (s : ByteArray) (t : TypeId) (v : Value) (w : World) (e : Ending) (w' : World) : Prop :=
  (match num 8 3 (s.data.toList.drop 1) 0 with
  | none => e = ucBad t v
  | some N => e = if N ≤ 255 then ucGood s N 4 false else ucBad t v) ∧ Bw w w'
set_option maxHeartbeats 4000000 in
set_option maxRecDepth 100000 in
theorem uc_o (s : ByteArray) (q d : Nat) (w : World) (t : TypeId) (v : Value) (hE : w.cell? ⟨0, 0, none⟩ = some (.iface t v)) (h : 1 < s.size) (hc : (s[0]'(by omega)).toNat = 92) (hd : (s[1]'h).toNat = d) (ho : octs d) (hq : q = 0 ∨ q = 34 ∨ q = 39) (hl : 2 ≤ s.size - 2) :
    Calls Tryd.prog 32 #[.string s, .int .u8 q] w (Post_o s t v w) := by
  have hz : ((s.size : Int) == 0) = false := beq_eq_false_iff_ne.2 (by omega)
  have hcq : ((92 : Int) == q) = false := by simp; omega
  have hle : decide ((s.size : Int) ≤ 1) = false := by simp; omega
  have h2z : (2 : Int) ≤ s.size := by omega
  have h1z : (1 : Int) < s.size := by omega
  have h0z : (0 : Int) < s.size := by omega
  have hll : decide (((s.size - 2 : Nat) : Int) < 2) = false := by simp; omega
  clear hq
  have hsz := rest_size s 2
  have HX := Lib.hid (ext_ext s 2 2)
  have htl := tail_list s h
  have h1 : num 8 1 (s.data.toList.drop 1) 0 = some (d - 48) := by
    rw [htl, num_one (by rw [hd]; exact octs_to ho), hd]
  have H1 := Lib.hid h1
  clear h1
  generalize hU : s.extract 2 s.size = u at hsz HX htl
  have HZ := Lib.hid hsz
  have HL := Lib.hid htl
  clear htl
  unfold octs at ho
  rcases ho with rfl | rfl | rfl | rfl | rfl | rfl | rfl | rfl
  all_goals
    go_enter Tryd.func32, Tryd.ntmps32
    go_wp2
    clear hU hsz
    go_loop [7, 17, 18] (fun c a b => c = .nilIface ∧ ∃ (j N : Nat), j ≤ 2 ∧ b = .int .i64 j ∧ a = .int .i32 N ∧ Hid (num 8 (j + 1) (s.data.toList.drop 1) 0 = some N)) (fun _ _ b => 2 - (intOf b).toNat)
    case atStart => exact ⟨rfl, 0, _, by omega, rfl, rfl, H1⟩
    case round =>
      obtain ⟨rfl, j, N, hj, rfl, rfl, hN⟩ := hrel
      by_cases hlt : j < 2
      · have hju : j < u.size := by have := HZ.out; omega
        have hltz : decide ((j : Int) < 2) = true := by simp; omega
        have hb := u[j].toNat_lt
        have hN64 : N < 64 := by
          have := num_lt hN.out
          have hj2 : j = 0 ∨ j = 1 := by omega
          rcases hj2 with rfl | rfl <;> (simp at this; omega)
        have HS := Lib.hid (num_snoc hN.out (by rw [List.length_drop, ← Lib.size_eq]; have := HZ.out; omega))
        have HI : Hid ((s.data.toList.drop 1).getD (j + 1) 0 = u[j]) := by
          rw [HL.out, List.getD_cons_succ]; exact Lib.hid (list_at u j hju)
        by_cases hlo : 48 ≤ u[j].toNat
        · by_cases hhi : u[j].toNat ≤ 55
          · have b1 : decide ((u[j].toNat : Int) - 48 < 0) = false := by simp; omega
            have b2 : decide ((7 : Int) < (u[j].toNat : Int) - 48) = false := by simp; omega
            go_wp2
            go_round
            case rel =>
              have e := HS.out
              rw [HI.out, dig8, if_pos ⟨hlo, hhi⟩] at e
              have o := or8 N (u[j].toNat - 48) hN64 (by omega)
              rw [show ((u[j].toNat - 48 : Nat) : Int) = (u[j].toNat : Int) - 48 by omega] at o
              exact ⟨rfl, j + 1, _, by omega, by go_num, congrArg (Value.int .i32) o, Lib.hid e⟩
            case measure => simp [intOf]; omega
          · have b1 : decide ((u[j].toNat : Int) - 48 < 0) = false := by simp; omega
            have b2 : decide ((7 : Int) < (u[j].toNat : Int) - 48) = true := by simp; omega
            go_wp2
            refine bodyPost_ret (results4 rfl _ _ _) rfl ?_
            have e := HS.out
            rw [HI.out, dig8, if_neg (fun hh => hhi hh.2)] at e
            have e2 := num_stop e (show j + 1 + 1 ≤ 3 by omega)
            refine ⟨?_, Bw.refl _⟩
            rw [e2]
            rfl
        · have b1 : decide ((u[j].toNat : Int) - 48 < 0) = true := by simp; omega
          go_wp2
          refine bodyPost_ret (results4 rfl _ _ _) rfl ?_
          have e := HS.out
          rw [HI.out, dig8, if_neg (fun hh => hlo hh.1)] at e
          have e2 := num_stop e (show j + 1 + 1 ≤ 3 by omega)
          refine ⟨?_, Bw.refl _⟩
          rw [e2]
          rfl
      · obtain rfl : j = 2 := by omega
        have hltz : decide (((2 : Nat) : Int) < 2) = false := by simp
        have hnz : (2 : Int) ≤ u.size := by have := HZ.out; omega
        by_cases h255 : N ≤ 255
        · have b1 : decide ((255 : Int) < N) = false := by simp; omega
          go_wp2
          refine bodyPost_ret (results4 rfl _ _ _) rfl ?_
          refine ⟨?_, Bw.refl _⟩
          rw [hN.out]
          simp only [if_pos h255]
          show Ending.returned _ = Ending.returned _
          rw [← HX.out]
          simp
        · have b1 : decide ((255 : Int) < N) = true := by simp; omega
          go_wp2
          refine bodyPost_ret (results4 rfl _ _ _) rfl ?_
          refine ⟨?_, Bw.refl _⟩
          rw [hN.out]
          simp only [if_neg h255]
          rfl
end Go.Proofs.YtbnginnbpppegaaDoor
