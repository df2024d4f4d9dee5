/-
  The walks over the reference's Kind and raw, and over the laws' without.
-/
import Derived.Test.YtdhdgjnpolghhaaDoorHp
namespace Go.Proofs.YtdhdgjnpolghhaaDoor
open Go.RowKit Go.Uq

/-- an empty row of the call's own -/
theorem empty_buf (w : World) : Buf w.heap.size (w.alloc (.cells #[] 5)) (.slice (some ⟨w.heap.size, 0, none⟩) 0 0) [] :=
  ⟨rfl, .inr ⟨w.heap.size, 0, #[], rfl, Nat.le_refl _, (show (w.heap.push _)[w.heap.size]? = _ by simp), Nat.le_refl _, Nat.zero_le _, rfl, rfl⟩⟩
set_option maxHeartbeats 1000000 in
set_option maxRecDepth 100000 in
/-- laws.without -/
theorem without_any (s : ByteArray) (c : Nat) (w : World) (hs : s.size ≤ 140737488355328) :
    Calls Tryd.prog 21 #[.string s, .int .u8 c] w fun e w' => e = .returned (.string ⟨(s.data.toList.filter fun x => x.toNat != c).toArray⟩) ∧ Bw w w' := by
  have hb0 := empty_buf w
  go_enter Tryd.func21, Tryd.ntmps21
  go_wp2
  go_loopw [5, 6] (fun b i wr => ∃ (k : Nat) (O : List UInt8), k ≤ s.size ∧ i = .int .i64 k ∧ Buf w.heap.size wr b O ∧ Hid (O = (s.data.toList.take k).filter (fun x => x.toNat != c)) ∧ O.length ≤ k ∧ Bw w wr) (fun _ i _ => s.size - (intOf i).toNat)
  case atStart => exact ⟨0, [], by omega, rfl, hb0, Lib.hid rfl, by simp, (Bw.refl w).alloc _⟩
  case round =>
    obtain ⟨k, O, hk2, rfl, hbuf, hO, hOl, hb⟩ := hrel
    clear hb0
    by_cases hlt : k < s.size
    · have hltz : decide ((k : Int) < (s.size : Int)) = true := decide_eq_true (by omega)
      have HSN : Hid (s.data.toList.take (k + 1) = s.data.toList.take k ++ [s[k]]) := Lib.hid (by
        have hl : k < s.data.toList.length := by rw [← Lib.size_eq]; exact hlt
        rw [List.take_succ_eq_append_getElem hl]
        rfl)
      by_cases h13 : s[k].toNat = c
      · have b13 : ((s[k].toNat : Int) != c) = false := by simp [h13]
        go_wp2
        go_roundw
        case rel =>
          refine ⟨k + 1, O, by omega, by go_num, hbuf, Lib.hid ?_, by omega, hb⟩
          rw [HSN.out, List.filter_append, ← hO.out]
          simp [h13]
        case measure => simp [intOf]; omega
      · have b13 : ((s[k].toNat : Int) != c) = true := by rw [bne_iff_ne]; omega
        go_wp2_with (at_builtin; refine app_byte _ rfl _ _ rfl w.heap.size _ O rfl (hbuf.alloc _) ⟨wr.heap.size, 0, none⟩ s[k] rfl ?_ (by omega) (by simp only [World.size_alloc]; have := hb.size; omega) ?_; (simp [go_sem]); intro v1 w1 hbuf1 hg1)
        have hb1 : Bw w w1 := (hb.alloc _).grown hg1 (fun j hj => hbuf.row j hj)
        clear hg1
        go_wp2
        go_roundw
        case rel =>
          refine ⟨k + 1, O ++ [s[k]], by omega, by go_num, hbuf1, Lib.hid ?_, by simp; omega, hb1⟩
          rw [HSN.out, List.filter_append, ← hO.out]
          simp [h13]
        case measure => simp [intOf]; omega
    · obtain rfl : k = s.size := by omega
      have hltz : decide ((s.size : Int) < (s.size : Int)) = false := by simp
      have HF : Hid (O = s.data.toList.filter (fun x => x.toNat != c)) := Lib.hid (by
        rw [hO.out, List.take_of_length_le (Nat.le_of_eq (Lib.size_eq s).symm)])
      have hcv := hbuf.conv
      go_wp2
      go_ret
      rw [HF.out]
      exact ⟨rfl, hb⟩
end Go.Proofs.YtdhdgjnpolghhaaDoor
