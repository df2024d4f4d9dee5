/-
  The walk over the reference's Decode.
-/
import Derived.Test.YtbnginnbpppegaaDoorWb
import Derived.Deep.QuietTactic
import Derived.BigQuiet
namespace Go.Proofs.YtbnginnbpppegaaDoor
open Go.RowKit Go.Uq

def NoFit (l : List UInt8) (k : Nat) : Prop := ∀ j, 1 ≤ j → j < k → fits l j = false
theorem NoFit.next {l : List UInt8} {k : Nat} (h : NoFit l k) (hk : fits l k = false) : NoFit l (k + 1) := fun j h1 h2 => by
  rcases Nat.lt_or_ge j k with hlt | hge
  · exact h j h1 hlt
  · obtain rfl : j = k := by omega
    exact hk
theorem fits_no {s : ByteArray} {k : Nat} {R : Int} (hR : cand s.data.toList k = R) (ht : (encS R == (s.extract 0 k).toList) = false) : fits s.data.toList k = false := by
  unfold fits
  rw [hR, decide_eq_false_iff_not]
  rintro ⟨_, _, h⟩
  rw [Lib.toList_data, take_list, ← h] at ht
  simp at ht
theorem fits_out {s : ByteArray} {k : Nat} {R : Int} (hR : cand s.data.toList k = R) (h : ¬ (0 ≤ R ∧ R ≤ 1114111)) : fits s.data.toList k = false := by
  unfold fits
  rw [hR, decide_eq_false_iff_not]
  rintro ⟨a, b, _⟩
  exact h ⟨a, b⟩
theorem fits_ret {s : ByteArray} {k : Nat} {R : Int} {D : Nat × Nat} (h1 : 1 ≤ k) (h4 : k ≤ 4) (hl : k ≤ s.size) (hR : cand s.data.toList k = R) (h0 : 0 ≤ R) (hm : R ≤ 1114111) (ht : (encS R == (s.extract 0 k).toList) = true) (hD : specDec s.data.toList = D) :
    R = (D.1 : Int) ∧ (k : Int) = (D.2 : Int) := by
  have hf : fits s.data.toList k = true := by
    unfold fits
    rw [hR, decide_eq_true_eq]
    refine ⟨h0, hm, ?_⟩
    rw [← take_list, ← Lib.toList_data]
    exact eq_of_beq ht
  obtain ⟨e, a, _⟩ := fits_dec h1 h4 (by rw [← Lib.size_eq]; exact hl) hf
  rw [hR] at e a
  rw [← hD, e]
  exact ⟨by dsimp only; omega, rfl⟩
theorem fits_none {s : ByteArray} {k : Nat} {D : Nat × Nat} (hk : ¬ (k ≤ 4 ∧ k ≤ s.size)) (hno : NoFit s.data.toList k) (hD : specDec s.data.toList = D) : (0 : Int) = (D.1 : Int) ∧ (0 : Int) = (D.2 : Int) := by
  have e := dec_none (l := s.data.toList) (fun j h1 h4 hl => hno j h1 (by rw [← Lib.size_eq] at hl; omega))
  rw [← hD, e]
  exact ⟨rfl, rfl⟩
theorem ret_two {a b c d : Int} (h : a = c ∧ b = d) : Ending.returned (.tuple #[.int .i64 a, .int .i64 b]) = .returned (.tuple #[.int .i64 c, .int .i64 d]) := by rw [h.1, h.2]
set_option maxHeartbeats 1000000 in
/-- spec.Decode -/
theorem decode_any (s : ByteArray) (w : World) (hs : s.size ≤ 9223372036854775807) :
    Calls Tryd.prog 29 #[.string s] w fun e w' => e = .returned (.tuple #[.int .i64 (specDec s.data.toList).1, .int .i64 (specDec s.data.toList).2]) ∧ Bw w w' := by
  obtain ⟨D, hD⟩ : ∃ D, specDec s.data.toList = D := ⟨_, rfl⟩
  rw [hD]
  have HD := Lib.hid hD
  clear hD
  go_enter Tryd.func29, Tryd.ntmps29
  go_wp2
  go_loopw [4] (fun t wr => ∃ k : Nat, 1 ≤ k ∧ k ≤ 5 ∧ t = .int .i64 k ∧ NoFit s.data.toList k ∧ Bw w wr) (fun t _ => 5 - (intOf t).toNat)
  case atStart => exact ⟨1, by omega, by omega, rfl, fun j h1 h2 => by omega, Bw.refl _⟩
  case round =>
    obtain ⟨k, hk1, hk5, rfl, hno, hb⟩ := hrel
    by_cases hk4 : k ≤ 4
    · by_cases hks : k ≤ s.size
      · have hcase : k = 1 ∨ k = 2 ∨ k = 3 ∨ k = 4 := by omega
        rcases hcase with rfl | rfl | rfl | rfl
        · have g0 : 0 < s.size := by omega
          have b0 := s[0].toNat_lt
          have HC : Hid (cand s.data.toList 1 = (s[0].toNat : Int)) := by rw [cand1, byte_at s 0 g0]; exact Lib.hid rfl
          go_wp2
          generalize hR : (s[0].toNat : Int) = R at HC ⊢
          clear hR
          by_cases h0 : 0 ≤ R
          · by_cases h1 : R ≤ 1114111
            · have hsl : (1 : Int) ≤ s.size := by omega
              refine wp_region_quiet_below (by kernel_rfl) (by kernel_rfl) ?_
              repeat (first | go_big_quiet_step (exact quiet_bw (encode_any _ _)) | quiet_step (exact quiet_bw (encode_any _ _)))
              refine wpQuiet_nil ?_
              intro _ hw'
              obtain ⟨⟨dq, osq⟩, hw''⟩ := hw'
              subst hw''
              cases ht : (encS R == (s.extract 0 1).toList)
              · have HT := Lib.hid ht
                go_wp2
                go_roundw
                case rel => exact ⟨2, by omega, by omega, rfl, hno.next (fits_no HC.out HT.out), hb.regrown _ _⟩
                case measure => simp [intOf]
              · have HT := Lib.hid ht
                go_wp2
                go_ret2
                exact ⟨ret_two (fits_ret (by omega) (by omega) hks HC.out h0 h1 HT.out HD.out), hb.regrown _ _⟩
            · have h1b : decide (R ≤ 1114111) = false := by simpa using h1
              go_quiet (fail)
              go_wp2
              go_roundw
              case rel => exact ⟨2, by omega, by omega, rfl, hno.next (fits_out HC.out (fun h => h1 h.2)), hb.drewN _⟩
              case measure => simp [intOf]
          · have h0b : decide (0 ≤ R) = false := by simpa using h0
            go_quiet (fail)
            go_wp2
            go_roundw
            case rel => exact ⟨2, by omega, by omega, rfl, hno.next (fits_out HC.out (fun h => h0 h.1)), hb.drewN _⟩
            case measure => simp [intOf]
        · have g0 : 0 < s.size := by omega
          have g1 : 1 < s.size := by omega
          have b0 := s[0].toNat_lt
          have b1 := s[1].toNat_lt
          have HC : Hid (cand s.data.toList 2 = (((s[0].toNat : Int) - 192) * 64 + (s[1].toNat : Int) - 128)) := by rw [cand2, byte_at s 0 g0, byte_at s 1 g1]; exact Lib.hid rfl
          go_wp2
          refine wp_loop_rounds 2 ?_
          rw [rounds_succ]
          go_wp2
          rw [rounds_succ]
          go_wp2
          generalize hR : (((s[0].toNat : Int) - 192) * 64 + (s[1].toNat : Int) - 128) = R at HC ⊢
          clear hR
          by_cases h0 : 0 ≤ R
          · by_cases h1 : R ≤ 1114111
            · have hsl : (2 : Int) ≤ s.size := by omega
              refine wp_region_quiet_below (by kernel_rfl) (by kernel_rfl) ?_
              repeat (first | go_big_quiet_step (exact quiet_bw (encode_any _ _)) | quiet_step (exact quiet_bw (encode_any _ _)))
              refine wpQuiet_nil ?_
              intro _ hw'
              obtain ⟨⟨dq, osq⟩, hw''⟩ := hw'
              subst hw''
              cases ht : (encS R == (s.extract 0 2).toList)
              · have HT := Lib.hid ht
                go_wp2
                go_roundw
                case rel => exact ⟨3, by omega, by omega, rfl, hno.next (fits_no HC.out HT.out), (hb.alloc _).regrown _ _⟩
                case measure => simp [intOf]
              · have HT := Lib.hid ht
                go_wp2
                go_ret2
                exact ⟨ret_two (fits_ret (by omega) (by omega) hks HC.out h0 h1 HT.out HD.out), (hb.alloc _).regrown _ _⟩
            · have h1b : decide (R ≤ 1114111) = false := by simpa using h1
              go_quiet (fail)
              go_wp2
              go_roundw
              case rel => exact ⟨3, by omega, by omega, rfl, hno.next (fits_out HC.out (fun h => h1 h.2)), (hb.alloc _).drewN _⟩
              case measure => simp [intOf]
          · have h0b : decide (0 ≤ R) = false := by simpa using h0
            go_quiet (fail)
            go_wp2
            go_roundw
            case rel => exact ⟨3, by omega, by omega, rfl, hno.next (fits_out HC.out (fun h => h0 h.1)), (hb.alloc _).drewN _⟩
            case measure => simp [intOf]
        · have g0 : 0 < s.size := by omega
          have g1 : 1 < s.size := by omega
          have g2 : 2 < s.size := by omega
          have b0 := s[0].toNat_lt
          have b1 := s[1].toNat_lt
          have b2 := s[2].toNat_lt
          have HC : Hid (cand s.data.toList 3 = ((((s[0].toNat : Int) - 224) * 64 + (s[1].toNat : Int) - 128) * 64 + (s[2].toNat : Int) - 128)) := by rw [cand3, byte_at s 0 g0, byte_at s 1 g1, byte_at s 2 g2]; exact Lib.hid rfl
          go_wp2
          refine wp_loop_rounds 3 ?_
          rw [rounds_succ]
          go_wp2
          rw [rounds_succ]
          go_wp2
          rw [rounds_succ]
          go_wp2
          generalize hR : ((((s[0].toNat : Int) - 224) * 64 + (s[1].toNat : Int) - 128) * 64 + (s[2].toNat : Int) - 128) = R at HC ⊢
          clear hR
          by_cases h0 : 0 ≤ R
          · by_cases h1 : R ≤ 1114111
            · have hsl : (3 : Int) ≤ s.size := by omega
              refine wp_region_quiet_below (by kernel_rfl) (by kernel_rfl) ?_
              repeat (first | go_big_quiet_step (exact quiet_bw (encode_any _ _)) | quiet_step (exact quiet_bw (encode_any _ _)))
              refine wpQuiet_nil ?_
              intro _ hw'
              obtain ⟨⟨dq, osq⟩, hw''⟩ := hw'
              subst hw''
              cases ht : (encS R == (s.extract 0 3).toList)
              · have HT := Lib.hid ht
                go_wp2
                go_roundw
                case rel => exact ⟨4, by omega, by omega, rfl, hno.next (fits_no HC.out HT.out), (hb.alloc _).regrown _ _⟩
                case measure => simp [intOf]
              · have HT := Lib.hid ht
                go_wp2
                go_ret2
                exact ⟨ret_two (fits_ret (by omega) (by omega) hks HC.out h0 h1 HT.out HD.out), (hb.alloc _).regrown _ _⟩
            · have h1b : decide (R ≤ 1114111) = false := by simpa using h1
              go_quiet (fail)
              go_wp2
              go_roundw
              case rel => exact ⟨4, by omega, by omega, rfl, hno.next (fits_out HC.out (fun h => h1 h.2)), (hb.alloc _).drewN _⟩
              case measure => simp [intOf]
          · have h0b : decide (0 ≤ R) = false := by simpa using h0
            go_quiet (fail)
            go_wp2
            go_roundw
            case rel => exact ⟨4, by omega, by omega, rfl, hno.next (fits_out HC.out (fun h => h0 h.1)), (hb.alloc _).drewN _⟩
            case measure => simp [intOf]
        · have g0 : 0 < s.size := by omega
          have g1 : 1 < s.size := by omega
          have g2 : 2 < s.size := by omega
          have g3 : 3 < s.size := by omega
          have b0 := s[0].toNat_lt
          have b1 := s[1].toNat_lt
          have b2 := s[2].toNat_lt
          have b3 := s[3].toNat_lt
          have HC : Hid (cand s.data.toList 4 = (((((s[0].toNat : Int) - 240) * 64 + (s[1].toNat : Int) - 128) * 64 + (s[2].toNat : Int) - 128) * 64 + (s[3].toNat : Int) - 128)) := by rw [cand4, byte_at s 0 g0, byte_at s 1 g1, byte_at s 2 g2, byte_at s 3 g3]; exact Lib.hid rfl
          go_wp2
          refine wp_loop_rounds 4 ?_
          rw [rounds_succ]
          go_wp2
          rw [rounds_succ]
          go_wp2
          rw [rounds_succ]
          go_wp2
          rw [rounds_succ]
          go_wp2
          generalize hR : (((((s[0].toNat : Int) - 240) * 64 + (s[1].toNat : Int) - 128) * 64 + (s[2].toNat : Int) - 128) * 64 + (s[3].toNat : Int) - 128) = R at HC ⊢
          clear hR
          by_cases h0 : 0 ≤ R
          · by_cases h1 : R ≤ 1114111
            · have hsl : (4 : Int) ≤ s.size := by omega
              refine wp_region_quiet_below (by kernel_rfl) (by kernel_rfl) ?_
              repeat (first | go_big_quiet_step (exact quiet_bw (encode_any _ _)) | quiet_step (exact quiet_bw (encode_any _ _)))
              refine wpQuiet_nil ?_
              intro _ hw'
              obtain ⟨⟨dq, osq⟩, hw''⟩ := hw'
              subst hw''
              cases ht : (encS R == (s.extract 0 4).toList)
              · have HT := Lib.hid ht
                go_wp2
                go_roundw
                case rel => exact ⟨5, by omega, by omega, rfl, hno.next (fits_no HC.out HT.out), (hb.alloc _).regrown _ _⟩
                case measure => simp [intOf]
              · have HT := Lib.hid ht
                go_wp2
                go_ret2
                exact ⟨ret_two (fits_ret (by omega) (by omega) hks HC.out h0 h1 HT.out HD.out), (hb.alloc _).regrown _ _⟩
            · have h1b : decide (R ≤ 1114111) = false := by simpa using h1
              go_quiet (fail)
              go_wp2
              go_roundw
              case rel => exact ⟨5, by omega, by omega, rfl, hno.next (fits_out HC.out (fun h => h1 h.2)), (hb.alloc _).drewN _⟩
              case measure => simp [intOf]
          · have h0b : decide (0 ≤ R) = false := by simpa using h0
            go_quiet (fail)
            go_wp2
            go_roundw
            case rel => exact ⟨5, by omega, by omega, rfl, hno.next (fits_out HC.out (fun h => h0 h.1)), (hb.alloc _).drewN _⟩
            case measure => simp [intOf]
      · go_wp2
        go_ret2
        exact ⟨ret_two (fits_none (fun h => hks h.2) hno HD.out), hb⟩
    · go_wp2
      go_ret2
      exact ⟨ret_two (fits_none (fun h => hk4 h.1) hno HD.out), hb⟩
end Go.Proofs.YtbnginnbpppegaaDoor
