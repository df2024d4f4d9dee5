/-
  The walks over the reference's IsText, isControl, CanBackquote, BackquoteCorner.
-/
import Derived.Test.YtidjchoneopmbaaDoorWc
import Derived.Deep.LoopGhost
namespace Go.Proofs.YtidjchoneopmbaaDoor
open Go.RowKit Go.Uq

theorem decode_at (s : ByteArray) (w : World) (r k : Nat) (hs : s.size ≤ 9223372036854775807) (h : specDec s.data.toList = (r, k)) :
    Calls Tryd.prog 17 #[.string s] w fun e w' => e = .returned (.tuple #[.int .i64 r, .int .i64 k]) ∧ Bw w w' := by
  have := decode_any s w hs
  rw [h] at this
  exact this
theorem ne_of_size {t : ByteArray} (h : 0 < t.size) : t.data.toList ≠ [] := fun e => by
  rw [Lib.size_eq, e] at h
  simp at h
/-- a character at the beginning of a text, by name -/
theorem char_at {t : ByteArray} (h : 0 < t.size) (hg : good t.data.toList = true) :
    ∃ r k : Nat, Lib.decodeL t.data.toList = (r, k) ∧ specDec t.data.toList = (r, k) ∧ 1 ≤ k ∧ k ≤ t.size ∧ r ≤ 1114111 := by
  refine ⟨(Lib.decodeL t.data.toList).1, (Lib.decodeL t.data.toList).2, rfl, ?_, Lib.decodeL_width _, ?_, Lib.decodeL_rune _⟩
  · unfold specDec
    rw [if_neg (ne_of_size h), if_pos hg]
  · have := Lib.decodeL_le _ (ne_of_size h)
    rw [Lib.size_eq]
    exact this
theorem char_none {t : ByteArray} (hg : good t.data.toList = false) : specDec t.data.toList = (0, 0) := by
  unfold specDec
  rw [hg]
  simp
theorem empty_of_size {t : ByteArray} (h : ¬ 0 < t.size) : t.data.toList = [] := by
  apply List.eq_nil_of_length_eq_zero
  rw [← Lib.size_eq]
  omega

set_option maxHeartbeats 400000 in
/-- spec.IsText -/
theorem isText_any (s : ByteArray) (w : World) (hs : s.size ≤ 9223372036854775807) :
    Calls Tryd.prog 13 #[.string s] w fun e w' => e = .returned (.bool (Lib.validD s.data.toList)) ∧ Bw w w' := by
  obtain ⟨ANS, hA⟩ : ∃ ANS, Lib.validD s.data.toList = ANS := ⟨_, rfl⟩
  rw [hA]
  have HA := Lib.hid hA
  clear hA
  go_enter Tryd.func13, Tryd.ntmps13
  go_wp2
  go_loopg [0] (s.size + 1) (fun gk v wr => Bw w wr ∧ ∃ t : ByteArray, v = .string t ∧ Hid (Lib.validD t.data.toList = ANS) ∧ t.size < gk ∧ t.size ≤ 9223372036854775807)
  case atStart => exact ⟨Bw.refl _, s, rfl, HA, by omega, hs⟩
  case round =>
    obtain ⟨hb, t, rfl, hv, hg, ht⟩ := hrel
    clear HA
    by_cases h0 : 0 < t.size
    · obtain ⟨g', rfl⟩ : ∃ g', gk = g' + 1 := ⟨gk - 1, by omega⟩
      have h0z : (0 : Int) < (t.size : Int) := by omega
      cases hgd : good t.data.toList with
      | true =>
        have HG := Lib.hid hgd
        clear hgd
        obtain ⟨r, k, hd, hsd, hk1, hk2, hr⟩ := char_at h0 HG.out
        have HD := Lib.hid hd
        have HS := Lib.hid hsd
        clear hd hsd
        have hk0 : ((k : Int) == 0) = false := by simp; omega
        go_wp2_with (go_at_call 17; refine (decode_at t _ r k ht HS.out).mono ?_; rintro e w' ⟨rfl, hb'⟩)
        go_roundg g'
        case rel =>
          refine ⟨hb.trans hb', t.extract k t.size, rfl, ?_, ?_, ?_⟩
          · have e := valid_of_good (ne_of_size h0) HG.out
            rw [HD.out] at e
            rw [Lib.extract_to_end]
            exact Lib.hid (e.symm.trans hv.out)
          · rw [rest_size]; omega
          · rw [rest_size]; omega
        case measure => omega
      | false =>
        have HG := Lib.hid hgd
        clear hgd
        go_wp2_with (go_at_call 17; refine (decode_at t _ 0 0 ht (char_none HG.out)).mono ?_; rintro e w' ⟨rfl, hb'⟩)
        go_ret
        have e : ANS = false := by
          rw [← hv.out, Lib.validD_step _ (ne_of_size h0), if_pos ((good_neg _).1 HG.out)]
        rw [e]
        exact ⟨rfl, hb.trans hb'⟩
    · go_wp2
      go_ret
      have e : ANS = true := by rw [← hv.out, empty_of_size h0]; rfl
      rw [e]
      exact ⟨rfl, hb⟩

set_option maxHeartbeats 400000 in
/-- spec.isControl -/
theorem isControl_any (r : Nat) (w : World) (hr : r ≤ 1114111) :
    Calls Tryd.prog 25 #[.int .i64 r] w fun e w' => e = .returned (.bool (ctl r)) ∧ w = w' := by
  by_cases h1 : r < 32
  · have e : ctl r = true := by simp [ctl, h1]
    rw [e]
    clear e
    have b1 : decide ((r : Int) < 32) = true := by simp; omega
    go_enter Tryd.func25, Tryd.ntmps25
    go_wp2
    go_ret
    exact ⟨rfl, rfl⟩
  by_cases h2 : 127 ≤ r
  · by_cases h3 : r < 160
    · have e : ctl r = true := by simp [ctl, h2, h3]
      rw [e]
      clear e
      have b1 : decide ((r : Int) < 32) = false := by simp; omega
      have b2 : decide ((127 : Int) ≤ r) = true := by simp; omega
      have b3 : decide ((r : Int) < 160) = true := by simp; omega
      go_enter Tryd.func25, Tryd.ntmps25
      go_wp2
      go_ret
      exact ⟨rfl, rfl⟩
    · have e : ctl r = false := by simp [ctl, h1, h3]
      rw [e]
      clear e
      have b1 : decide ((r : Int) < 32) = false := by simp; omega
      have b2 : decide ((127 : Int) ≤ r) = true := by simp; omega
      have b3 : decide ((r : Int) < 160) = false := by simp; omega
      go_enter Tryd.func25, Tryd.ntmps25
      go_wp2
      go_ret
      exact ⟨rfl, rfl⟩
  · have e : ctl r = false := by simp [ctl, h1, h2]
    rw [e]
    clear e
    have b1 : decide ((r : Int) < 32) = false := by simp; omega
    have b2 : decide ((127 : Int) ≤ r) = false := by simp; omega
    go_enter Tryd.func25, Tryd.ntmps25
    go_wp2
    go_ret
    exact ⟨rfl, rfl⟩
theorem isControl_is (r : Nat) (b : Bool) (w : World) (hr : r ≤ 1114111) (hb : ctl r = b) :
    Calls Tryd.prog 25 #[.int .i64 r] w fun e w' => e = .returned (.bool b) ∧ w = w' := by
  have := isControl_any r w hr
  rw [hb] at this
  exact this

set_option maxHeartbeats 800000 in
/-- spec.CanBackquote, of a text -/
theorem canS_any (s : ByteArray) (w : World) (hs : s.size ≤ 9223372036854775807) :
    Calls Tryd.prog 12 #[.string s] w fun e w' => e = .returned (.bool (canSpec s.data.toList)) ∧ Bw w w' := by
  obtain ⟨ANS, hA⟩ : ∃ ANS, canSpec s.data.toList = ANS := ⟨_, rfl⟩
  rw [hA]
  cases hv : Lib.validD s.data.toList with
  | false =>
    have e : ANS = false := by rw [← hA, canSpec, hv]; rfl
    subst e
    have HV := Lib.hid hv
    clear hv hA
    have c := isText_any s w hs
    rw [HV.out] at c
    have C := Lib.hid c
    clear c
    go_enter Tryd.func12, Tryd.ntmps12
    go_wp2_with (go_at_call 13; refine C.out.mono ?_; rintro e w' ⟨rfl, hb'⟩)
    go_ret
    exact ⟨rfl, hb'⟩
  | true =>
    have c := isText_any s w hs
    rw [hv] at c
    have C := Lib.hid c
    have HA : Hid (canS s.data.toList = ANS) := by rw [← hA, canSpec, hv]; exact Lib.hid (by simp)
    have HV := Lib.hid hv
    clear hv hA c
    go_enter Tryd.func12, Tryd.ntmps12
    go_wp2_with (go_at_call 13; refine C.out.mono ?_; rintro e w1 ⟨rfl, hb1⟩)
    go_loopg [0] (s.size + 1) (fun gk v wr => Bw w wr ∧ ∃ t : ByteArray, v = .string t ∧ Hid (canS t.data.toList = ANS) ∧ Hid (Lib.validD t.data.toList = true) ∧ t.size < gk ∧ t.size ≤ 9223372036854775807)
    case atStart => exact ⟨hb1, s, rfl, HA, HV, by omega, hs⟩
    case round =>
      obtain ⟨hb, t, rfl, hc, hvt, hg, ht⟩ := hrel
      clear HA HV C hb1
      by_cases h0 : 0 < t.size
      · obtain ⟨g', rfl⟩ : ∃ g', gk = g' + 1 := ⟨gk - 1, by omega⟩
        have h0z : (0 : Int) < (t.size : Int) := by omega
        have HG := Lib.hid (valid_good (ne_of_size h0) hvt.out).1
        have HN := Lib.hid (valid_good (ne_of_size h0) hvt.out).2
        obtain ⟨r, k, hd, hsd, hk1, hk2, hr⟩ := char_at h0 HG.out
        have HD := Lib.hid hd
        have HS := Lib.hid hsd
        clear hd hsd
        by_cases h96 : r = 96
        · subst h96
          go_wp2_with (go_at_call 17; refine (decode_at t _ 96 k ht HS.out).mono ?_; rintro e w' ⟨rfl, hb'⟩)
          go_ret
          have e : ANS = false := by rw [← hc.out, canS_step _ (ne_of_size h0), HD.out]; simp
          rw [e]
          exact ⟨rfl, hb.trans hb'⟩
        have b96 : ((r : Int) == 96) = false := by simp; omega
        cases hct : ctl r with
        | true =>
          have HC := Lib.hid hct
          clear hct
          by_cases h9 : r = 9
          · subst h9
            go_wp2_with (first
              | (go_at_call 17; refine (decode_at t _ 9 k ht HS.out).mono ?_; rintro e w' ⟨rfl, hb'⟩)
              | (go_at_call 25; refine (isControl_is 9 true _ hr HC.out).mono ?_; rintro e w' ⟨rfl, rfl⟩))
            go_roundg g'
            case rel =>
              refine ⟨hb.trans hb', t.extract k t.size, rfl, ?_, ?_, ?_, ?_⟩
              · have e := canS_step _ (ne_of_size h0)
                rw [HD.out] at e
                rw [Lib.extract_to_end]
                rw [hc.out, if_neg (by simp)] at e
                exact Lib.hid e.symm
              · rw [Lib.extract_to_end]
                have := HN.out
                rw [HD.out] at this
                exact Lib.hid this
              · rw [rest_size]; omega
              · rw [rest_size]; omega
            case measure => omega
          · have b9 : ((r : Int) != 9) = true := by rw [bne_iff_ne]; omega
            go_wp2_with (first
              | (go_at_call 17; refine (decode_at t _ r k ht HS.out).mono ?_; rintro e w' ⟨rfl, hb'⟩)
              | (go_at_call 25; refine (isControl_is r true _ hr HC.out).mono ?_; rintro e w' ⟨rfl, rfl⟩))
            go_ret
            have e : ANS = false := by rw [← hc.out, canS_step _ (ne_of_size h0), HD.out, if_pos (.inr ⟨HC.out, h9⟩)]
            rw [e]
            exact ⟨rfl, hb.trans hb'⟩
        | false =>
          have HC := Lib.hid hct
          clear hct
          go_wp2_with (first
            | (go_at_call 17; refine (decode_at t _ r k ht HS.out).mono ?_; rintro e w' ⟨rfl, hb'⟩)
            | (go_at_call 25; refine (isControl_is r false _ hr HC.out).mono ?_; rintro e w' ⟨rfl, rfl⟩))
          go_roundg g'
          case rel =>
            refine ⟨hb.trans hb', t.extract k t.size, rfl, ?_, ?_, ?_, ?_⟩
            · have e := canS_step _ (ne_of_size h0)
              rw [HD.out] at e
              rw [Lib.extract_to_end]
              rw [hc.out, if_neg (fun h => h.elim h96 (fun h => by rw [HC.out] at h; cases h.1))] at e
              exact Lib.hid e.symm
            · rw [Lib.extract_to_end]
              have := HN.out
              rw [HD.out] at this
              exact Lib.hid this
            · rw [rest_size]; omega
            · rw [rest_size]; omega
          case measure => omega
      · go_wp2
        go_ret
        have e : ANS = true := by rw [← hc.out, empty_of_size h0]; rfl
        rw [e]
        exact ⟨rfl, hb⟩

set_option maxHeartbeats 800000 in
/-- spec.BackquoteCorner -/
theorem bqc_any (s : ByteArray) (w : World) (hs : s.size ≤ 9223372036854775807) :
    Calls Tryd.prog 10 #[.string s] w fun e w' => e = .returned (.bool (bqc s.data.toList)) ∧ Bw w w' := by
  obtain ⟨ANS, hA⟩ : ∃ ANS, bqc s.data.toList = ANS := ⟨_, rfl⟩
  rw [hA]
  have HA := Lib.hid hA
  clear hA
  go_enter Tryd.func10, Tryd.ntmps10
  go_wp2
  go_loopg [0] (s.size + 1) (fun gk v wr => Bw w wr ∧ ∃ t : ByteArray, v = .string t ∧ Hid (bqc t.data.toList = ANS) ∧ t.size < gk ∧ t.size ≤ 9223372036854775807)
  case atStart => exact ⟨Bw.refl _, s, rfl, HA, by omega, hs⟩
  case round =>
    obtain ⟨hb, t, rfl, hv, hg, ht⟩ := hrel
    clear HA
    by_cases h0 : 0 < t.size
    · obtain ⟨g', rfl⟩ : ∃ g', gk = g' + 1 := ⟨gk - 1, by omega⟩
      have h0z : (0 : Int) < (t.size : Int) := by omega
      have h1z : (1 : Int) ≤ (t.size : Int) := by omega
      have HE := Lib.hid (bqc_step _ (ne_of_size h0))
      cases hgd : good t.data.toList with
      | true =>
        have HG := Lib.hid hgd
        clear hgd
        obtain ⟨r, k, hd, hsd, hk1, hk2, hr⟩ := char_at h0 HG.out
        have e := HE.out
        rw [hv.out, HG.out, hd, if_neg (by simp)] at e
        simp only at e
        have HQ := Lib.hid e
        have HS := Lib.hid hsd
        clear hd hsd e
        have hk0 : ((k : Int) == 0) = false := by simp; omega
        by_cases h128 : 128 ≤ r
        · have b128 : decide ((128 : Int) ≤ r) = true := by simp; omega
          by_cases h160 : r < 160
          · have b160 : decide ((r : Int) < 160) = true := by simp; omega
            go_wp2_with (go_at_call 17; refine (decode_at t _ r k ht HS.out).mono ?_; rintro e w' ⟨rfl, hb'⟩)
            go_ret
            have e : ANS = true := by rw [HQ.out, if_pos (.inl ⟨h128, h160⟩)]
            rw [e]
            exact ⟨rfl, hb.trans hb'⟩
          · have b160 : decide ((r : Int) < 160) = false := by simp; omega
            by_cases hfe : r = 65279
            · subst hfe
              go_wp2_with (go_at_call 17; refine (decode_at t _ 65279 k ht HS.out).mono ?_; rintro e w' ⟨rfl, hb'⟩)
              go_ret
              have e : ANS = true := by rw [HQ.out, if_pos (by simp)]
              rw [e]
              exact ⟨rfl, hb.trans hb'⟩
            · have bfe : ((r : Int) == 65279) = false := by simp; omega
              go_wp2_with (go_at_call 17; refine (decode_at t _ r k ht HS.out).mono ?_; rintro e w' ⟨rfl, hb'⟩)
              go_roundg g'
              case rel =>
                have e := HQ.out
                rw [if_neg (by omega)] at e
                refine ⟨hb.trans hb', t.extract k t.size, rfl, ?_, ?_, ?_⟩
                · rw [Lib.extract_to_end]; exact Lib.hid e.symm
                · rw [rest_size]; omega
                · rw [rest_size]; omega
              case measure => omega
        · have b128 : decide ((128 : Int) ≤ r) = false := by simp; omega
          have bfe : ((r : Int) == 65279) = false := by simp; omega
          go_wp2_with (go_at_call 17; refine (decode_at t _ r k ht HS.out).mono ?_; rintro e w' ⟨rfl, hb'⟩)
          go_roundg g'
          case rel =>
            have e := HQ.out
            rw [if_neg (by omega)] at e
            refine ⟨hb.trans hb', t.extract k t.size, rfl, ?_, ?_, ?_⟩
            · rw [Lib.extract_to_end]; exact Lib.hid e.symm
            · rw [rest_size]; omega
            · rw [rest_size]; omega
          case measure => omega
      | false =>
        have HG := Lib.hid hgd
        clear hgd
        go_wp2_with (go_at_call 17; refine (decode_at t _ 0 0 ht (char_none HG.out)).mono ?_; rintro e w' ⟨rfl, hb'⟩)
        go_roundg g'
        case rel =>
          have e := HE.out
          rw [hv.out, HG.out, if_pos rfl] at e
          refine ⟨hb.trans hb', t.extract 1 t.size, rfl, ?_, ?_, ?_⟩
          · rw [Lib.extract_to_end]; exact Lib.hid e.symm
          · rw [rest_size]; omega
          · rw [rest_size]; omega
        case measure => omega
    · go_wp2
      go_ret
      have e : ANS = false := by rw [← hv.out, empty_of_size h0]; rfl
      rw [e]
      exact ⟨rfl, hb⟩
end Go.Proofs.YtidjchoneopmbaaDoor
