/-
  The walks over the reference's IsText, isControl, CanBackquote, BackquoteCorner.
-/
import Derived.Test.YtbnginnbpppegaaDoorWc
import Derived.Deep.LoopGhost
namespace Go.Proofs.YtbnginnbpppegaaDoor
open Go.RowKit Go.Uq

theorem decode_at (s : ByteArray) (w : World) (r k : Nat) (hs : s.size ≤ 9223372036854775807) (h : specDec s.data.toList = (r, k)) :
    Calls Tryd.prog 29 #[.string s] w fun e w' => e = .returned (.tuple #[.int .i64 r, .int .i64 k]) ∧ Bw w w' := by
  have := decode_any s w hs
  rw [h] at this
  exact this
theorem ne_of_size {t : ByteArray} (h : 0 < t.size) : t.data.toList ≠ [] := fun e => by
  rw [Lib.size_eq, e] at h
  simp at h
/-- a character at the beginning of a text, by name -/
theorem char_at {t : ByteArray} (h : 0 < t.size) (hg : good t.data.toList = true) :
    ∃ r k : Nat, Lib.decodeL t.data.toList = (r, k) ∧ specDec t.data.toList = (r, k) ∧ 1 ≤ k ∧ k ≤ t.size ∧ r ≤ 1114111 := by
  refine ⟨(Lib.decodeL t.data.toList).1, (Lib.decodeL t.data.toList).2, rfl, ?_, Lib.decodeL_width _, ?_, Lib.decodeL_rune _⟩
  · unfold specDec
    rw [if_neg (ne_of_size h), if_pos hg]
  · have := Lib.decodeL_le _ (ne_of_size h)
    rw [Lib.size_eq]
    exact this
theorem char_none {t : ByteArray} (hg : good t.data.toList = false) : specDec t.data.toList = (0, 0) := by
  unfold specDec
  rw [hg]
  simp
theorem empty_of_size {t : ByteArray} (h : ¬ 0 < t.size) : t.data.toList = [] := by
  apply List.eq_nil_of_length_eq_zero
  rw [← Lib.size_eq]
  omega

set_option maxHeartbeats 400000 in
/-- spec.IsText -/
theorem isText_any (s : ByteArray) (w : World) (hs : s.size ≤ 9223372036854775807) :
    Calls Tryd.prog 17 #[.string s] w fun e w' => e = .returned (.bool (Lib.validD s.data.toList)) ∧ Bw w w' := by
  obtain ⟨ANS, hA⟩ : ∃ ANS, Lib.validD s.data.toList = ANS := ⟨_, rfl⟩
  rw [hA]
  have HA := Lib.hid hA
  clear hA
  go_enter Tryd.func17, Tryd.ntmps17
  go_wp2
  go_loopg [0] (s.size + 1) (fun gk v wr => Bw w wr ∧ ∃ t : ByteArray, v = .string t ∧ Hid (Lib.validD t.data.toList = ANS) ∧ t.size < gk ∧ t.size ≤ 9223372036854775807)
  case atStart => exact ⟨Bw.refl _, s, rfl, HA, by omega, hs⟩
  case round =>
    obtain ⟨hb, t, rfl, hv, hg, ht⟩ := hrel
    clear HA
    by_cases h0 : 0 < t.size
    · obtain ⟨g', rfl⟩ : ∃ g', gk = g' + 1 := ⟨gk - 1, by omega⟩
      have h0z : (0 : Int) < (t.size : Int) := by omega
      cases hgd : good t.data.toList with
      | true =>
        have HG := Lib.hid hgd
        clear hgd
        obtain ⟨r, k, hd, hsd, hk1, hk2, hr⟩ := char_at h0 HG.out
        have HD := Lib.hid hd
        have HS := Lib.hid hsd
        clear hd hsd
        have hk0 : ((k : Int) == 0) = false := by simp; omega
        go_wp2_with (go_at_call 29; refine (decode_at t _ r k ht HS.out).mono ?_; rintro e w' ⟨rfl, hb'⟩)
        go_roundg g'
        case rel =>
          refine ⟨hb.trans hb', t.extract k t.size, rfl, ?_, ?_, ?_⟩
          · have e := valid_of_good (ne_of_size h0) HG.out
            rw [HD.out] at e
            rw [Lib.extract_to_end]
            exact Lib.hid (e.symm.trans hv.out)
          · rw [rest_size]; omega
          · rw [rest_size]; omega
        case measure => omega
      | false =>
        have HG := Lib.hid hgd
        clear hgd
        go_wp2_with (go_at_call 29; refine (decode_at t _ 0 0 ht (char_none HG.out)).mono ?_; rintro e w' ⟨rfl, hb'⟩)
        go_ret
        have e : ANS = false := by
          rw [← hv.out, Lib.validD_step _ (ne_of_size h0), if_pos ((good_neg _).1 HG.out)]
        rw [e]
        exact ⟨rfl, hb.trans hb'⟩
    · go_wp2
      go_ret
      have e : ANS = true := by rw [← hv.out, empty_of_size h0]; rfl
      rw [e]
      exact ⟨rfl, hb⟩

end Go.Proofs.YtbnginnbpppegaaDoor
