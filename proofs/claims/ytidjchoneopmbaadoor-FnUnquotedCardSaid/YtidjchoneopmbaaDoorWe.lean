/-
  The walk over the library's CanBackquote.
-/
import Derived.Test.YtidjchoneopmbaaDoorWd
import Derived.Test.YtidjchoneopmbaaDoorShelf
namespace Go.Proofs.YtidjchoneopmbaaDoor
open Go.RowKit Go.Uq

/-- the two tables of the decoder -/
def Tabs (w : World) : Prop := Lib.Utf8Tabs 1 2 w
theorem Tabs.bw {w w' : World} (h : Tabs w) (hb : Bw w w') : Tabs w' := by
  have key : ∀ {a : Addr} {v : Value}, w.cell? a = some v → w'.cell? a = some v := fun hc => by
    rw [Below.cell hb (block_lt_of_cell hc)]; exact hc
  exact ⟨fun c hc => key (h.1 c hc), fun i hi => ⟨key (h.2 i hi).1, key (h.2 i hi).2⟩⟩
theorem decodeGo_eq {t : ByteArray} (h : 0 < t.size) : Lib.decodeGo t = Lib.decodeL t.data.toList := by
  unfold Lib.decodeGo Lib.decodeL
  rw [if_neg (by omega)]
/-- utf8.DecodeRuneInString, of a string that is not empty -/
theorem decodeRune_at (t : ByteArray) (w : World) (r k : Nat) (h0 : 0 < t.size) (hT : Tabs w) (hd : Lib.decodeL t.data.toList = (r, k)) :
    Calls Tryd.prog 31 #[.string t] w fun e w' => e = .returned (.tuple #[.int .i32 r, .int .i64 k]) ∧ Bw w w' := by
  have c := Tryd.utf8_DecodeRuneInString t w hT
  rw [decodeGo_eq h0, hd] at c
  exact c
/-- what stands at the beginning of a string that is not empty -/
theorem rune_at {t : ByteArray} (h : 0 < t.size) : ∃ r k : Nat, Lib.decodeL t.data.toList = (r, k) ∧ 1 ≤ k ∧ k ≤ t.size ∧ r ≤ 1114111 := by
  refine ⟨(Lib.decodeL t.data.toList).1, (Lib.decodeL t.data.toList).2, rfl, Lib.decodeL_width _, ?_, Lib.decodeL_rune _⟩
  have := Lib.decodeL_le _ (ne_of_size h)
  rw [Lib.size_eq]
  exact this

set_option maxHeartbeats 1000000 in
/-- strconv.CanBackquote -/
theorem canL_any (s : ByteArray) (w : World) (hs : s.size ≤ 9223372036854775807) (hT : Tabs w) :
    Calls Tryd.prog 24 #[.string s] w fun e w' => e = .returned (.bool (canL s.data.toList)) ∧ Bw w w' := by
  obtain ⟨ANS, hA⟩ : ∃ ANS, canL s.data.toList = ANS := ⟨_, rfl⟩
  rw [hA]
  have HA := Lib.hid hA
  clear hA
  go_enter Tryd.func24, Tryd.ntmps24
  go_wp2
  go_loopg [0] (s.size + 1) (fun gk v wr => Bw w wr ∧ ∃ t : ByteArray, v = .string t ∧ Hid (canL t.data.toList = ANS) ∧ t.size < gk ∧ t.size ≤ 9223372036854775807)
  case atStart => exact ⟨Bw.refl _, s, rfl, HA, by omega, hs⟩
  case round =>
    obtain ⟨hb, t, rfl, hv, hg, ht⟩ := hrel
    clear HA
    by_cases h0 : 0 < t.size
    · obtain ⟨g', rfl⟩ : ∃ g', gk = g' + 1 := ⟨gk - 1, by omega⟩
      have h0z : (0 : Int) < (t.size : Int) := by omega
      have hTr := hT.bw hb
      obtain ⟨r, k, hd, hk1, hk2, hr⟩ := rune_at h0
      have e := canL_step _ (ne_of_size h0)
      rw [hv.out, hd] at e
      simp only at e
      have HQ := Lib.hid e
      have HD := Lib.hid hd
      clear hd e
      have fin : ANS = canL (t.data.toList.drop k) → ∀ wx, Bw wr wx → (Bw w wx ∧ ∃ u : ByteArray, Value.string (t.extract k t.size) = .string u ∧ Hid (canL u.data.toList = ANS) ∧ u.size < g' ∧ u.size ≤ 9223372036854775807) := fun he wx hbx => by
        refine ⟨hb.trans hbx, t.extract k t.size, rfl, ?_, ?_, ?_⟩
        · rw [Lib.extract_to_end]; exact Lib.hid he.symm
        · rw [rest_size]; omega
        · rw [rest_size]; omega
      have FIN := Lib.hid fin
      clear fin hT
      by_cases h1 : 1 < k
      · have h1z : decide ((1 : Int) < k) = true := by simp; omega
        by_cases hfe : r = 65279
        · subst hfe
          go_wp2_with (go_at_call 31; refine (decodeRune_at t _ 65279 k h0 hTr HD.out).mono ?_; rintro e w' ⟨rfl, hb'⟩)
          go_ret
          have e : ANS = false := by rw [HQ.out, if_pos h1]; simp
          rw [e]
          exact ⟨rfl, hb.trans hb'⟩
        · have bfe : ((r : Int) == 65279) = false := by simp; omega
          go_wp2_with (go_at_call 31; refine (decodeRune_at t _ r k h0 hTr HD.out).mono ?_; rintro e w' ⟨rfl, hb'⟩)
          go_roundg g'
          case rel => exact FIN.out (by rw [HQ.out, if_pos h1, if_neg hfe]) _ hb'
          case measure => omega
      have h1z : decide ((1 : Int) < k) = false := by simp; omega
      by_cases hff : r = 65533
      · subst hff
        go_wp2_with (go_at_call 31; refine (decodeRune_at t _ 65533 k h0 hTr HD.out).mono ?_; rintro e w' ⟨rfl, hb'⟩)
        go_ret
        have e : ANS = false := by rw [HQ.out, if_neg h1]; simp
        rw [e]
        exact ⟨rfl, hb.trans hb'⟩
      have bff : ((r : Int) == 65533) = false := by simp; omega
      by_cases h32 : r < 32
      · have b32 : decide ((r : Int) < 32) = true := by simp; omega
        by_cases h9 : r = 9
        · subst h9
          go_wp2_with (go_at_call 31; refine (decodeRune_at t _ 9 k h0 hTr HD.out).mono ?_; rintro e w' ⟨rfl, hb'⟩)
          go_roundg g'
          case rel => exact FIN.out (by rw [HQ.out, if_neg h1]; simp) _ hb'
          case measure => omega
        · have b9 : ((r : Int) != 9) = true := by rw [bne_iff_ne]; omega
          go_wp2_with (go_at_call 31; refine (decodeRune_at t _ r k h0 hTr HD.out).mono ?_; rintro e w' ⟨rfl, hb'⟩)
          go_ret
          have e : ANS = false := by rw [HQ.out, if_neg h1, if_neg hff, if_pos (.inl ⟨h32, h9⟩)]
          rw [e]
          exact ⟨rfl, hb.trans hb'⟩
      have b32 : decide ((r : Int) < 32) = false := by simp; omega
      by_cases h96 : r = 96
      · subst h96
        go_wp2_with (go_at_call 31; refine (decodeRune_at t _ 96 k h0 hTr HD.out).mono ?_; rintro e w' ⟨rfl, hb'⟩)
        go_ret
        have e : ANS = false := by rw [HQ.out, if_neg h1]; simp
        rw [e]
        exact ⟨rfl, hb.trans hb'⟩
      have b96 : ((r : Int) == 96) = false := by simp; omega
      by_cases h127 : r = 127
      · subst h127
        go_wp2_with (go_at_call 31; refine (decodeRune_at t _ 127 k h0 hTr HD.out).mono ?_; rintro e w' ⟨rfl, hb'⟩)
        go_ret
        have e : ANS = false := by rw [HQ.out, if_neg h1]; simp
        rw [e]
        exact ⟨rfl, hb.trans hb'⟩
      have b127 : ((r : Int) == 127) = false := by simp; omega
      go_wp2_with (go_at_call 31; refine (decodeRune_at t _ r k h0 hTr HD.out).mono ?_; rintro e w' ⟨rfl, hb'⟩)
      go_roundg g'
      case rel => exact FIN.out (by rw [HQ.out, if_neg h1, if_neg hff, if_neg (by omega)]) _ hb'
      case measure => omega
    · go_wp2
      go_ret
      have e : ANS = true := by rw [← hv.out, empty_of_size h0]; rfl
      rw [e]
      exact ⟨rfl, hb⟩
set_option maxHeartbeats 400000 in
/-- impl.CanBackquote -/
theorem implCan_any (s : ByteArray) (w : World) (hs : s.size ≤ 9223372036854775807) (hT : Tabs w) :
    Calls Tryd.prog 11 #[.string s] w fun e w' => e = .returned (.bool (canL s.data.toList)) ∧ Bw w w' := by
  go_enter Tryd.func11, Tryd.ntmps11
  go_wp2_with (go_at_call 24; refine (canL_any s _ hs hT).mono ?_; rintro e w' ⟨rfl, hb'⟩)
  go_ret
  exact ⟨rfl, hb'⟩
end Go.Proofs.YtidjchoneopmbaaDoor
