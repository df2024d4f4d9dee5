/-
  The walks over the reference's simple, digit, number.
-/
import Derived.Test.YtbnginnbpppegaaDoorWk
namespace Go.Proofs.YtbnginnbpppegaaDoor
open Go.RowKit Go.Uq

set_option maxHeartbeats 400000 in
theorem simple_some (c r : Nat) (w : World) (h : simp1 c = some r) :
    Calls Tryd.prog 44 #[.int .u8 c] w fun e w' => e = .returned (.int .i64 r) ∧ w = w' := by
  have hcase : (c = 97 ∧ r = 7) ∨ (c = 98 ∧ r = 8) ∨ (c = 102 ∧ r = 12) ∨ (c = 110 ∧ r = 10) ∨ (c = 114 ∧ r = 13) ∨ (c = 116 ∧ r = 9) ∨ (c = 118 ∧ r = 11) ∨ (c = 92 ∧ r = 92) := by
    unfold simp1 at h
    repeat' split at h
    all_goals first | (cases h; omega) | cases h
  clear h
  rcases hcase with ⟨rfl, rfl⟩ | ⟨rfl, rfl⟩ | ⟨rfl, rfl⟩ | ⟨rfl, rfl⟩ | ⟨rfl, rfl⟩ | ⟨rfl, rfl⟩ | ⟨rfl, rfl⟩ | ⟨rfl, rfl⟩
  all_goals
    go_enter Tryd.func44, Tryd.ntmps44
    go_wp2
    go_ret
    exact ⟨rfl, rfl⟩
set_option maxHeartbeats 400000 in
theorem simple_none (c : Nat) (w : World) (h : simp1 c = none) :
    Calls Tryd.prog 44 #[.int .u8 c] w fun e w' => e = .returned (.int .i64 (-1)) ∧ w = w' := by
  have hne : c ≠ 97 ∧ c ≠ 98 ∧ c ≠ 102 ∧ c ≠ 110 ∧ c ≠ 114 ∧ c ≠ 116 ∧ c ≠ 118 ∧ c ≠ 92 := by
    unfold simp1 at h
    repeat' split at h
    all_goals first | omega | cases h
  clear h
  have n1 : ((c : Int) == 97) = false := beq_eq_false_iff_ne.2 (by omega)
  have n2 : ((c : Int) == 98) = false := beq_eq_false_iff_ne.2 (by omega)
  have n3 : ((c : Int) == 102) = false := beq_eq_false_iff_ne.2 (by omega)
  have n4 : ((c : Int) == 110) = false := beq_eq_false_iff_ne.2 (by omega)
  have n5 : ((c : Int) == 114) = false := beq_eq_false_iff_ne.2 (by omega)
  have n6 : ((c : Int) == 116) = false := beq_eq_false_iff_ne.2 (by omega)
  have n7 : ((c : Int) == 118) = false := beq_eq_false_iff_ne.2 (by omega)
  have n8 : ((c : Int) == 92) = false := beq_eq_false_iff_ne.2 (by omega)
  clear hne
  go_enter Tryd.func44, Tryd.ntmps44
  go_wp2
  go_ret
  exact ⟨rfl, rfl⟩
def digZ (c base : Nat) : Int := match digN c base with | none => -1 | some d => (d : Int)
set_option maxHeartbeats 1000000 in
theorem digit_any (c base : Nat) (w : World) (hc : c < 256) (_hbase : base = 8 ∨ base = 16) :
    Calls Tryd.prog 50 #[.int .u8 c, .int .i64 base] w fun e w' => e = .returned (.int .i64 (digZ c base)) ∧ w = w' := by
  by_cases h1 : 48 ≤ c ∧ c ≤ 57
  · obtain ⟨a, b⟩ := h1
    have b1 : decide ((48 : Int) ≤ c) = true := by simp; omega
    have b2 : decide ((c : Int) ≤ 57) = true := by simp; omega
    by_cases hlt : c - 48 < base
    · have e : digZ c base = (c : Int) - 48 := by unfold digZ digN; rw [if_pos ⟨a, b⟩, if_pos hlt]; simp only; omega
      rw [e]
      clear e
      have b3 : decide ((c : Int) - 48 < base) = true := by simp; omega
      go_enter Tryd.func50, Tryd.ntmps50
      go_wp2
      go_ret
      exact ⟨rfl, rfl⟩
    · have e : digZ c base = -1 := by unfold digZ digN; rw [if_pos ⟨a, b⟩, if_neg hlt]
      rw [e]
      clear e
      have b3 : decide ((c : Int) - 48 < base) = false := by simp; omega
      go_enter Tryd.func50, Tryd.ntmps50
      go_wp2
      go_ret
      exact ⟨rfl, rfl⟩
  by_cases h2 : 97 ≤ c ∧ c ≤ 102
  · obtain ⟨a, b⟩ := h2
    have b1 : decide ((48 : Int) ≤ c) = true := by simp; omega
    have b2 : decide ((c : Int) ≤ 57) = false := by simp; omega
    have b4 : decide ((97 : Int) ≤ c) = true := by simp; omega
    have b5 : decide ((c : Int) ≤ 102) = true := by simp; omega
    by_cases hlt : c - 87 < base
    · have e : digZ c base = (c : Int) - 97 + 10 := by unfold digZ digN; rw [if_neg h1, if_pos ⟨a, b⟩, if_pos hlt]; simp only; omega
      rw [e]
      clear e h1
      have b3 : decide ((c : Int) - 97 + 10 < base) = true := by simp; omega
      go_enter Tryd.func50, Tryd.ntmps50
      go_wp2
      go_ret
      exact ⟨rfl, rfl⟩
    · have e : digZ c base = -1 := by unfold digZ digN; rw [if_neg h1, if_pos ⟨a, b⟩, if_neg hlt]
      rw [e]
      clear e h1
      have b3 : decide ((c : Int) - 97 + 10 < base) = false := by simp; omega
      go_enter Tryd.func50, Tryd.ntmps50
      go_wp2
      go_ret
      exact ⟨rfl, rfl⟩
  by_cases h3 : 65 ≤ c ∧ c ≤ 70
  · obtain ⟨a, b⟩ := h3
    have b1 : decide ((48 : Int) ≤ c) = true := by simp; omega
    have b2 : decide ((c : Int) ≤ 57) = false := by simp; omega
    have b4 : decide ((97 : Int) ≤ c) = false := by simp; omega
    have b6 : decide ((65 : Int) ≤ c) = true := by simp; omega
    have b7 : decide ((c : Int) ≤ 70) = true := by simp; omega
    by_cases hlt : c - 55 < base
    · have e : digZ c base = (c : Int) - 65 + 10 := by unfold digZ digN; rw [if_neg h1, if_neg h2, if_pos ⟨a, b⟩, if_pos hlt]; simp only; omega
      rw [e]
      clear e h1 h2
      have b3 : decide ((c : Int) - 65 + 10 < base) = true := by simp; omega
      go_enter Tryd.func50, Tryd.ntmps50
      go_wp2
      go_ret
      exact ⟨rfl, rfl⟩
    · have e : digZ c base = -1 := by unfold digZ digN; rw [if_neg h1, if_neg h2, if_pos ⟨a, b⟩, if_neg hlt]
      rw [e]
      clear e h1 h2
      have b3 : decide ((c : Int) - 65 + 10 < base) = false := by simp; omega
      go_enter Tryd.func50, Tryd.ntmps50
      go_wp2
      go_ret
      exact ⟨rfl, rfl⟩
  · have e : digZ c base = -1 := by unfold digZ digN; rw [if_neg h1, if_neg h2, if_neg h3]
    rw [e]
    clear e
    have b3 : decide ((-1 : Int) < base) = true := by simp; omega
    by_cases a1 : 48 ≤ c
    · have b1 : decide ((48 : Int) ≤ c) = true := by simp; omega
      have b2 : decide ((c : Int) ≤ 57) = false := by simp; omega
      by_cases a4 : 97 ≤ c
      · have b4 : decide ((97 : Int) ≤ c) = true := by simp; omega
        have b5 : decide ((c : Int) ≤ 102) = false := by simp; omega
        have b6 : decide ((65 : Int) ≤ c) = true := by simp; omega
        have b7 : decide ((c : Int) ≤ 70) = false := by simp; omega
        clear h1 h2 h3
        go_enter Tryd.func50, Tryd.ntmps50
        go_wp2
        go_ret
        exact ⟨rfl, rfl⟩
      · have b4 : decide ((97 : Int) ≤ c) = false := by simp; omega
        by_cases a6 : 65 ≤ c
        · have b6 : decide ((65 : Int) ≤ c) = true := by simp; omega
          have b7 : decide ((c : Int) ≤ 70) = false := by simp; omega
          clear h1 h2 h3
          go_enter Tryd.func50, Tryd.ntmps50
          go_wp2
          go_ret
          exact ⟨rfl, rfl⟩
        · have b6 : decide ((65 : Int) ≤ c) = false := by simp; omega
          clear h1 h2 h3
          go_enter Tryd.func50, Tryd.ntmps50
          go_wp2
          go_ret
          exact ⟨rfl, rfl⟩
    · have b1 : decide ((48 : Int) ≤ c) = false := by simp; omega
      have b4 : decide ((97 : Int) ≤ c) = false := by simp; omega
      have b6 : decide ((65 : Int) ≤ c) = false := by simp; omega
      clear h1 h2 h3
      go_enter Tryd.func50, Tryd.ntmps50
      go_wp2
      go_ret
      exact ⟨rfl, rfl⟩
theorem digit_is (c base : Nat) (z : Int) (w : World) (hc : c < 256) (hbase : base = 8 ∨ base = 16) (h : digZ c base = z) :
    Calls Tryd.prog 50 #[.int .u8 c, .int .i64 base] w fun e w' => e = .returned (.int .i64 z) ∧ w = w' := by
  have := digit_any c base w hc hbase
  rw [h] at this
  exact this
def PostNum (base n : Nat) (l : List UInt8) (w : World) (e : Ending) (w' : World) : Prop :=
  (match num base n l 0 with
  | none => e = .returned (.tuple #[.int .i64 0, .bool false])
  | some x => e = .returned (.tuple #[.int .i64 x, .bool true])) ∧ w = w'
theorem pow_le {n : Nat} (h : n ≤ 8) : (16 : Nat) ^ n ≤ 4294967296 := by
  have := Nat.pow_le_pow_right (show 0 < 16 by omega) h
  simpa using this
theorem pow_le8 {n : Nat} (h : n ≤ 8) : (8 : Nat) ^ n ≤ 4294967296 := by
  have := Nat.pow_le_pow_right (show 0 < 8 by omega) h
  have e : (8 : Nat) ^ 8 = 16777216 := by decide
  omega
set_option maxHeartbeats 800000 in
/-- spec.number to the base 16 -/
theorem number16 (s : ByteArray) (n : Nat) (w : World) (hs : s.size ≤ 9223372036854775807) (hn : n ≤ 8) :
    Calls Tryd.prog 45 #[.string s, .int .i64 n, .int .i64 16] w (PostNum 16 n s.data.toList w) := by
  by_cases hl : s.size < n
  · have hlz : decide ((s.size : Int) < n) = true := by simp; omega
    have H := Lib.hid (num_short (base := 16) (n := n) (l := s.data.toList) (a := 0) (by rw [← Lib.size_eq]; exact hl))
    go_enter Tryd.func45, Tryd.ntmps45
    go_wp2
    go_ret2
    refine ⟨?_, rfl⟩
    rw [H.out]
    rfl
  · have hlz : decide ((s.size : Int) < n) = false := by simp; omega
    go_enter Tryd.func45, Tryd.ntmps45
    go_wp2
    go_loop [8, 9] (fun a b => ∃ (j N : Nat), j ≤ n ∧ b = .int .i64 j ∧ a = .int .i64 N ∧ N < 4294967296 ∧ Hid (num 16 j s.data.toList 0 = some N)) (fun _ b => n - (intOf b).toNat)
    case atStart => exact ⟨0, 0, by omega, rfl, rfl, by omega, Lib.hid rfl⟩
    case round =>
      obtain ⟨j, N, hj, rfl, rfl, hN4, hN⟩ := hrel
      by_cases hlt : j < n
      · have hju : j < s.size := by omega
        have hltz : decide ((j : Int) < n) = true := by simp; omega
        have hb := s[j].toNat_lt
        have HS := Lib.hid (num_snoc hN.out (by rw [← Lib.size_eq]; exact hju))
        have HI := Lib.hid (list_at s j hju)
        cases hdg : digN s[j].toNat 16 with
        | none =>
          have HG := Lib.hid hdg
          have HZ : Hid (digZ s[j].toNat 16 = -1) := Lib.hid (by unfold digZ; rw [hdg])
          clear hdg
          go_wp2_with (go_at_call 50; refine (digit_is _ 16 (-1) _ hb (by omega) HZ.out).mono ?_; rintro e w1 ⟨rfl, rfl⟩)
          go_ret2
          have e := HS.out
          rw [HI.out, HG.out] at e
          have e2 := num_stop e (show j + 1 ≤ n by omega)
          refine ⟨?_, rfl⟩
          rw [e2]
          rfl
        | some d =>
          have HG := Lib.hid hdg
          have HZ : Hid (digZ s[j].toNat 16 = d) := Lib.hid (by unfold digZ; rw [hdg])
          have hd := digN_lt hdg
          clear hdg
          have hd0 : decide ((d : Int) < 0) = false := by simp
          go_wp2_with (go_at_call 50; refine (digit_is _ 16 d _ hb (by omega) HZ.out).mono ?_; rintro e w1 ⟨rfl, rfl⟩)
          go_round
          case rel =>
            have e := HS.out
            rw [HI.out, HG.out] at e
            have hlt2 := num_lt e
            have hp := pow_le (n := j + 1) (by omega)
            exact ⟨j + 1, N * 16 + d, by omega, by go_num, by go_num, by simp only [Nat.zero_add, Nat.one_mul] at hlt2; omega, Lib.hid e⟩
          case measure => simp [intOf]; omega
      · obtain rfl : j = n := by omega
        have hltz : decide ((j : Int) < j) = false := by simp
        go_wp2
        go_ret2
        refine ⟨?_, rfl⟩
        rw [hN.out]
        rfl
theorem number16_none (s : ByteArray) (n : Nat) (w : World) (hs : s.size ≤ 9223372036854775807) (hn : n ≤ 8) (h : num 16 n s.data.toList 0 = none) :
    Calls Tryd.prog 45 #[.string s, .int .i64 n, .int .i64 16] w fun e w' => e = .returned (.tuple #[.int .i64 0, .bool false]) ∧ w = w' :=
  (number16 s n w hs hn).mono fun e w' he => by unfold PostNum at he; rw [h] at he; exact he
theorem number16_some (s : ByteArray) (n x : Nat) (w : World) (hs : s.size ≤ 9223372036854775807) (hn : n ≤ 8) (h : num 16 n s.data.toList 0 = some x) :
    Calls Tryd.prog 45 #[.string s, .int .i64 n, .int .i64 16] w fun e w' => e = .returned (.tuple #[.int .i64 x, .bool true]) ∧ w = w' :=
  (number16 s n w hs hn).mono fun e w' he => by unfold PostNum at he; rw [h] at he; exact he
set_option maxHeartbeats 800000 in
/-- spec.number to the base 8 -/
theorem number8 (s : ByteArray) (n : Nat) (w : World) (hs : s.size ≤ 9223372036854775807) (hn : n ≤ 8) :
    Calls Tryd.prog 45 #[.string s, .int .i64 n, .int .i64 8] w (PostNum 8 n s.data.toList w) := by
  by_cases hl : s.size < n
  · have hlz : decide ((s.size : Int) < n) = true := by simp; omega
    have H := Lib.hid (num_short (base := 8) (n := n) (l := s.data.toList) (a := 0) (by rw [← Lib.size_eq]; exact hl))
    go_enter Tryd.func45, Tryd.ntmps45
    go_wp2
    go_ret2
    refine ⟨?_, rfl⟩
    rw [H.out]
    rfl
  · have hlz : decide ((s.size : Int) < n) = false := by simp; omega
    go_enter Tryd.func45, Tryd.ntmps45
    go_wp2
    go_loop [8, 9] (fun a b => ∃ (j N : Nat), j ≤ n ∧ b = .int .i64 j ∧ a = .int .i64 N ∧ N < 4294967296 ∧ Hid (num 8 j s.data.toList 0 = some N)) (fun _ b => n - (intOf b).toNat)
    case atStart => exact ⟨0, 0, by omega, rfl, rfl, by omega, Lib.hid rfl⟩
    case round =>
      obtain ⟨j, N, hj, rfl, rfl, hN4, hN⟩ := hrel
      by_cases hlt : j < n
      · have hju : j < s.size := by omega
        have hltz : decide ((j : Int) < n) = true := by simp; omega
        have hb := s[j].toNat_lt
        have HS := Lib.hid (num_snoc hN.out (by rw [← Lib.size_eq]; exact hju))
        have HI := Lib.hid (list_at s j hju)
        cases hdg : digN s[j].toNat 8 with
        | none =>
          have HG := Lib.hid hdg
          have HZ : Hid (digZ s[j].toNat 8 = -1) := Lib.hid (by unfold digZ; rw [hdg])
          clear hdg
          go_wp2_with (go_at_call 50; refine (digit_is _ 8 (-1) _ hb (by omega) HZ.out).mono ?_; rintro e w1 ⟨rfl, rfl⟩)
          go_ret2
          have e := HS.out
          rw [HI.out, HG.out] at e
          have e2 := num_stop e (show j + 1 ≤ n by omega)
          refine ⟨?_, rfl⟩
          rw [e2]
          rfl
        | some d =>
          have HG := Lib.hid hdg
          have HZ : Hid (digZ s[j].toNat 8 = d) := Lib.hid (by unfold digZ; rw [hdg])
          have hd := digN_lt hdg
          clear hdg
          have hd0 : decide ((d : Int) < 0) = false := by simp
          go_wp2_with (go_at_call 50; refine (digit_is _ 8 d _ hb (by omega) HZ.out).mono ?_; rintro e w1 ⟨rfl, rfl⟩)
          go_round
          case rel =>
            have e := HS.out
            rw [HI.out, HG.out] at e
            have hlt2 := num_lt e
            have hp := pow_le8 (n := j + 1) (by omega)
            exact ⟨j + 1, N * 8 + d, by omega, by go_num, by go_num, by simp only [Nat.zero_add, Nat.one_mul] at hlt2; omega, Lib.hid e⟩
          case measure => simp [intOf]; omega
      · obtain rfl : j = n := by omega
        have hltz : decide ((j : Int) < j) = false := by simp
        go_wp2
        go_ret2
        refine ⟨?_, rfl⟩
        rw [hN.out]
        rfl
theorem number8_none (s : ByteArray) (n : Nat) (w : World) (hs : s.size ≤ 9223372036854775807) (hn : n ≤ 8) (h : num 8 n s.data.toList 0 = none) :
    Calls Tryd.prog 45 #[.string s, .int .i64 n, .int .i64 8] w fun e w' => e = .returned (.tuple #[.int .i64 0, .bool false]) ∧ w = w' :=
  (number8 s n w hs hn).mono fun e w' he => by unfold PostNum at he; rw [h] at he; exact he
theorem number8_some (s : ByteArray) (n x : Nat) (w : World) (hs : s.size ≤ 9223372036854775807) (hn : n ≤ 8) (h : num 8 n s.data.toList 0 = some x) :
    Calls Tryd.prog 45 #[.string s, .int .i64 n, .int .i64 8] w fun e w' => e = .returned (.tuple #[.int .i64 x, .bool true]) ∧ w = w' :=
  (number8 s n w hs hn).mono fun e w' he => by unfold PostNum at he; rw [h] at he; exact he
end Go.Proofs.YtbnginnbpppegaaDoor
