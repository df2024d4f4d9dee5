/-
  The walks over the reference's escape and First.
-/
import Derived.Test.YtbnginnbpppegaaDoorWm
namespace Go.Proofs.YtbnginnbpppegaaDoor
open Go.RowKit Go.Uq

/-- an element as the walk has it -/
def elV (e : El) : Value := .agg #[.int .i64 e.v, .bool e.b, .int .i64 e.n, .bool e.w]
def escGood (e : El) : Ending := .returned (.tuple #[.agg #[.int .i64 e.v, .bool e.b, .int .i64 e.n, .bool e.w], .bool true])
def EscBad (e : Ending) : Prop := ∃ (x : Int) (y : Bool) (z : Int) (u : Bool), e = .returned (.tuple #[.agg #[.int .i64 x, .bool y, .int .i64 z, .bool u], .bool false])
def PostEsc (l : List UInt8) (q : Nat) (w : World) (e : Ending) (w' : World) : Prop :=
  (match esc l q with
  | none => EscBad e
  | some x => e = escGood x) ∧ Bw w w'
theorem postEsc_none {l : List UInt8} {q : Nat} {w : World} {e : Ending} {w' : World} (h : esc l q = none) (he : EscBad e ∧ Bw w w') : PostEsc l q w e w' := by
  unfold PostEsc; rw [h]; exact he
theorem postEsc_some {l : List UInt8} {q : Nat} {x : El} {w : World} {e : Ending} {w' : World} (h : esc l q = some x) (he : e = escGood x ∧ Bw w w') : PostEsc l q w e w' := by
  unfold PostEsc; rw [h]; exact he
theorem ne_empty {s : ByteArray} (h : 0 < s.size) : s.toList.isEmpty = false := by
  rw [Lib.toList_data]
  cases hs : s.data.toList with
  | nil => exact absurd hs (ne_of_size h)
  | cons _ _ => rfl
theorem is_empty {s : ByteArray} (h : ¬ 0 < s.size) : s.toList.isEmpty = true := by
  rw [Lib.toList_data, empty_of_size h]; rfl
set_option maxHeartbeats 400000 in
theorem esc_empty (s : ByteArray) (q : Nat) (w : World) (h : ¬ 0 < s.size) :
    Calls Tryd.prog 36 #[.string s, .int .u8 q] w fun e w' => EscBad e ∧ Bw w w' := by
  have he := is_empty h
  go_enter Tryd.func36, Tryd.ntmps36
  go_wp2
  exact bodyPost_ret (v := .tuple #[.agg #[.int .i64 0, .bool false, .int .i64 0, .bool false], .bool false]) (by simp [results, Tryd.results36, go_sem]) rfl ⟨⟨0, false, 0, false, rfl⟩, (Bw.refl _).alloc _⟩
set_option maxHeartbeats 400000 in
theorem esc_simple (s : ByteArray) (q r : Nat) (w : World) (h : 0 < s.size) (hs : simp1 s[0].toNat = some r) :
    Calls Tryd.prog 36 #[.string s, .int .u8 q] w fun e w' => e = escGood ⟨r, false, 2, false⟩ ∧ Bw w w' := by
  have he := ne_empty h
  have HS := Lib.hid hs
  clear hs
  have hr : decide ((0 : Int) ≤ (r : Int)) = true := by simp
  go_enter Tryd.func36, Tryd.ntmps36
  go_wp2_with (go_at_call 44; refine (simple_some _ r _ HS.out).mono ?_; rintro e w1 ⟨rfl, rfl⟩)
  exact bodyPost_ret (v := .tuple #[.agg #[.int .i64 r, .bool false, .int .i64 2, .bool false], .bool true]) (by simp [results, Tryd.results36, go_sem]) rfl ⟨rfl, (Bw.refl _).alloc _⟩
set_option maxHeartbeats 400000 in
theorem esc_quote (s : ByteArray) (q : Nat) (w : World) (h : 0 < s.size) (hs : simp1 s[0].toNat = none) (hq0 : q ≠ 0) (hc : s[0].toNat = q) (hq : q < 256) :
    Calls Tryd.prog 36 #[.string s, .int .u8 q] w fun e w' => e = escGood ⟨q, false, 2, false⟩ ∧ Bw w w' := by
  have he := ne_empty h
  rw [hc] at hs
  have HS := Lib.hid hs
  clear hs
  have hz : ((q : Int) != 0) = true := by rw [bne_iff_ne]; omega
  have hm : decide ((0 : Int) ≤ -1) = false := by decide
  go_enter Tryd.func36, Tryd.ntmps36
  go_wp2_with (go_at_call 44; refine (simple_none _ _ HS.out).mono ?_; rintro e w1 ⟨rfl, rfl⟩)
  exact bodyPost_ret (v := .tuple #[.agg #[.int .i64 q, .bool false, .int .i64 2, .bool false], .bool true]) (by simp [results, Tryd.results36, go_sem]) rfl ⟨rfl, (Bw.refl _).alloc _⟩
/-- what the walk needs where the escape is neither a letter's nor the quote's -/
theorem not_quote {q c : Nat} (h : ¬ (q ≠ 0 ∧ c = q)) : (((q : Int) != 0) = false ∧ q = 0) ∨ (((q : Int) != 0) = true ∧ ((c : Int) == (q : Int)) = false) := by
  by_cases h0 : q = 0
  · exact .inl ⟨by simp [h0], h0⟩
  · exact .inr ⟨by rw [bne_iff_ne]; omega, beq_eq_false_iff_ne.2 (by omega)⟩
set_option maxHeartbeats 1000000 in
theorem esc_x (s : ByteArray) (q : Nat) (w : World) (hz : s.size ≤ 9223372036854775807) (h : 0 < s.size) (hc : s[0].toNat = 120) (hq : ¬ (q ≠ 0 ∧ 120 = q)) :
    Calls Tryd.prog 36 #[.string s, .int .u8 q] w (PostEsc s.data.toList q w) := by
  have hE : esc s.data.toList q = (match num 16 2 (s.data.toList.drop 1) 0 with | none => none | some x => some ⟨x, true, 4, false⟩) := by
    rw [head_list s h]
    unfold esc
    simp only [hc, show simp1 120 = none by decide, if_neg hq, if_true, List.drop_one, List.tail_cons]
    cases num 16 2 s.data.toList.tail 0 <;> rfl
  have he := ne_empty h
  have hs1 : simp1 120 = none := by decide
  have hm : decide ((0 : Int) ≤ -1) = false := by decide
  have h1z : (1 : Int) ≤ s.size := by omega
  have h0z : (0 : Int) < s.size := by omega
  have HS := Lib.hid hs1
  clear hs1
  have hrs := rest_size s 1
  rw [← Lib.extract_to_end] at hE
  have htz : (s.extract 1 s.size).size ≤ 9223372036854775807 := by omega
  clear hrs
  generalize hT : s.extract 1 s.size = T at hE htz
  cases hn : num 16 2 T.data.toList 0 with
  | none =>
    rw [hn] at hE
    have HN := Lib.hid hn
    have HE := Lib.hid hE
    clear hn hE
    rcases not_quote hq with ⟨q1, rfl⟩ | ⟨q1, q2⟩
    all_goals
      clear hq
      go_enter Tryd.func36, Tryd.ntmps36
      go_wp2_with (first
        | (go_at_call 44; refine (simple_none _ _ HS.out).mono ?_; rintro e w1 ⟨rfl, rfl⟩)
        | (go_at_call 45; refine (number16_none T 2 _ htz (by omega) HN.out).mono ?_; rintro e w1 ⟨rfl, rfl⟩))
      refine bodyPost_ret (v := .tuple #[.agg #[.int .i64 0, .bool true, .int .i64 4, .bool false], .bool false]) (by simp [results, Tryd.results36, go_sem]) rfl ?_
      exact postEsc_none HE.out ⟨⟨_, _, _, _, rfl⟩, (Bw.refl _).alloc _⟩
  | some N =>
    rw [hn] at hE
    have HN := Lib.hid hn
    have HE := Lib.hid hE
    clear hn hE
    rcases not_quote hq with ⟨q1, rfl⟩ | ⟨q1, q2⟩
    all_goals
      clear hq
      go_enter Tryd.func36, Tryd.ntmps36
      go_wp2_with (first
        | (go_at_call 44; refine (simple_none _ _ HS.out).mono ?_; rintro e w1 ⟨rfl, rfl⟩)
        | (go_at_call 45; refine (number16_some T 2 N _ htz (by omega) HN.out).mono ?_; rintro e w1 ⟨rfl, rfl⟩))
      refine bodyPost_ret (v := .tuple #[.agg #[.int .i64 N, .bool true, .int .i64 4, .bool false], .bool true]) (by simp [results, Tryd.results36, go_sem]) rfl ?_
      exact postEsc_some HE.out ⟨rfl, (Bw.refl _).alloc _⟩
set_option maxHeartbeats 1000000 in
theorem esc_u (s : ByteArray) (q : Nat) (w : World) (hz : s.size ≤ 9223372036854775807) (h : 0 < s.size) (hc : s[0].toNat = 117) (hq : ¬ (q ≠ 0 ∧ 117 = q)) :
    Calls Tryd.prog 36 #[.string s, .int .u8 q] w (PostEsc s.data.toList q w) := by
  have hE : esc s.data.toList q = (match num 16 4 (s.data.toList.drop 1) 0 with | none => none | some x => if cp x then some ⟨x, false, 6, true⟩ else none) := by
    rw [head_list s h]
    unfold esc
    simp only [hc, show simp1 117 = none by decide, if_neg hq, Nat.reduceEqDiff, if_true, if_false, List.drop_one, List.tail_cons]
    cases num 16 4 s.data.toList.tail 0 <;> rfl
  have he := ne_empty h
  have hs1 : simp1 117 = none := by decide
  have hm : decide ((0 : Int) ≤ -1) = false := by decide
  have h1z : (1 : Int) ≤ s.size := by omega
  have h0z : (0 : Int) < s.size := by omega
  have HS := Lib.hid hs1
  clear hs1
  have hrs := rest_size s 1
  rw [← Lib.extract_to_end] at hE
  have htz : (s.extract 1 s.size).size ≤ 9223372036854775807 := by omega
  clear hrs
  generalize hT : s.extract 1 s.size = T at hE htz
  cases hn : num 16 4 T.data.toList 0 with
  | none =>
    rw [hn] at hE
    have HN := Lib.hid hn
    have HE := Lib.hid hE
    clear hn hE
    rcases not_quote hq with ⟨q1, rfl⟩ | ⟨q1, q2⟩
    all_goals
      clear hq
      go_enter Tryd.func36, Tryd.ntmps36
      go_wp2_with (first
        | (go_at_call 44; refine (simple_none _ _ HS.out).mono ?_; rintro e w1 ⟨rfl, rfl⟩)
        | (go_at_call 45; refine (number16_none T 4 _ htz (by omega) HN.out).mono ?_; rintro e w1 ⟨rfl, rfl⟩))
      refine bodyPost_ret (v := .tuple #[.agg #[.int .i64 0, .bool false, .int .i64 6, .bool true], .bool false]) (by simp [results, Tryd.results36, go_sem]) rfl ?_
      exact postEsc_none HE.out ⟨⟨_, _, _, _, rfl⟩, (Bw.refl _).alloc _⟩
  | some N =>
    rw [hn] at hE
    simp only at hE
    have HN := Lib.hid hn
    clear hn
    cases hcp : cp N with
    | true =>
      rw [hcp] at hE
      simp only [if_true] at hE
      have HE := Lib.hid hE
      have HC : Hid (0 ≤ (N : Int) ∧ (N : Int) ≤ 1114111 ∧ ((N : Int) < 55296 ∨ 57343 < (N : Int))) := Lib.hid (by simp only [cp, decide_eq_true_eq] at hcp; omega)
      clear hE hcp
      rcases not_quote hq with ⟨q1, rfl⟩ | ⟨q1, q2⟩
      all_goals
        clear hq
        go_enter Tryd.func36, Tryd.ntmps36
        go_wp2_with (first
          | (go_at_call 44; refine (simple_none _ _ HS.out).mono ?_; rintro e w1 ⟨rfl, rfl⟩)
          | (go_at_call 45; refine (number16_some T 4 N _ htz (by omega) HN.out).mono ?_; rintro e w1 ⟨rfl, rfl⟩)
          | (go_at_call 33; refine (isCodePoint_yes _ _ HC.out).mono ?_; rintro e w1 ⟨rfl, rfl⟩))
        refine bodyPost_ret (v := .tuple #[.agg #[.int .i64 N, .bool false, .int .i64 6, .bool true], .bool true]) (by simp [results, Tryd.results36, go_sem]) rfl ?_
        exact postEsc_some HE.out ⟨rfl, (Bw.refl _).alloc _⟩
    | false =>
      rw [hcp] at hE
      simp only [Bool.false_eq_true, if_false] at hE
      have HE := Lib.hid hE
      have HC : Hid (¬ (0 ≤ (N : Int) ∧ (N : Int) ≤ 1114111 ∧ ((N : Int) < 55296 ∨ 57343 < (N : Int)))) := Lib.hid (by simp only [cp, decide_eq_false_iff_not] at hcp; omega)
      clear hE hcp
      rcases not_quote hq with ⟨q1, rfl⟩ | ⟨q1, q2⟩
      all_goals
        clear hq
        go_enter Tryd.func36, Tryd.ntmps36
        go_wp2_with (first
          | (go_at_call 44; refine (simple_none _ _ HS.out).mono ?_; rintro e w1 ⟨rfl, rfl⟩)
          | (go_at_call 45; refine (number16_some T 4 N _ htz (by omega) HN.out).mono ?_; rintro e w1 ⟨rfl, rfl⟩)
          | (go_at_call 33; refine (isCodePoint_no _ _ HC.out).mono ?_; rintro e w1 ⟨rfl, rfl⟩))
        refine bodyPost_ret (v := .tuple #[.agg #[.int .i64 N, .bool false, .int .i64 6, .bool true], .bool false]) (by simp [results, Tryd.results36, go_sem]) rfl ?_
        exact postEsc_none HE.out ⟨⟨_, _, _, _, rfl⟩, (Bw.refl _).alloc _⟩
set_option maxHeartbeats 1000000 in
theorem esc_U (s : ByteArray) (q : Nat) (w : World) (hz : s.size ≤ 9223372036854775807) (h : 0 < s.size) (hc : s[0].toNat = 85) (hq : ¬ (q ≠ 0 ∧ 85 = q)) :
    Calls Tryd.prog 36 #[.string s, .int .u8 q] w (PostEsc s.data.toList q w) := by
  have hE : esc s.data.toList q = (match num 16 8 (s.data.toList.drop 1) 0 with | none => none | some x => if cp x then some ⟨x, false, 10, true⟩ else none) := by
    rw [head_list s h]
    unfold esc
    simp only [hc, show simp1 85 = none by decide, if_neg hq, Nat.reduceEqDiff, if_true, if_false, List.drop_one, List.tail_cons]
    cases num 16 8 s.data.toList.tail 0 <;> rfl
  have he := ne_empty h
  have hs1 : simp1 85 = none := by decide
  have hm : decide ((0 : Int) ≤ -1) = false := by decide
  have h1z : (1 : Int) ≤ s.size := by omega
  have h0z : (0 : Int) < s.size := by omega
  have HS := Lib.hid hs1
  clear hs1
  have hrs := rest_size s 1
  rw [← Lib.extract_to_end] at hE
  have htz : (s.extract 1 s.size).size ≤ 9223372036854775807 := by omega
  clear hrs
  generalize hT : s.extract 1 s.size = T at hE htz
  cases hn : num 16 8 T.data.toList 0 with
  | none =>
    rw [hn] at hE
    have HN := Lib.hid hn
    have HE := Lib.hid hE
    clear hn hE
    rcases not_quote hq with ⟨q1, rfl⟩ | ⟨q1, q2⟩
    all_goals
      clear hq
      go_enter Tryd.func36, Tryd.ntmps36
      go_wp2_with (first
        | (go_at_call 44; refine (simple_none _ _ HS.out).mono ?_; rintro e w1 ⟨rfl, rfl⟩)
        | (go_at_call 45; refine (number16_none T 8 _ htz (by omega) HN.out).mono ?_; rintro e w1 ⟨rfl, rfl⟩))
      refine bodyPost_ret (v := .tuple #[.agg #[.int .i64 0, .bool false, .int .i64 10, .bool true], .bool false]) (by simp [results, Tryd.results36, go_sem]) rfl ?_
      exact postEsc_none HE.out ⟨⟨_, _, _, _, rfl⟩, (Bw.refl _).alloc _⟩
  | some N =>
    rw [hn] at hE
    simp only at hE
    have HN := Lib.hid hn
    clear hn
    cases hcp : cp N with
    | true =>
      rw [hcp] at hE
      simp only [if_true] at hE
      have HE := Lib.hid hE
      have HC : Hid (0 ≤ (N : Int) ∧ (N : Int) ≤ 1114111 ∧ ((N : Int) < 55296 ∨ 57343 < (N : Int))) := Lib.hid (by simp only [cp, decide_eq_true_eq] at hcp; omega)
      clear hE hcp
      rcases not_quote hq with ⟨q1, rfl⟩ | ⟨q1, q2⟩
      all_goals
        clear hq
        go_enter Tryd.func36, Tryd.ntmps36
        go_wp2_with (first
          | (go_at_call 44; refine (simple_none _ _ HS.out).mono ?_; rintro e w1 ⟨rfl, rfl⟩)
          | (go_at_call 45; refine (number16_some T 8 N _ htz (by omega) HN.out).mono ?_; rintro e w1 ⟨rfl, rfl⟩)
          | (go_at_call 33; refine (isCodePoint_yes _ _ HC.out).mono ?_; rintro e w1 ⟨rfl, rfl⟩))
        refine bodyPost_ret (v := .tuple #[.agg #[.int .i64 N, .bool false, .int .i64 10, .bool true], .bool true]) (by simp [results, Tryd.results36, go_sem]) rfl ?_
        exact postEsc_some HE.out ⟨rfl, (Bw.refl _).alloc _⟩
    | false =>
      rw [hcp] at hE
      simp only [Bool.false_eq_true, if_false] at hE
      have HE := Lib.hid hE
      have HC : Hid (¬ (0 ≤ (N : Int) ∧ (N : Int) ≤ 1114111 ∧ ((N : Int) < 55296 ∨ 57343 < (N : Int)))) := Lib.hid (by simp only [cp, decide_eq_false_iff_not] at hcp; omega)
      clear hE hcp
      rcases not_quote hq with ⟨q1, rfl⟩ | ⟨q1, q2⟩
      all_goals
        clear hq
        go_enter Tryd.func36, Tryd.ntmps36
        go_wp2_with (first
          | (go_at_call 44; refine (simple_none _ _ HS.out).mono ?_; rintro e w1 ⟨rfl, rfl⟩)
          | (go_at_call 45; refine (number16_some T 8 N _ htz (by omega) HN.out).mono ?_; rintro e w1 ⟨rfl, rfl⟩)
          | (go_at_call 33; refine (isCodePoint_no _ _ HC.out).mono ?_; rintro e w1 ⟨rfl, rfl⟩))
        refine bodyPost_ret (v := .tuple #[.agg #[.int .i64 N, .bool false, .int .i64 10, .bool true], .bool false]) (by simp [results, Tryd.results36, go_sem]) rfl ?_
        exact postEsc_none HE.out ⟨⟨_, _, _, _, rfl⟩, (Bw.refl _).alloc _⟩
set_option maxHeartbeats 1000000 in
theorem esc_o (s : ByteArray) (q c : Nat) (w : World) (hz : s.size ≤ 9223372036854775807) (h : 0 < s.size) (hc : s[0].toNat = c) (hs1 : simp1 c = none) (hx : c ≠ 120 ∧ c ≠ 117 ∧ c ≠ 85) (hq : ¬ (q ≠ 0 ∧ c = q)) :
    Calls Tryd.prog 36 #[.string s, .int .u8 q] w (PostEsc s.data.toList q w) := by
  have hE : esc s.data.toList q = (match num 8 3 s.data.toList 0 with | none => none | some x => if x ≤ 255 then some ⟨x, true, 4, false⟩ else none) := by
    have hl := head_list s h
    generalize s.data.toList = L at hl ⊢
    rw [hl]
    unfold esc
    simp only [hc, hs1, if_neg hq, if_neg hx.1, if_neg hx.2.1, if_neg hx.2.2]
    cases num 8 3 _ 0 <;> rfl
  have he := ne_empty h
  have hm : decide ((0 : Int) ≤ -1) = false := by decide
  have n1 : ((c : Int) == 120) = false := beq_eq_false_iff_ne.2 (by omega)
  have n2 : ((c : Int) == 117) = false := beq_eq_false_iff_ne.2 (by omega)
  have n3 : ((c : Int) == 85) = false := beq_eq_false_iff_ne.2 (by omega)
  have HS := Lib.hid hs1
  clear hs1 hx
  cases hn : num 8 3 s.data.toList 0 with
  | none =>
    rw [hn] at hE
    have HN := Lib.hid hn
    have HE := Lib.hid hE
    clear hn hE
    rcases not_quote hq with ⟨q1, rfl⟩ | ⟨q1, q2⟩
    all_goals
      clear hq
      go_enter Tryd.func36, Tryd.ntmps36
      go_wp2_with (first
        | (go_at_call 44; refine (simple_none _ _ HS.out).mono ?_; rintro e w1 ⟨rfl, rfl⟩)
        | (go_at_call 45; refine (number8_none s 3 _ hz (by omega) HN.out).mono ?_; rintro e w1 ⟨rfl, rfl⟩))
      refine bodyPost_ret (v := .tuple #[.agg #[.int .i64 0, .bool true, .int .i64 4, .bool false], .bool false]) (by simp [results, Tryd.results36, go_sem]) rfl ?_
      exact postEsc_none HE.out ⟨⟨_, _, _, _, rfl⟩, (Bw.refl _).alloc _⟩
  | some N =>
    rw [hn] at hE
    simp only at hE
    have HN := Lib.hid hn
    clear hn
    by_cases h255 : N ≤ 255
    · rw [if_pos h255] at hE
      have HE := Lib.hid hE
      clear hE
      have b1 : decide ((N : Int) ≤ 255) = true := by simp; omega
      rcases not_quote hq with ⟨q1, rfl⟩ | ⟨q1, q2⟩
      all_goals
        clear hq
        go_enter Tryd.func36, Tryd.ntmps36
        go_wp2_with (first
          | (go_at_call 44; refine (simple_none _ _ HS.out).mono ?_; rintro e w1 ⟨rfl, rfl⟩)
          | (go_at_call 45; refine (number8_some s 3 N _ hz (by omega) HN.out).mono ?_; rintro e w1 ⟨rfl, rfl⟩))
        refine bodyPost_ret (v := .tuple #[.agg #[.int .i64 N, .bool true, .int .i64 4, .bool false], .bool true]) (by simp [results, Tryd.results36, go_sem]) rfl ?_
        exact postEsc_some HE.out ⟨rfl, (Bw.refl _).alloc _⟩
    · rw [if_neg h255] at hE
      have HE := Lib.hid hE
      clear hE
      have b1 : decide ((N : Int) ≤ 255) = false := by simp; omega
      rcases not_quote hq with ⟨q1, rfl⟩ | ⟨q1, q2⟩
      all_goals
        clear hq
        go_enter Tryd.func36, Tryd.ntmps36
        go_wp2_with (first
          | (go_at_call 44; refine (simple_none _ _ HS.out).mono ?_; rintro e w1 ⟨rfl, rfl⟩)
          | (go_at_call 45; refine (number8_some s 3 N _ hz (by omega) HN.out).mono ?_; rintro e w1 ⟨rfl, rfl⟩))
        refine bodyPost_ret (v := .tuple #[.agg #[.int .i64 N, .bool true, .int .i64 4, .bool false], .bool false]) (by simp [results, Tryd.results36, go_sem]) rfl ?_
        exact postEsc_none HE.out ⟨⟨_, _, _, _, rfl⟩, (Bw.refl _).alloc _⟩
/-- spec.escape -/
theorem esc_calls (s : ByteArray) (q : Nat) (w : World) (hz : s.size ≤ 9223372036854775807) (hq : q = 0 ∨ q = 34 ∨ q = 39) :
    Calls Tryd.prog 36 #[.string s, .int .u8 q] w (PostEsc s.data.toList q w) := by
  by_cases h : 0 < s.size
  · have hl := head_list s h
    obtain ⟨c, hc⟩ : ∃ c, s[0].toNat = c := ⟨_, rfl⟩
    cases hs1 : simp1 c with
    | some r =>
      have hE : esc s.data.toList q = some ⟨r, false, 2, false⟩ := by rw [hl]; unfold esc; simp only [hc, hs1]
      exact (esc_simple s q r w h (by rw [hc]; exact hs1)).mono fun e w' he => postEsc_some hE he
    | none =>
      by_cases hcq : q ≠ 0 ∧ c = q
      · have hE : esc s.data.toList q = some ⟨q, false, 2, false⟩ := by rw [hl]; unfold esc; simp only [hc, hs1, if_pos hcq]
        exact (esc_quote s q w h (by rw [hc]; exact hs1) hcq.1 (hc.trans hcq.2) (by omega)).mono fun e w' he => postEsc_some hE he
      by_cases hx : c = 120
      · subst hx; exact esc_x s q w hz h hc hcq
      by_cases hu : c = 117
      · subst hu; exact esc_u s q w hz h hc hcq
      by_cases hU : c = 85
      · subst hU; exact esc_U s q w hz h hc hcq
      exact esc_o s q c w hz h hc hs1 ⟨hx, hu, hU⟩ hcq
  · exact (esc_empty s q w h).mono fun e w' he => postEsc_none (by rw [empty_of_size h]; rfl) he
end Go.Proofs.YtbnginnbpppegaaDoor
