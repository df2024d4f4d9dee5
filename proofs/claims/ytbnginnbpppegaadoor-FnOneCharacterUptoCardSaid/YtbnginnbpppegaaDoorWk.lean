/-
  The library's UnquoteChar, whole: it returns what the plain function uc gives.
-/
import Derived.Test.YtbnginnbpppegaaDoorWh
import Derived.Test.YtbnginnbpppegaaDoorWj
namespace Go.Proofs.YtbnginnbpppegaaDoor
open Go.RowKit Go.Uq

def PostUC (s : ByteArray) (q : Nat) (t : TypeId) (v : Value) (w : World) (e : Ending) (w' : World) : Prop :=
  (match uc s.data.toList q with
  | none => e = ucBad t v
  | some (r, m, k) => e = ucGood s r k m) ∧ Bw w w'
theorem postUC_none {s : ByteArray} {q : Nat} {t : TypeId} {v : Value} {w : World} {e : Ending} {w' : World} (h : uc s.data.toList q = none) (he : e = ucBad t v ∧ Bw w w') : PostUC s q t v w e w' := by
  unfold PostUC; rw [h]; exact he
theorem postUC_some {s : ByteArray} {q r k : Nat} {m : Bool} {t : TypeId} {v : Value} {w : World} {e : Ending} {w' : World} (h : uc s.data.toList q = some (r, m, k)) (he : e = ucGood s r k m ∧ Bw w w') : PostUC s q t v w e w' := by
  unfold PostUC; rw [h]; exact he
theorem head_list (s : ByteArray) (h : 0 < s.size) : s.data.toList = s[0] :: s.data.toList.drop 1 := by
  have hl : 0 < s.data.toList.length := by rw [← Lib.size_eq]; exact h
  have := List.drop_eq_getElem_cons hl
  rw [List.drop_zero] at this
  exact this
/-- strconv.UnquoteChar -/
theorem uc_calls (s : ByteArray) (q : Nat) (w : World) (t : TypeId) (v : Value) (hE : w.cell? ⟨0, 0, none⟩ = some (.iface t v)) (hT : Tabs w) (hq : q = 0 ∨ q = 34 ∨ q = 39) :
    Calls Tryd.prog 32 #[.string s, .int .u8 q] w (PostUC s q t v w) := by
  by_cases h0 : s.size = 0
  · have hl : s.data.toList = [] := empty_of_size (by omega)
    exact (uc_empty s q w t v hE h0).mono fun e w' he => postUC_none (by rw [hl]; rfl) he
  have h : 0 < s.size := by omega
  have hl := head_list s h
  obtain ⟨T, hT'⟩ : ∃ T, s.data.toList.drop 1 = T := ⟨_, rfl⟩
  rw [hT'] at hl
  by_cases hcq : q ≠ 0 ∧ s[0].toNat = q
  · have hu : uc s.data.toList q = none := by rw [hl]; unfold uc; simp only [if_pos hcq]
    exact (uc_quote s q w t v hE h hcq.2 (by omega)).mono fun e w' he => postUC_none hu he
  by_cases h92 : s[0].toNat = 92
  · -- an escape
    have hu0 : uc s.data.toList q = (match esc T q with | none => none | some e => some (e.v, e.w, e.n)) := by
      rw [hl]; unfold uc; simp only [if_neg hcq, if_pos h92]; cases esc T q <;> rfl
    by_cases h1 : 1 < s.size
    · have htl := tail_list s h1
      rw [hT'] at htl
      obtain ⟨d, hd⟩ : ∃ d, s[1].toNat = d := ⟨_, rfl⟩
      obtain ⟨u, hu⟩ : ∃ u, (s.extract 2 s.size).data.toList = u := ⟨_, rfl⟩
      have hul : u.length = s.size - 2 := by rw [← hu, ← Lib.size_eq, rest_size]
      rw [hu] at htl
      cases hs1 : simp1 d with
      | some r =>
        have he : esc T q = some ⟨r, false, 2, false⟩ := by rw [htl]; unfold esc; simp only [hd, hs1]
        rw [he] at hu0
        exact (uc_letter s q d r w h1 h92 hd hs1 hq).mono fun e w' he => postUC_some hu0 he
      | none =>
        by_cases hdq : q ≠ 0 ∧ d = q
        · have he : esc T q = some ⟨q, false, 2, false⟩ := by rw [htl]; unfold esc; simp only [hd, hs1, if_pos hdq]
          rw [he] at hu0
          exact (uc_quoted s q w h1 h92 (hd.trans hdq.2) (by omega)).mono fun e w' he => postUC_some hu0 he
        by_cases hx : d = 120
        · have he : esc T q = (match num 16 2 u 0 with | none => none | some x => some ⟨x, true, 4, false⟩) := by rw [htl]; unfold esc; simp only [hd, hs1, if_neg hdq, if_pos hx]; cases num 16 2 u 0 <;> rfl
          rw [he] at hu0
          by_cases hlen : s.size - 2 < 2
          · rw [num_short (by omega)] at hu0
            exact (uc_x_short s q w t v hE h1 h92 (hd.trans hx) hq hlen).mono fun e w' he => postUC_none hu0 he
          · refine (uc_x s q w t v hE h1 h92 (hd.trans hx) hq (by omega)).mono fun e w' he => ?_
            unfold Post_x at he
            rw [hu] at he
            cases hn : num 16 2 u 0 with
            | none => rw [hn] at hu0 he; exact postUC_none hu0 he
            | some N => rw [hn] at hu0 he; exact postUC_some hu0 he
        by_cases hu4 : d = 117
        · have he : esc T q = (match num 16 4 u 0 with | none => none | some x => if cp x then some ⟨x, false, 6, true⟩ else none) := by rw [htl]; unfold esc; simp only [hd, hs1, if_neg hdq, if_neg hx, if_pos hu4]; cases num 16 4 u 0 <;> rfl
          rw [he] at hu0
          by_cases hlen : s.size - 2 < 4
          · rw [num_short (by omega)] at hu0
            exact (uc_u_short s q w t v hE h1 h92 (hd.trans hu4) hq hlen).mono fun e w' he => postUC_none hu0 he
          · refine (uc_u s q w t v hE h1 h92 (hd.trans hu4) hq (by omega)).mono fun e w' he => ?_
            unfold Post_u at he
            rw [hu] at he
            cases hn : num 16 4 u 0 with
            | none => rw [hn] at hu0 he; exact postUC_none hu0 he
            | some N =>
              rw [hn] at hu0 he
              simp only at hu0 he
              cases hcp : cp N with
              | false => rw [hcp] at hu0 he; exact postUC_none hu0 he
              | true => rw [hcp] at hu0 he; exact postUC_some hu0 he
        by_cases hU8 : d = 85
        · have he : esc T q = (match num 16 8 u 0 with | none => none | some x => if cp x then some ⟨x, false, 10, true⟩ else none) := by rw [htl]; unfold esc; simp only [hd, hs1, if_neg hdq, if_neg hx, if_neg hu4, if_pos hU8]; cases num 16 8 u 0 <;> rfl
          rw [he] at hu0
          by_cases hlen : s.size - 2 < 8
          · rw [num_short (by omega)] at hu0
            exact (uc_U_short s q w t v hE h1 h92 (hd.trans hU8) hq hlen).mono fun e w' he => postUC_none hu0 he
          · refine (uc_U s q w t v hE h1 h92 (hd.trans hU8) hq (by omega)).mono fun e w' he => ?_
            unfold Post_U at he
            rw [hu] at he
            cases hn : num 16 8 u 0 with
            | none => rw [hn] at hu0 he; exact postUC_none hu0 he
            | some N =>
              rw [hn] at hu0 he
              simp only at hu0 he
              cases hcp : cp N with
              | false => rw [hcp] at hu0 he; exact postUC_none hu0 he
              | true => rw [hcp] at hu0 he; exact postUC_some hu0 he
        have he : esc T q = (match num 8 3 T 0 with | none => none | some x => if x ≤ 255 then some ⟨x, true, 4, false⟩ else none) := by rw [htl]; unfold esc; simp only [hd, hs1, if_neg hdq, if_neg hx, if_neg hu4, if_neg hU8]; rw [← htl]; cases num 8 3 T 0 <;> rfl
        rw [he] at hu0
        by_cases ho : 48 ≤ d ∧ d ≤ 55
        · by_cases hlen : s.size - 2 < 2
          · rw [num_short (by rw [htl]; simp; omega)] at hu0
            exact (uc_o_short s q d w t v hE h1 h92 hd (octs_of ho) hq hlen).mono fun e w' he => postUC_none hu0 he
          · refine (uc_o s q d w t v hE h1 h92 hd (octs_of ho) hq (by omega)).mono fun e w' he => ?_
            unfold Post_o at he
            rw [hT'] at he
            cases hn : num 8 3 T 0 with
            | none => rw [hn] at hu0 he; exact postUC_none hu0 he
            | some N =>
              rw [hn] at hu0 he
              simp only at hu0 he
              by_cases h255 : N ≤ 255
              · rw [if_pos h255] at hu0 he; exact postUC_some hu0 he
              · rw [if_neg h255] at hu0 he; exact postUC_none hu0 he
        · have hn : num 8 3 T 0 = none := by rw [htl]; simp only [num, hd, dig8, if_neg ho]
          rw [hn] at hu0
          exact (uc_other s q d w t v hE h1 h92 hd hs1 ⟨hx, hu4, hU8⟩ ho hdq hq).mono fun e w' he => postUC_none hu0 he
    · have hTn : T = [] := by
        rw [← hT']
        apply List.eq_nil_of_length_eq_zero
        rw [List.length_drop, ← Lib.size_eq]
        omega
      rw [hTn] at hu0
      exact (uc_alone s q w t v hE h (by omega) h92 hq).mono fun e w' he => postUC_none hu0 he
  by_cases h128 : 128 ≤ s[0].toNat
  · obtain ⟨r, k, hd, hk1, hk2, hr⟩ := rune_at h
    have hu : uc s.data.toList q = some (r, true, k) := by
      have hd' := hd
      rw [hl] at hd' ⊢
      unfold uc
      simp only [if_neg hcq, if_neg h92, if_pos h128, hd']
    exact (uc_high s q r k w hT h h128 hq hd hk2).mono fun e w' he => postUC_some hu he
  · have hu : uc s.data.toList q = some (s[0].toNat, false, 1) := by
      rw [hl]
      unfold uc
      simp only [if_neg hcq, if_neg h92, if_neg h128]
    exact (uc_plain s q _ w h rfl (by omega) h92 hq hcq).mono fun e w' he => postUC_some hu he
theorem uc_none_at (s : ByteArray) (q : Nat) (w : World) (t : TypeId) (v : Value) (hE : w.cell? ⟨0, 0, none⟩ = some (.iface t v)) (hT : Tabs w) (hq : q = 0 ∨ q = 34 ∨ q = 39) (h : uc s.data.toList q = none) :
    Calls Tryd.prog 32 #[.string s, .int .u8 q] w fun e w' => e = .returned (.tuple #[.int .i32 0, .bool false, .string ⟨#[]⟩, .iface t v]) ∧ Bw w w' :=
  (uc_calls s q w t v hE hT hq).mono fun e w' he => by unfold PostUC at he; rw [h] at he; exact he
theorem uc_some_at (s : ByteArray) (q r k : Nat) (m : Bool) (w : World) (hE : Sent w) (hT : Tabs w) (hq : q = 0 ∨ q = 34 ∨ q = 39) (h : uc s.data.toList q = some (r, m, k)) :
    Calls Tryd.prog 32 #[.string s, .int .u8 q] w fun e w' => e = .returned (.tuple #[.int .i32 r, .bool m, .string (s.extract k s.size), .nilIface]) ∧ Bw w w' := by
  obtain ⟨t, v, hc⟩ := hE
  exact (uc_calls s q w t v hc hT hq).mono fun e w' he => by unfold PostUC at he; rw [h] at he; exact he
set_option maxHeartbeats 400000 in
/-- impl.UnquoteChar -/
theorem implUC_none (s : ByteArray) (q : Nat) (w : World) (hE : Sent w) (hT : Tabs w) (hq : q = 0 ∨ q = 34 ∨ q = 39) (h : uc s.data.toList q = none) :
    Calls Tryd.prog 23 #[.string s, .int .u8 q] w fun e w' => e = .returned (.tuple #[.int .i32 0, .bool false, .string ⟨#[]⟩, .bool false]) ∧ Bw w w' := by
  obtain ⟨t, v, hc⟩ := hE
  have C := Lib.hid (uc_none_at s q w t v hc hT hq h)
  clear h hc hT
  go_enter Tryd.func23, Tryd.ntmps23
  go_wp2_with (go_at_call 32; refine C.out.mono ?_; rintro e w1 ⟨rfl, hb1⟩)
  go_quiet (fail)
  go_wp2
  refine bodyPost_ret (results4 rfl _ _ _) rfl ?_
  exact ⟨rfl, hb1.drewN _⟩
set_option maxHeartbeats 400000 in
theorem implUC_some (s : ByteArray) (q r k : Nat) (m : Bool) (w : World) (hE : Sent w) (hT : Tabs w) (hq : q = 0 ∨ q = 34 ∨ q = 39) (h : uc s.data.toList q = some (r, m, k)) :
    Calls Tryd.prog 23 #[.string s, .int .u8 q] w fun e w' => e = .returned (.tuple #[.int .i32 r, .bool m, .string (s.extract k s.size), .bool true]) ∧ Bw w w' := by
  have C := Lib.hid (uc_some_at s q r k m w hE hT hq h)
  clear h hT
  go_enter Tryd.func23, Tryd.ntmps23
  go_wp2_with (go_at_call 32; refine C.out.mono ?_; rintro e w1 ⟨rfl, hb1⟩)
  go_quiet (fail)
  go_wp2
  refine bodyPost_ret (results4 rfl _ _ _) rfl ?_
  exact ⟨rfl, hb1.drewN _⟩
end Go.Proofs.YtbnginnbpppegaaDoor
