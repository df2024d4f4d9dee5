/-
  The walks over the laws FnTail and FnUnquoteChar.
-/
import Derived.Test.YtidjchoneopmbaaDoorWp
import Derived.Test.YtidjchoneopmbaaDoorLb
import Derived.OpenShut
namespace Go.Proofs.YtidjchoneopmbaaDoor
open Go.RowKit Go.Uq

theorem byte_nat {q : Int} (h : (Lit.int .u8 q).wf = true) : ∃ n : Nat, q = n ∧ n < 256 := by
  have := bounds_u8 h
  exact ⟨q.toNat, by omega, by omega⟩
theorem nat_ne10 {a : Nat} (h : a ≠ 10) : ((a : Int) == 10) = false := beq_eq_false_iff_ne.2 (by omega)
theorem tail_app (s more : ByteArray) (n : Nat) (h : n ≤ s.size) : (s ++ more).extract n (s ++ more).size = s.extract n s.size ++ more := by
  apply ba_ext
  rw [Lib.extract_to_end, app_list, app_list, Lib.extract_to_end, List.drop_append_of_le_length (by rw [← Lib.size_eq]; exact h)]

set_option maxHeartbeats 1000000 in
set_option maxRecDepth 100000 in
theorem fnTail_walk (s more : ByteArray) (qz : Int) (w : World) (hs : s.size ≤ 140737488351232) (hm : more.size ≤ 140737488351232) (hwf : (Lit.int .u8 qz).wf = true) (hT : Tabs w) (hE : Sent w) :
    Calls Tryd.prog 6 #[.string s, .string more, .int .u8 qz] w fun e w' => e = .returned (.bool true) ∧ Bw w w' := by
  have HW := Lib.hid (show Env w from ⟨hE, hT⟩)
  clear hT hE
  obtain ⟨q, rfl, hq256⟩ := byte_nat hwf
  clear hwf
  by_cases hq : q = 0 ∨ q = 34 ∨ q = 39
  rotate_left
  · go_enter Tryd.func6, Tryd.ntmps6
    go_wp2_with (go_at_call 15; refine (isQuote_no q _ hq).mono ?_; rintro e w1 ⟨rfl, rfl⟩)
    go_ret
    exact ⟨rfl, Bw.refl _⟩
  have t1 := fun (w : World) => isText_any s w (by omega)
  cases hv : Lib.validD s.data.toList with
  | false =>
    rw [hv] at t1
    have T1 := Lib.hid t1
    clear t1 hv
    go_enter Tryd.func6, Tryd.ntmps6
    go_wp2_with (first
      | (go_at_call 15; refine (isQuote_yes q _ hq).mono ?_; rintro e w1 ⟨rfl, rfl⟩)
      | (go_at_call 13; refine (T1.out _).mono ?_; rintro e w1 ⟨rfl, hb1⟩))
    go_ret
    exact ⟨rfl, hb1⟩
  | true =>
  rw [hv] at t1
  have T1 := Lib.hid t1
  clear t1 hv
  by_cases h0 : 0 < s.size
  rotate_left
  · have he := is_empty h0
    go_enter Tryd.func6, Tryd.ntmps6
    go_wp2_with (first
      | (go_at_call 15; refine (isQuote_yes q _ hq).mono ?_; rintro e w1 ⟨rfl, rfl⟩)
      | (go_at_call 13; refine (T1.out _).mono ?_; rintro e w1 ⟨rfl, hb1⟩))
    go_ret
    exact ⟨rfl, hb1⟩
  have he := ne_empty h0
  by_cases h10 : s[0].toNat = 10
  · go_enter Tryd.func6, Tryd.ntmps6
    go_wp2_with (first
      | (go_at_call 15; refine (isQuote_yes q _ hq).mono ?_; rintro e w1 ⟨rfl, rfl⟩)
      | (go_at_call 13; refine (T1.out _).mono ?_; rintro e w1 ⟨rfl, hb1⟩))
    go_ret
    exact ⟨rfl, hb1⟩
  have n10 : ((s[0].toNat : Int) == 10) = false := beq_eq_false_iff_ne.2 (by omega)
  clear h10
  cases hf : first s.data.toList q with
  | none =>
    have C1 := Lib.hid (fun (w : World) => specUC_none s q w (by omega) hq hf)
    clear hf
    go_enter Tryd.func6, Tryd.ntmps6
    go_wp2_with (first
      | (go_at_call 15; refine (isQuote_yes q _ hq).mono ?_; rintro e w1 ⟨rfl, rfl⟩)
      | (go_at_call 13; refine (T1.out _).mono ?_; rintro e w1 ⟨rfl, hb1⟩)
      | (go_at_call 16; refine (C1.out _).mono ?_; rintro e w2 ⟨rfl, hb2⟩))
    go_ret
    exact ⟨rfl, hb1.trans hb2⟩
  | some x =>
    have C1 := Lib.hid (fun (w : World) => specUC_some s q x w (by omega) hq hf)
    have hl := first_local hf
    have hn1 := hl.1
    have hn2 := hl.2.1
    rw [← Lib.size_eq] at hn2
    have u1 := uc_of_first hf
    have u2 : uc (s ++ more).data.toList q = some (x.v, multi s.data.toList x, x.n) := by
      rw [app_list]
      have := uc_of_first (first_app hf more.data.toList)
      rw [show multi (s.data.toList ++ more.data.toList) x = multi s.data.toList x by rw [head_list s h0]; rfl] at this
      exact this
    have C2 := Lib.hid (fun (w' : World) (hb : Bw w w') => implUC_is s (s.extract x.n s.size) q x.v x.n _ w' (HW.out.bw hb).1 (HW.out.bw hb).2 hq u1 rfl)
    have C3 := Lib.hid (fun (w' : World) (hb : Bw w w') => implUC_is (s ++ more) (s.extract x.n s.size ++ more) q x.v x.n _ w' (HW.out.bw hb).1 (HW.out.bw hb).2 hq u2 (tail_app s more x.n hn2))
    clear hf hl u1 u2
    have hts := rest_size s x.n
    generalize hTl : s.extract x.n s.size = T at C1 C2 C3 hts
    generalize multi s.data.toList x = M at C2 C3
    generalize several x = SV at C1
    generalize x.n = n at *
    generalize x.v = v at *
    have HL := Lib.hid hTl
    have HZ := Lib.hid hts
    have hlt : T.size < s.size := by omega
    have nn : ¬ 9223372036854775807 < s.size + more.size := by omega
    have nn2 : ¬ 9223372036854775807 < T.size + more.size := by omega
    clear hTl hts
    go_enter Tryd.func6, Tryd.ntmps6
    go_wp2_with fail
    refine (isQuote_yes q _ hq).mono ?_
    rintro e w1 ⟨rfl, rfl⟩
    go_wp2_with fail
    refine (T1.out _).mono ?_
    rintro e w1 ⟨rfl, hb1⟩
    go_wp2_with fail
    refine (C1.out _).mono ?_
    rintro e w2 ⟨rfl, hb2⟩
    go_wp2_with fail
    refine (C2.out _ (hb1.trans hb2)).mono ?_
    rintro e w3 ⟨rfl, hb3⟩
    go_wp2_with fail
    refine (C3.out _ ((hb1.trans hb2).trans hb3)).mono ?_
    rintro e w4 ⟨rfl, hb4⟩
    go_wp2_with fail
    go_ret
    refine ⟨?_, ((hb1.trans hb2).trans hb3).trans hb4⟩
    have hd : s.size - T.size = n := by have := HZ.out; omega
    simp [hd, HL.out]
/-- what the library tells of several bytes, and what the reference tells -/
theorem multi_several {l : List UInt8} {q : Nat} {x : El} (hq : q < 128) (h : first l q = some x) : multi l x = several x ∨ (multi l x = true ∧ several x = false ∧ x.w = true) := by
  match l with
  | [] => cases h
  | c :: t =>
    unfold first at h
    simp only at h
    split at h
    · cases h
    split at h
    · rename_i h92
      have hm : multi (c :: t) x = x.w := by simp [multi, h92]
      rw [hm]
      unfold several
      rcases esc_kinds hq h with ⟨hb, hw, _⟩ | ⟨hb, hw, hv, _⟩ | ⟨hb, hw, _⟩
      · rw [hb, hw]; simp
      · rw [hb, hw]; simp; omega
      · rw [hb, hw]
        by_cases hv : 127 < x.v
        · simp [hv]
        · simp [hv]
    · split at h
      · rename_i hg
        have hc := char_size (c :: t) hg
        cases h
        unfold multi several
        simp only [List.getD_cons_zero] at hc
        left
        rcases hc with ⟨h1, h2⟩ | ⟨h1, h2, h3⟩
        · have h128 : 128 ≤ c.toNat := by
            rcases Nat.lt_or_ge c.toNat 128 with hlt | hge
            · rw [Lib.decodeL_ascii c t hlt] at h1
              simp at h1
            · exact hge
          have h127 : 127 < (Lib.decodeL (c :: t)).1 := by omega
          simp [h128, h127]
        · have n1 : ¬ 128 ≤ c.toNat := by omega
          have n2 : ¬ 127 < (Lib.decodeL (c :: t)).1 := by omega
          simp [n1, n2]
      · cases h
/-- where the reference finds nothing, the library finds nothing -/
theorem uc_none_of {l : List UInt8} {q : Nat} (hl : (l.getD 0 0).toNat ≠ 10) (hg : 128 ≤ (l.getD 0 0).toNat → good l = true) (h : first l q = none) : uc l q = none := by
  cases hu : uc l q with
  | none => rfl
  | some y =>
    obtain ⟨v, m, k⟩ := y
    obtain ⟨e, he, _⟩ := first_of_uc hl hg hu
    rw [h] at he
    cases he
def ucTrue (w : World) (e : Ending) (w' : World) : Prop := e = .returned (.bool true) ∧ Bw w w'
set_option maxHeartbeats 1000000 in
set_option maxRecDepth 100000 in
/-- the rest of the law, behind the look at the text's beginning; k: 'Decode' is called -/
theorem fnUnquoteChar_main (s : ByteArray) (q : Nat) (w : World) (hs : s.size ≤ 140737488351232) (HW : Hid (Env w)) (hq : q = 0 ∨ q = 34 ∨ q = 39)
    (hbeg : ¬ 0 < s.size ∨ ∃ h : 0 < s.size, (s[0]'h).toNat ≠ 10 ∧ ((s[0]'h).toNat = 92 ∨ good s.data.toList = true)) :
    Calls Tryd.prog 7 #[.string s, .int .u8 q] w (ucTrue w) := by
  have hq128 : q < 128 := by clear hbeg; omega
  have h10 : (s.data.toList.getD 0 0).toNat ≠ 10 := by
    rcases hbeg with h | ⟨h, h1, _⟩
    · rw [empty_of_size h]; decide
    · rw [list_at s 0 h]; exact h1
  have hg : 128 ≤ (s.data.toList.getD 0 0).toNat → good s.data.toList = true := fun hh => by
    rcases hbeg with h | ⟨h, _, h2 | h2⟩
    · rw [empty_of_size h] at hh; exact absurd hh (by decide)
    · rw [list_at s 0 h] at hh; omega
    · exact h2
  have hf0 : ∀ x, first s.data.toList q = some x → 0 < s.size := fun x hx => by
    have h1 := (first_local hx).1
    have h2 := (first_local hx).2.1
    rw [← Lib.size_eq] at h2
    omega
  cases hf : first s.data.toList q with
  | none =>
    have C1 := Lib.hid (fun (w : World) => first_none_at s q w (by omega) hq hf)
    have C2 := Lib.hid (fun (w : World) => specUC_none s q w (by omega) hq hf)
    have C3 := Lib.hid (fun (w' : World) (hb : Bw w w') => implUC_none s q w' (HW.out.bw hb).1 (HW.out.bw hb).2 hq (uc_none_of h10 hg hf))
    clear hf hf0 hg h10
    rcases hbeg with h | ⟨h, h10, h2⟩
    · have he := is_empty h
      go_enter Tryd.func7, Tryd.ntmps7
      go_wp2_with fail
      refine (isQuote_yes q _ hq).mono ?_
      rintro e w1 ⟨rfl, rfl⟩
      go_wp2_with fail
      refine (C1.out _).mono ?_
      rintro e w1 ⟨⟨x, y, z, u, rfl⟩, hb1⟩
      go_wp2_with fail
      refine (C2.out _).mono ?_
      rintro e w2 ⟨rfl, hb2⟩
      have hx := (hb1.alloc (.cells #[.int .i64 x, .bool y, .int .i64 z, .bool u] 32)).trans hb2
      go_wp2_with fail
      refine (C3.out _ hx).mono ?_
      rintro e w3 ⟨rfl, hb3⟩
      go_wp2_with fail
      go_ret
      exact ⟨rfl, hx.trans hb3⟩
    · have he := ne_empty h
      have n10 : (((s[0]'h).toNat : Int) == 10) = false := beq_eq_false_iff_ne.2 (by omega)
      by_cases h92 : (s[0]'h).toNat = 92
      · clear h2 h10
        go_enter Tryd.func7, Tryd.ntmps7
        go_wp2_with fail
        refine (isQuote_yes q _ hq).mono ?_
        rintro e w1 ⟨rfl, rfl⟩
        go_wp2_with fail
        refine (C1.out _).mono ?_
        rintro e w1 ⟨⟨x, y, z, u, rfl⟩, hb1⟩
        go_wp2_with fail
        refine (C2.out _).mono ?_
        rintro e w2 ⟨rfl, hb2⟩
        have hx := (hb1.alloc (.cells #[.int .i64 x, .bool y, .int .i64 z, .bool u] 32)).trans hb2
        go_wp2_with fail
        refine (C3.out _ hx).mono ?_
        rintro e w3 ⟨rfl, hb3⟩
        go_wp2_with fail
        go_ret
        exact ⟨rfl, hx.trans hb3⟩
      · have hgd : good s.data.toList = true := h2.resolve_left h92
        obtain ⟨r, k, hd, hsd, hk1, hk2, hr⟩ := char_at h hgd
        have C0 := Lib.hid (fun (w : World) => decode_at s w r k (by omega) hsd)
        have n92 : (((s[0]'h).toNat : Int) != 92) = true := by rw [bne_iff_ne]; omega
        have nk : ((k : Int) == 0) = false := beq_eq_false_iff_ne.2 (by omega)
        clear h2 h10 hgd hd hsd h92
        go_enter Tryd.func7, Tryd.ntmps7
        go_wp2_with fail
        refine (isQuote_yes q _ hq).mono ?_
        rintro e w0 ⟨rfl, rfl⟩
        go_wp2_with fail
        refine (C0.out _).mono ?_
        rintro e w0 ⟨rfl, hb0⟩
        go_wp2_with fail
        refine (C1.out _).mono ?_
        rintro e w1 ⟨⟨x, y, z, u, rfl⟩, hb1⟩
        go_wp2_with fail
        refine (C2.out _).mono ?_
        rintro e w2 ⟨rfl, hb2⟩
        have hx := ((hb0.trans hb1).alloc (.cells #[.int .i64 x, .bool y, .int .i64 z, .bool u] 32)).trans hb2
        go_wp2_with fail
        refine (C3.out _ hx).mono ?_
        rintro e w3 ⟨rfl, hb3⟩
        go_wp2_with fail
        go_ret
        exact ⟨rfl, hx.trans hb3⟩
  | some x =>
    have h := hf0 x hf
    have u1 := uc_of_first hf
    have C1 := Lib.hid (fun (w : World) => first_some_at s q x w (by omega) hq hf)
    have C2 := Lib.hid (fun (w : World) => specUC_some s q x w (by omega) hq hf)
    have C3 := Lib.hid (fun (w' : World) (hb : Bw w w') => implUC_is s (s.extract x.n s.size) q x.v x.n _ w' (HW.out.bw hb).1 (HW.out.bw hb).2 hq u1 rfl)
    have hms := multi_several hq128 hf
    have he := ne_empty h
    have hbeg' : (s[0]'h).toNat ≠ 10 ∧ ((s[0]'h).toNat = 92 ∨ good s.data.toList = true) := by
      rcases hbeg with hh | ⟨_, hh⟩
      · exact absurd h hh
      · exact hh
    obtain ⟨h10', h2⟩ := hbeg'
    have n10 : (((s[0]'h).toNat : Int) == 10) = false := nat_ne10 h10'
    clear hf hf0 hg h10 u1 hbeg
    generalize s.extract x.n s.size = T at C2 C3
    generalize multi s.data.toList x = M at C3 hms
    generalize several x = SV at C2 hms
    obtain ⟨v, b, n, wd⟩ := x
    simp only at C1 C2 C3 hms
    by_cases h92 : (s[0]'h).toNat = 92
    · clear h2 h10'
      rcases hms with rfl | ⟨rfl, rfl, rfl⟩
      · go_enter Tryd.func7, Tryd.ntmps7
        go_wp2_with fail
        refine (isQuote_yes q _ hq).mono ?_
        rintro e w1 ⟨rfl, rfl⟩
        go_wp2_with fail
        refine (C1.out _).mono ?_
        rintro e w1 ⟨rfl, hb1⟩
        go_wp2_with fail
        refine (C2.out _).mono ?_
        rintro e w2 ⟨rfl, hb2⟩
        have hx := (hb1.alloc (.cells #[.int .i64 v, .bool b, .int .i64 n, .bool wd] 32)).trans hb2
        go_wp2_with fail
        refine (C3.out _ hx).mono ?_
        rintro e w3 ⟨rfl, hb3⟩
        go_wp2_with fail
        go_ret
        exact ⟨by simp, hx.trans hb3⟩
      · go_enter Tryd.func7, Tryd.ntmps7
        go_wp2_with fail
        refine (isQuote_yes q _ hq).mono ?_
        rintro e w1 ⟨rfl, rfl⟩
        go_wp2_with fail
        refine (C1.out _).mono ?_
        rintro e w1 ⟨rfl, hb1⟩
        go_wp2_with fail
        refine (C2.out _).mono ?_
        rintro e w2 ⟨rfl, hb2⟩
        have hx := (hb1.alloc (.cells #[.int .i64 v, .bool b, .int .i64 n, .bool true] 32)).trans hb2
        go_wp2_with fail
        refine (C3.out _ hx).mono ?_
        rintro e w3 ⟨rfl, hb3⟩
        obtain ⟨_, _, _, k3, _⟩ := kept4 (hb2.trans hb3)
        go_wp2_with fail
        go_ret
        exact ⟨by simp, hx.trans hb3⟩
    · have hgd : good s.data.toList = true := h2.resolve_left h92
      obtain ⟨r, k, hd, hsd, hk1, hk2, hr⟩ := char_at h hgd
      have C0 := Lib.hid (fun (w : World) => decode_at s w r k (by omega) hsd)
      have n92 : (((s[0]'h).toNat : Int) != 92) = true := by rw [bne_iff_ne]; omega
      have nk : ((k : Int) == 0) = false := beq_eq_false_iff_ne.2 (by omega)
      clear h2 h10' hgd hd hsd h92
      rcases hms with rfl | ⟨rfl, rfl, rfl⟩
      · go_enter Tryd.func7, Tryd.ntmps7
        go_wp2_with fail
        refine (isQuote_yes q _ hq).mono ?_
        rintro e w0 ⟨rfl, rfl⟩
        go_wp2_with fail
        refine (C0.out _).mono ?_
        rintro e w0 ⟨rfl, hb0⟩
        go_wp2_with fail
        refine (C1.out _).mono ?_
        rintro e w1 ⟨rfl, hb1⟩
        go_wp2_with fail
        refine (C2.out _).mono ?_
        rintro e w2 ⟨rfl, hb2⟩
        have hx := ((hb0.trans hb1).alloc (.cells #[.int .i64 v, .bool b, .int .i64 n, .bool wd] 32)).trans hb2
        go_wp2_with fail
        refine (C3.out _ hx).mono ?_
        rintro e w3 ⟨rfl, hb3⟩
        go_wp2_with fail
        go_ret
        exact ⟨by simp, hx.trans hb3⟩
      · go_enter Tryd.func7, Tryd.ntmps7
        go_wp2_with fail
        refine (isQuote_yes q _ hq).mono ?_
        rintro e w0 ⟨rfl, rfl⟩
        go_wp2_with fail
        refine (C0.out _).mono ?_
        rintro e w0 ⟨rfl, hb0⟩
        go_wp2_with fail
        refine (C1.out _).mono ?_
        rintro e w1 ⟨rfl, hb1⟩
        go_wp2_with fail
        refine (C2.out _).mono ?_
        rintro e w2 ⟨rfl, hb2⟩
        have hx := ((hb0.trans hb1).alloc (.cells #[.int .i64 v, .bool b, .int .i64 n, .bool true] 32)).trans hb2
        go_wp2_with fail
        refine (C3.out _ hx).mono ?_
        rintro e w3 ⟨rfl, hb3⟩
        obtain ⟨_, _, _, k3, _⟩ := kept4 (hb2.trans hb3)
        go_wp2_with fail
        go_ret
        exact ⟨by simp, hx.trans hb3⟩
set_option maxHeartbeats 400000 in
set_option maxRecDepth 100000 in
theorem fnUnquoteChar_walk (s : ByteArray) (qz : Int) (w : World) (hs : s.size ≤ 140737488351232) (hwf : (Lit.int .u8 qz).wf = true) (hT : Tabs w) (hE : Sent w) :
    Calls Tryd.prog 7 #[.string s, .int .u8 qz] w fun e w' => e = .returned (.bool true) ∧ Bw w w' := by
  have HW := Lib.hid (show Env w from ⟨hE, hT⟩)
  clear hT hE
  obtain ⟨q, rfl, hq256⟩ := byte_nat hwf
  clear hwf
  by_cases hq : q = 0 ∨ q = 34 ∨ q = 39
  rotate_left
  · go_enter Tryd.func7, Tryd.ntmps7
    go_wp2_with (go_at_call 15; refine (isQuote_no q _ hq).mono ?_; rintro e w1 ⟨rfl, rfl⟩)
    go_ret
    exact ⟨rfl, Bw.refl _⟩
  by_cases h : 0 < s.size
  rotate_left
  · exact fnUnquoteChar_main s q w hs HW hq (.inl h)
  have he := ne_empty h
  by_cases h10 : s[0].toNat = 10
  · go_enter Tryd.func7, Tryd.ntmps7
    go_wp2_with (go_at_call 15; refine (isQuote_yes q _ hq).mono ?_; rintro e w1 ⟨rfl, rfl⟩)
    go_ret
    exact ⟨rfl, Bw.refl _⟩
  by_cases h92 : s[0].toNat = 92
  · exact fnUnquoteChar_main s q w hs HW hq (.inr ⟨h, h10, .inl h92⟩)
  cases hg : good s.data.toList with
  | true => exact fnUnquoteChar_main s q w hs HW hq (.inr ⟨h, h10, .inr hg⟩)
  | false =>
    have C0 := Lib.hid (fun (w : World) => decode_at s w 0 0 (by omega) (char_none hg))
    have n10 : ((s[0].toNat : Int) == 10) = false := beq_eq_false_iff_ne.2 (by omega)
    have n92 : ((s[0].toNat : Int) != 92) = true := by rw [bne_iff_ne]; omega
    clear hg h10 h92
    go_enter Tryd.func7, Tryd.ntmps7
    go_wp2_with fail
    refine (isQuote_yes q _ hq).mono ?_
    rintro e w0 ⟨rfl, rfl⟩
    go_wp2_with fail
    refine (C0.out _).mono ?_
    rintro e w0 ⟨rfl, hb0⟩
    go_wp2_with fail
    go_ret
    exact ⟨rfl, hb0⟩
end Go.Proofs.YtidjchoneopmbaaDoor
