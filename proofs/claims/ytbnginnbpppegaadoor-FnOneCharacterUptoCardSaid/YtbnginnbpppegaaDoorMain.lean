import Derived.Test.YtbnginnbpppegaaDoorText
namespace Go.Uq
open Go.Lib

theorem head_of_first {c : UInt8} {t : List UInt8} {q : Nat} {e : El} (hq : q ≠ 0) (h : first (c :: t) q = some e) : c.toNat ≠ q ∧ c.toNat ≠ 10 := by
  unfold first at h
  simp only at h
  split at h
  · cases h
  · rename_i hh
    exact ⟨fun e => hh (.inr ⟨hq, e⟩), fun e => hh (.inl e)⟩
/-- one round of the library's loop over what the reference reads -/
theorem body_first {c : UInt8} {t x : List UInt8} {q : Nat} {e : El} (hq : q ≠ 0) (hq' : q < 128) (h : first (c :: t) q = some e) :
    body q (c :: t ++ x) = (body q ((c :: t).drop e.n ++ x)).map fun p => (bytesOf e ++ p.1, p.2) := by
  obtain ⟨h1, h2⟩ := head_of_first hq h
  have hl := (first_local h).2.1
  have hu := uc_of_first (first_app h x)
  have hm : multi (c :: t ++ x) e = multi (c :: t) e := rfl
  rw [hm] at hu
  show body q (c :: (t ++ x)) = _
  rw [body_step (t ++ x) h1 h2 hu, first_put hq' h]
  rw [show (c :: (t ++ x)) = (c :: t) ++ x from rfl, List.drop_append_of_le_length hl]
/-- U1 BETWEEN DOUBLE QUOTES -/
theorem body_elems (q : Nat) (hq : q ≠ 0) (hq' : q < 128) : ∀ (n : Nat) (b : List UInt8) (es : List El) (x : List UInt8), b.length ≤ n → elems b q = some es → body q (b ++ x) = (body q x).map fun p => (outOf es ++ p.1, p.2)
  | 0, b, es, x, hn, h => by
    have : b = [] := List.eq_nil_of_length_eq_zero (by omega)
    subst this
    rw [elems_nil] at h
    cases h
    cases h' : body q x <;> simp [h', outOf]
  | n + 1, b, es, x, hn, h => by
    rcases elems_inv h with ⟨rfl, rfl⟩ | ⟨e, es', hf, ht, rfl⟩
    · cases h' : body q x <;> simp [h', outOf]
    · match b, hf with
      | c :: t, hf =>
        have h1 := (first_local hf).1
        rw [body_first hq hq' hf, body_elems q hq hq' n _ es' x (by rw [List.length_drop]; omega) ht]
        cases body q x <;> simp [outOf]
theorem body_of_elems {q : Nat} (hq : q ≠ 0) (hq' : q < 128) {b : List UInt8} {es : List El} (h : elems b q = some es) {c : UInt8} (hc : c.toNat = q) (x : List UInt8) : body q (b ++ c :: x) = some (outOf es, x) := by
  rw [body_elems q hq hq' b.length b es (c :: x) (Nat.le_refl _) h, body_end x hc]
  simp
/-- U2 BETWEEN DOUBLE QUOTES -/
theorem elems_of_body (q : Nat) (hq : q ≠ 0) (hq' : q < 128) : ∀ (n : Nat) (l o r : List UInt8), l.length ≤ n → validD l = true → body q l = some (o, r) →
    ∃ (b : List UInt8) (c : UInt8) (es : List El), l = b ++ c :: r ∧ c.toNat = q ∧ elems b q = some es ∧ o = outOf es
  | 0, l, o, r, hn, _, h => by
    have : l = [] := List.eq_nil_of_length_eq_zero (by omega)
    subst this
    cases h
  | n + 1, [], o, r, _, _, h => by cases h
  | n + 1, c :: t, o, r, hn, hv, h => by
    by_cases hcq : c.toNat = q
    · rw [body_end t hcq] at h
      cases h
      exact ⟨[], c, [], rfl, hcq, elems_nil q, rfl⟩
    by_cases h10 : c.toNat = 10
    · rw [body_lf t hcq h10] at h; cases h
    cases hu : uc (c :: t) q with
    | none => rw [body_bad t hcq hu] at h; cases h
    | some y =>
      obtain ⟨v, m, k⟩ := y
      have hg : 128 ≤ ((c :: t).getD 0 0).toNat → good (c :: t) = true := fun _ => (valid_good (by simp) hv).1
      obtain ⟨e, hf, rfl, rfl, rfl⟩ := first_of_uc (l := c :: t) (by simpa using h10) hg hu
      obtain ⟨hp, hl, hloc⟩ := first_local hf
      rw [body_step t hcq h10 hu] at h
      cases hb : body q ((c :: t).drop e.n) with
      | none => rw [hb] at h; cases h
      | some y =>
        obtain ⟨o', r'⟩ := y
        rw [hb] at h
        simp only [Option.map_some, Option.some.injEq, Prod.mk.injEq] at h
        obtain ⟨rfl, rfl⟩ := h
        obtain ⟨b, d, es, hl', hd, hes, rfl⟩ := elems_of_body q hq hq' n _ o' r' (by rw [List.length_drop]; simp at hn ⊢; omega) (valid_first hq' hv hf) hb
        refine ⟨(c :: t).take e.n ++ b, d, e :: es, ?_, hd, ?_, ?_⟩
        · rw [List.append_assoc, ← hl', List.take_append_drop]
        · have h1 := hloc b
          have hdr : ((c :: t).take e.n ++ b).drop e.n = b := by
            rw [List.drop_append_of_le_length (by rw [List.length_take]; omega)]
            simp
          rw [elems_some h1, hdr, hes]
          rfl
        · rw [first_put hq' hf]
          simp [outOf]

/-! ### between single quotes -/
theorem char_of_elems {b : List UInt8} {es : List El} (h : elems b 39 = some es) (h1 : es.length ≤ 1) (c : UInt8) (hc : c.toNat = 39) (x : List UInt8) : charB (b ++ c :: x) = some (outOf es, x) := by
  rcases elems_inv h with ⟨rfl, rfl⟩ | ⟨e, es', hf, ht, rfl⟩
  · simp [charB, hc, outOf]
  · match b, hf with
    | d :: t, hf =>
      have he : es' = [] := List.eq_nil_of_length_eq_zero (by rw [List.length_cons] at h1; omega)
      subst he
      obtain ⟨hp, hl, hloc⟩ := first_local hf
      obtain ⟨n39, n10⟩ := head_of_first (by decide) hf
      have hend : (d :: t).drop e.n = [] := by
        rcases elems_inv ht with ⟨h0, _⟩ | ⟨_, _, _, _, h0⟩
        · exact h0
        · cases h0
      have hu := uc_of_first (first_app hf (c :: x))
      have hm : multi (d :: t ++ c :: x) e = multi (d :: t) e := rfl
      rw [hm] at hu
      have hd : (d :: (t ++ c :: x)).drop e.n = c :: x := by
        rw [show d :: (t ++ c :: x) = (d :: t) ++ c :: x from rfl, List.drop_append_of_le_length hl, hend]; rfl
      show charB (d :: (t ++ c :: x)) = _
      unfold charB
      simp only [if_neg n39, if_neg n10]
      rw [show d :: (t ++ c :: x) = (d :: t) ++ c :: x from rfl, hu]
      simp only
      rw [show (d :: t) ++ c :: x = d :: (t ++ c :: x) from rfl, hd]
      simp [hc, first_put (by decide) hf, outOf]
theorem elems_of_char {l o r : List UInt8} (hv : validD l = true) (h : charB l = some (o, r)) :
    ∃ (b : List UInt8) (c : UInt8) (es : List El), l = b ++ c :: r ∧ c.toNat = 39 ∧ elems b 39 = some es ∧ es.length ≤ 1 ∧ o = outOf es := by
  match l with
  | [] => cases h
  | c :: t =>
    by_cases hcq : c.toNat = 39
    · simp only [charB, if_pos hcq] at h
      cases h
      exact ⟨[], c, [], rfl, hcq, elems_nil _, by simp, rfl⟩
    by_cases h10 : c.toNat = 10
    · simp [charB, h10] at h
    cases hu : uc (c :: t) 39 with
    | none => simp [charB, hcq, h10, hu] at h
    | some y =>
      obtain ⟨v, m, k⟩ := y
      have hg : 128 ≤ ((c :: t).getD 0 0).toNat → good (c :: t) = true := fun _ => (valid_good (by simp) hv).1
      obtain ⟨e, hf, rfl, rfl, rfl⟩ := first_of_uc (l := c :: t) (by simpa using h10) hg hu
      obtain ⟨hp, hl, hloc⟩ := first_local hf
      simp only [charB, if_neg hcq, if_neg h10, hu] at h
      split at h
      · cases h
      · rename_i d r' hdr
        split at h
        · rename_i hd
          simp only [Option.some.injEq, Prod.mk.injEq] at h
          obtain ⟨rfl, rfl⟩ := h
          refine ⟨(c :: t).take e.n, d, [e], ?_, hd, ?_, by simp, ?_⟩
          · rw [← hdr, List.take_append_drop]
          · have h1 := hloc []
            rw [List.append_nil] at h1
            rw [elems_some h1, List.drop_eq_nil_of_le (by rw [List.length_take]; omega), elems_nil]
            rfl
          · rw [first_put (by decide) hf]; simp [outOf]
        · cases h

/-! ### between back quotes -/
theorem raw_clean : ∀ (b : List UInt8) (c : UInt8) (x : List UInt8), b.any (fun c => c.toNat == 96) = false → c.toNat = 96 → rawB (b ++ c :: x) = some (b.filter (fun c => c.toNat != 13), x)
  | [], c, x, _, hc => by simp [rawB, hc]
  | d :: t, c, x, h, hc => by
    simp only [List.any_cons, Bool.or_eq_false_iff, beq_eq_false_iff_ne] at h
    simp only [List.cons_append, rawB, if_neg h.1, raw_clean t c x h.2 hc]
    by_cases h13 : d.toNat = 13
    · simp [h13]
    · simp [h13]
theorem raw_inv : ∀ (l o r : List UInt8), rawB l = some (o, r) → ∃ (b : List UInt8) (c : UInt8), l = b ++ c :: r ∧ c.toNat = 96 ∧ b.any (fun c => c.toNat == 96) = false ∧ o = b.filter (fun c => c.toNat != 13)
  | [], _, _, h => by cases h
  | d :: t, o, r, h => by
    unfold rawB at h
    split at h
    · rename_i hd
      cases h
      exact ⟨[], d, rfl, hd, rfl, rfl⟩
    · rename_i hd
      split at h
      · cases h
      · rename_i o' r' hr
        obtain ⟨b, c, rfl, hc, hb, rfl⟩ := raw_inv t o' r' hr
        simp only [Option.some.injEq, Prod.mk.injEq] at h
        obtain ⟨rfl, rfl⟩ := h
        refine ⟨d :: b, c, rfl, hc, by simp [hd, hb], ?_⟩
        by_cases h13 : d.toNat = 13 <;> simp [h13]

/-! ### the reference's Unquote -/
theorem mid_quoted (c d : UInt8) (b : List UInt8) : mid (c :: (b ++ [d])) = b := by simp [mid]
theorem getD_last (c d : UInt8) (b : List UInt8) : (c :: (b ++ [d])).getD ((c :: (b ++ [d])).length - 1) 0 = d := by
  simp [List.getD]
theorem kind_quoted (c : UInt8) (b : List UInt8) : kind (c :: (b ++ [c])) = if c.toNat = 34 then 1 else if c.toNat = 96 then 2 else if c.toNat = 39 then 3 else 0 := by
  unfold kind
  rw [if_neg]
  · rfl
  · rw [getD_last]
    simp
theorem quoted_of_kind {l : List UInt8} (h : kind l ≠ 0) : ∃ (c : UInt8) (b : List UInt8), l = c :: (b ++ [c]) ∧ (c.toNat = 34 ∨ c.toNat = 96 ∨ c.toNat = 39) := by
  unfold kind at h
  split at h
  · exact absurd rfl h
  rename_i hh
  have h2 : 2 ≤ l.length := by
    rcases Nat.lt_or_ge l.length 2 with hlt | hge
    · exact absurd (.inl hlt) hh
    · exact hge
  have he : l.getD 0 0 = l.getD (l.length - 1) 0 := Classical.byContradiction fun hne => hh (.inr hne)
  match l, h2 with
  | c :: t, h2 =>
    have hne : t ≠ [] := by rintro rfl; simp at h2
    obtain ⟨b, d, rfl⟩ : ∃ b d, t = b ++ [d] := ⟨t.dropLast, t.getLast hne, (List.dropLast_concat_getLast hne).symm⟩
    rw [getD_last] at he
    simp only [List.getD_cons_zero] at he
    subst he
    refine ⟨c, b, rfl, ?_⟩
    simp only [List.getD_cons_zero] at h
    by_cases a : c.toNat = 34
    · exact .inl a
    by_cases b : c.toNat = 96
    · exact .inr (.inl b)
    by_cases d : c.toNat = 39
    · exact .inr (.inr d)
    simp [a, b, d] at h
theorem specU_double {c : UInt8} (hc : c.toNat = 34) (b : List UInt8) : specU (c :: (b ++ [c])) = (elems b 34).map outOf := by
  have hk := kind_quoted c b
  rw [if_pos hc] at hk
  unfold specU
  rw [hk, mid_quoted, List.getD_cons_zero, hc]
  simp only [Nat.one_ne_zero, if_false, Nat.reduceEqDiff, false_and]
  cases elems b 34 <;> rfl
theorem specU_raw {c : UInt8} (hc : c.toNat = 96) (b : List UInt8) : specU (c :: (b ++ [c])) = rawS b := by
  have hk := kind_quoted c b
  rw [if_neg (by omega), if_pos hc] at hk
  unfold specU
  rw [hk, mid_quoted]
  simp
theorem specU_single {c : UInt8} (hc : c.toNat = 39) (b : List UInt8) : specU (c :: (b ++ [c])) = match elems b 39 with | none => none | some es => if 1 < es.length then none else some (outOf es) := by
  have hk := kind_quoted c b
  rw [if_neg (by omega), if_neg (by omega), if_pos hc] at hk
  unfold specU
  rw [hk, mid_quoted, List.getD_cons_zero, hc]
  simp only [Nat.reduceEqDiff, if_false, true_and]
  cases elems b 39 <;> rfl
theorem specU_kind {l o : List UInt8} (h : specU l = some o) : kind l ≠ 0 := by
  intro h0
  simp [specU, h0] at h

/-- ████ U1: WHAT IS A LITERAL BY THE REFERENCE, THE LIBRARY READS, WHATEVER STANDS BEHIND IT ████ -/
theorem libU_of_specU {a o : List UInt8} (h : specU a = some o) (x : List UInt8) : libU (a ++ x) = some (o, x) := by
  obtain ⟨c, b, rfl, hc⟩ := quoted_of_kind (specU_kind h)
  show libU (c :: ((b ++ [c]) ++ x)) = _
  rw [List.append_assoc, List.singleton_append]
  unfold libU
  rcases hc with hc | hc | hc
  · rw [specU_double hc] at h
    cases he : elems b 34 with
    | none => rw [he] at h; cases h
    | some es =>
      rw [he] at h
      cases h
      simp only [hc, Nat.reduceEqDiff, if_false, if_true]
      exact body_of_elems (by decide) (by decide) he hc x
  · rw [specU_raw hc] at h
    unfold rawS at h
    split at h
    · cases h
    · rename_i hany
      split at h
      · cases h
        simp only [hc, if_true]
        exact raw_clean b c x (by simpa using hany) hc
      · cases h
  · rw [specU_single hc] at h
    split at h
    · cases h
    · rename_i es he
      split at h
      · cases h
      · cases h
        simp only [hc, Nat.reduceEqDiff, if_false, if_true]
        exact char_of_elems he (by omega) c hc x
/-- ████ U2: OF A TEXT, WHAT THE LIBRARY READS IS A LITERAL BY THE REFERENCE ████ -/
theorem specU_of_libU {s o r : List UInt8} (hv : validD s = true) (h : libU s = some (o, r)) : ∃ a, s = a ++ r ∧ specU a = some o := by
  match s with
  | [] => cases h
  | c :: t =>
    unfold libU at h
    simp only at h
    split at h
    · rename_i hc
      obtain ⟨b, d, rfl, hd, hb, rfl⟩ := raw_inv t o r h
      obtain rfl : d = c := UInt8.toNat_inj.1 (hd.trans hc.symm)
      refine ⟨d :: (b ++ [d]), by simp, ?_⟩
      rw [validD_cons d _ (by omega)] at hv
      rw [specU_raw hc]
      unfold rawS
      rw [if_neg (by simpa using hb), if_pos (valid_split (by omega) hv).1]
    split at h
    · rename_i hc
      rw [validD_cons c _ (by omega)] at hv
      obtain ⟨b, d, es, rfl, hd, he, rfl⟩ := elems_of_body 34 (by decide) (by decide) t.length t o r (Nat.le_refl _) hv h
      obtain rfl : d = c := UInt8.toNat_inj.1 (hd.trans hc.symm)
      refine ⟨d :: (b ++ [d]), by simp, ?_⟩
      rw [specU_double hc, he]
      rfl
    split at h
    · rename_i hc
      rw [validD_cons c _ (by omega)] at hv
      obtain ⟨b, d, es, rfl, hd, he, h1, rfl⟩ := elems_of_char hv h
      obtain rfl : d = c := UInt8.toNat_inj.1 (hd.trans hc.symm)
      refine ⟨d :: (b ++ [d]), by simp, ?_⟩
      rw [specU_single hc, he]
      simp only
      rw [if_neg (by omega)]
    · cases h
/-- the library's Unquote, plainly -/
def unqL (l : List UInt8) : Option (List UInt8) := match libU l with
  | none => none
  | some (o, r) => if r = [] then some o else none
/-- the library's QuotedPrefix, plainly -/
def preL (l : List UInt8) : Option (List UInt8) := match libU l with
  | none => none
  | some (_, r) => some (l.take (l.length - r.length))
theorem unqL_eq {l : List UInt8} (hv : validD l = true) : unqL l = specU l := by
  unfold unqL
  cases h : libU l with
  | none =>
    cases hs : specU l with
    | none => rfl
    | some o =>
      have := libU_of_specU hs []
      rw [List.append_nil, h] at this
      cases this
  | some y =>
    obtain ⟨o, r⟩ := y
    obtain ⟨a, rfl, ha⟩ := specU_of_libU hv h
    simp only
    split
    · rename_i h0
      subst h0
      rw [List.append_nil, ha]
    · rename_i h0
      cases hs : specU (a ++ r) with
      | none => rfl
      | some o' =>
        have := libU_of_specU hs []
        rw [List.append_nil, h] at this
        simp only [Option.some.injEq, Prod.mk.injEq] at this
        exact absurd this.2 h0
end Go.Uq
