/-
  Plain facts on the library's unquote: what has no closing quote is none; what stands between double quotes without escapes stands for itself.
-/
import Derived.Test.YtbnginnbpppegaaDoorMain
import Derived.Test.YtbnginnbpppegaaDoorCan
namespace Go.Uq
open Go.Lib

theorem body_mem (q : Nat) : ∀ (n : Nat) (l o r : List UInt8), l.length ≤ n → body q l = some (o, r) → ∃ c ∈ l, c.toNat = q
  | 0, l, o, r, hn, h => by
    have : l = [] := List.eq_nil_of_length_eq_zero (by omega)
    subst this
    cases h
  | n + 1, [], o, r, _, h => by cases h
  | n + 1, c :: t, o, r, hn, h => by
    by_cases hcq : c.toNat = q
    · exact ⟨c, by simp, hcq⟩
    by_cases h10 : c.toNat = 10
    · rw [body_lf t hcq h10] at h; cases h
    cases hu : uc (c :: t) q with
    | none => rw [body_bad t hcq hu] at h; cases h
    | some y =>
      obtain ⟨v, m, k⟩ := y
      have hp := uc_pos hu
      rw [body_step t hcq h10 hu] at h
      cases hb : body q ((c :: t).drop k) with
      | none => rw [hb] at h; cases h
      | some y =>
        obtain ⟨o', r'⟩ := y
        obtain ⟨d, hd, hdq⟩ := body_mem q n _ o' r' (by rw [List.length_drop]; simp at hn ⊢; omega) hb
        exact ⟨d, List.mem_of_mem_drop hd, hdq⟩
theorem body_none {c : UInt8} {l : List UInt8} (h : ∀ x ∈ l, x ≠ c) : body c.toNat l = none := by
  cases hb : body c.toNat l with
  | none => rfl
  | some y =>
    obtain ⟨o, r⟩ := y
    obtain ⟨d, hd, hdq⟩ := body_mem c.toNat l.length l o r (Nat.le_refl _) hb
    exact absurd (UInt8.toNat_inj.1 hdq) (h d hd)
theorem charB_none {c : UInt8} {l : List UInt8} (hc : c.toNat = 39) (h : ∀ x ∈ l, x ≠ c) : charB l = none := by
  match l with
  | [] => rfl
  | d :: t =>
    have hd : d.toNat ≠ 39 := fun e => h d (by simp) (UInt8.toNat_inj.1 (e.trans hc.symm))
    unfold charB
    simp only [if_neg hd]
    split
    · rfl
    split
    · rfl
    · rename_i v m k hu
      split
      · rfl
      · rename_i e r hdr
        have he : e ∈ d :: t := List.mem_of_mem_drop (i := k) (by rw [hdr]; simp)
        rw [if_neg (fun e' => h e he (UInt8.toNat_inj.1 (e'.trans hc.symm)))]
theorem raw_none : ∀ {c : UInt8} {l : List UInt8}, c.toNat = 96 → (∀ x ∈ l, x ≠ c) → rawB l = none
  | c, [], _, _ => rfl
  | c, d :: t, hc, h => by
    have hd : d.toNat ≠ 96 := fun e => h d (by simp) (UInt8.toNat_inj.1 (e.trans hc.symm))
    have ih := raw_none (l := t) hc (fun x hx => h x (by simp [hx]))
    simp only [rawB, if_neg hd, ih]
/-- no closing quote, no literal -/
theorem libU_none {c : UInt8} {t : List UInt8} (h : ∀ x ∈ t, x ≠ c) : libU (c :: t) = none := by
  unfold libU
  simp only
  split
  · rename_i hc; exact raw_none hc h
  split
  · rename_i hc; rw [← hc]; exact body_none h
  split
  · rename_i hc; exact charB_none hc h
  · rfl
/-- characters that stand for themselves -/
theorem plain_elems (q : Nat) (hq : q < 128) : ∀ (n : Nat) (a : List UInt8), a.length ≤ n → validD a = true → (∀ x ∈ a, x.toNat ≠ q ∧ x.toNat ≠ 92 ∧ x.toNat ≠ 10) → ∃ es, elems a q = some es ∧ outOf es = a
  | 0, a, hn, _, _ => by
    have : a = [] := List.eq_nil_of_length_eq_zero (by omega)
    subst this
    exact ⟨[], elems_nil q, rfl⟩
  | n + 1, [], _, _, _ => ⟨[], elems_nil q, rfl⟩
  | n + 1, c :: t, hn, hv, h => by
    obtain ⟨hg, hd⟩ := valid_good (by simp) hv
    have hw := decodeL_width (c :: t)
    obtain ⟨h1, h2, h3⟩ := h c (by simp)
    have hf : first (c :: t) q = some ⟨(decodeL (c :: t)).1, false, (decodeL (c :: t)).2, false⟩ := by
      unfold first
      simp only
      rw [if_neg (fun hh => hh.elim h3 (fun hh => h1 hh.2)), if_neg h2, if_pos hg]
    obtain ⟨es, he, ho⟩ := plain_elems q hq n ((c :: t).drop (decodeL (c :: t)).2) (by rw [List.length_drop]; omega) hd (fun x hx => h x (List.mem_of_mem_drop hx))
    refine ⟨_, by rw [elems_some hf, he]; rfl, ?_⟩
    have hb : bytesOf ⟨(decodeL (c :: t)).1, false, (decodeL (c :: t)).2, false⟩ = (c :: t).take (decodeL (c :: t)).2 := by
      unfold bytesOf
      exact encode_decode (c :: t) (by simp) ((good_iff _).1 hg)
    simp only [outOf, List.flatMap_cons] at ho ⊢
    rw [hb, ho, List.take_append_drop]
theorem body_plain {c : UInt8} {a r : List UInt8} {q : Nat} (hq : q ≠ 0) (hq' : q < 128) (hc : c.toNat = q) (hv : validD a = true) (h : ∀ x ∈ a, x.toNat ≠ q ∧ x.toNat ≠ 92 ∧ x.toNat ≠ 10) : body q (a ++ c :: r) = some (a, r) := by
  obtain ⟨es, he, ho⟩ := plain_elems q hq' a.length a (Nat.le_refl _) hv h
  rw [body_of_elems hq hq' he hc r, ho]
/-- between single quotes, one character that stands for itself -/
theorem char_plain {c : UInt8} {a r : List UInt8} (hc : c.toNat = 39) (hne : a ≠ []) (hg : good a = true) (hl : (decodeL a).2 = a.length) (h : ∀ x ∈ a, x.toNat ≠ 39 ∧ x.toNat ≠ 92 ∧ x.toNat ≠ 10) : charB (a ++ c :: r) = some (a, r) := by
  match a, hne with
  | d :: t, _ =>
    obtain ⟨h1, h2, h3⟩ := h d (by simp)
    have hf : first (d :: t) 39 = some ⟨(decodeL (d :: t)).1, false, (decodeL (d :: t)).2, false⟩ := by
      unfold first
      simp only
      rw [if_neg (fun hh => hh.elim h3 (fun hh => h1 hh.2)), if_neg h2, if_pos hg]
    have he : elems (d :: t) 39 = some [⟨(decodeL (d :: t)).1, false, (decodeL (d :: t)).2, false⟩] := by
      rw [elems_some hf]
      simp only
      rw [hl, List.drop_length, elems_nil]
      rfl
    rw [char_of_elems he (by simp) c hc r]
    have hb : bytesOf ⟨(decodeL (d :: t)).1, false, (decodeL (d :: t)).2, false⟩ = d :: t := by
      unfold bytesOf
      simp only [Bool.false_eq_true, if_false]
      rw [encode_decode (d :: t) (by simp) ((good_iff _).1 hg), hl, List.take_length]
    simp [outOf, hb]
end Go.Uq
