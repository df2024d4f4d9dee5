/-
  Plain facts for the laws on whole literals: cut short, behind one another, escaped quotes, one character, the shortest beginning.
-/
import Derived.Test.YtbnginnbpppegaaDoorHp
namespace Go.Proofs.YtbnginnbpppegaaDoor
open Go.RowKit Go.Uq

theorem specU_form {l o : List UInt8} (h : specU l = some o) : ∃ (c : UInt8) (b : List UInt8), l = c :: (b ++ [c]) ∧ (c.toNat = 34 ∨ c.toNat = 96 ∨ c.toNat = 39) := quoted_of_kind (specU_kind h)
theorem cut_last {c : UInt8} {b o : List UInt8} (hv : Lib.validD (c :: (b ++ [c])) = true) (hc : c.toNat < 128) (h : specU (c :: (b ++ [c])) = some o) : unqL (c :: b) = none := by
  have hv' : Lib.validD (c :: b) = true := (valid_split (a := c :: b) (x := c) (r := []) hc hv).1
  rw [unqL_eq hv']
  cases h' : specU (c :: b) with
  | none => rfl
  | some o' =>
    have h1 := libU_of_specU h' [c]
    have h2 := libU_of_specU h []
    rw [List.append_nil] at h2
    rw [show c :: b ++ [c] = c :: (b ++ [c]) from rfl, h2] at h1
    simp at h1
theorem unqL_more {l o : List UInt8} (x : UInt8) (h : specU l = some o) : unqL (l ++ [x]) = none := by
  unfold unqL
  rw [libU_of_specU h [x]]
  simp
theorem unqL_twice {c : UInt8} {b : List UInt8} (hc : c.toNat = 34 ∨ c.toNat = 96 ∨ c.toNat = 39) : unqL (c :: c :: (b ++ [c])) = none := by
  have h : libU (c :: c :: (b ++ [c])) = some ([], b ++ [c]) := by
    rcases hc with h | h | h
    · unfold libU; simp [h, body_end (b ++ [c]) h]
    · unfold libU; simp [h, rawB]
    · unfold libU; simp [h, charB]
  unfold unqL
  rw [h]
  simp
theorem bytes_le {l : List UInt8} {q : Nat} {e : El} (hq : q < 128) (h : first l q = some e) : (bytesOf e).length ≤ e.n := by
  have hp := (first_local h).1
  match l with
  | [] => cases h
  | c :: t =>
    unfold first at h
    simp only at h
    split at h
    · cases h
    split at h
    · rcases esc_kinds hq h with ⟨h0, _, _, h1⟩ | ⟨h0, _, hv, h1⟩ | ⟨h0, _, _, h1⟩
      · unfold bytesOf
        rw [if_pos h0]
        simp
        omega
      · unfold bytesOf
        rw [if_neg (by rw [h0]; decide), encode_small _ hv]
        simp
        omega
      · unfold bytesOf
        rw [if_neg (by rw [h0]; decide)]
        have : (Lib.encodeRune (e.v : Int)).length ≤ 4 := by unfold Lib.encodeRune; rw [List.length_map]; exact (Lib.encodeRuneZ_length _).2
        omega
    · split at h
      · rename_i hg
        cases h
        unfold bytesOf
        simp only [Bool.false_eq_true, if_false]
        rw [Lib.encode_decode (c :: t) (by simp) ((good_iff _).1 hg), List.length_take]
        omega
      · cases h
theorem out_le {q : Nat} (hq : q < 128) : ∀ (n : Nat) (l : List UInt8) (es : List El), l.length ≤ n → elems l q = some es → (outOf es).length ≤ l.length
  | 0, l, es, hn, h => by
    obtain rfl : l = [] := List.eq_nil_of_length_eq_zero (by omega)
    rw [elems_nil] at h
    cases h
    simp [outOf]
  | n + 1, l, es, hn, h => by
    rcases elems_inv h with ⟨_, rfl⟩ | ⟨e, es', hf, he, rfl⟩
    · simp [outOf]
    · have hl := first_local hf
      have h1 := bytes_le hq hf
      have h2 := out_le hq n _ _ (by rw [List.length_drop]; omega) he
      rw [List.length_drop] at h2
      have h3 : (outOf (e :: es')).length = (bytesOf e).length + (outOf es').length := by simp [outOf]
      omega
theorem specU_len {c : UInt8} {b o : List UInt8} (hc : c.toNat = 34 ∨ c.toNat = 96 ∨ c.toNat = 39) (h : specU (c :: (b ++ [c])) = some o) : o.length ≤ b.length := by
  rcases hc with h1 | h1 | h1
  · rw [specU_double h1] at h
    cases he : elems b 34 with
    | none => rw [he] at h; cases h
    | some es =>
      rw [he] at h
      cases h
      exact out_le (by decide) _ _ _ (Nat.le_refl _) he
  · rw [specU_raw h1] at h
    unfold rawS at h
    split at h
    · cases h
    split at h
    · cases h
      exact List.length_filter_le _ _
    · cases h
  · rw [specU_single h1] at h
    cases he : elems b 39 with
    | none => rw [he] at h; cases h
    | some es =>
      rw [he] at h
      simp only at h
      split at h
      · cases h
      · cases h
        exact out_le (by decide) _ _ _ (Nat.le_refl _) he
theorem specU_behind {a b x y : List UInt8} (ha : specU (34 :: (a ++ [34])) = some x) (hb : specU (34 :: (b ++ [34])) = some y) : specU (34 :: ((a ++ b) ++ [34])) = some (x ++ y) := by
  rw [specU_double (by decide)] at ha hb ⊢
  cases ha' : elems a 34 with
  | none => rw [ha'] at ha; cases ha
  | some es =>
    cases hb' : elems b 34 with
    | none => rw [hb'] at hb; cases hb
    | some fs =>
      rw [ha'] at ha
      rw [hb'] at hb
      cases ha
      cases hb
      rw [elems_append b ha', hb']
      simp [outOf]
theorem clean_elems {b : List UInt8} (hv : Lib.validD b = true) (h : ∀ x ∈ b, x.toNat ≠ 34 ∧ x.toNat ≠ 92 ∧ x.toNat ≠ 10) : ∃ es, elems b 34 = some es ∧ outOf es = b := plain_elems 34 (by decide) b.length b (Nat.le_refl _) hv h
theorem esc34 : elems [92, 34] 34 = some [⟨34, false, 2, false⟩] := by
  rw [elems_some (e := ⟨34, false, 2, false⟩) (by rfl)]
  rfl
theorem esc_out : outOf [⟨34, false, 2, false⟩] = [34] := by decide +kernel
theorem quotes1 {b : List UInt8} (hv : Lib.validD b = true) (h : ∀ x ∈ b, x.toNat ≠ 34 ∧ x.toNat ≠ 92 ∧ x.toNat ≠ 10) : specU (34 :: ((b ++ [92, 34] ++ b) ++ [34])) = some (b ++ [34] ++ b) := by
  obtain ⟨es, he, ho⟩ := clean_elems hv h
  rw [specU_double (by decide), List.append_assoc, elems_append _ he, elems_append _ esc34, he]
  have : outOf (es ++ ([⟨34, false, 2, false⟩] ++ es)) = outOf es ++ (outOf [⟨34, false, 2, false⟩] ++ outOf es) := by simp [outOf]
  simp only [Option.map_some, Option.some.injEq]
  rw [this, ho, esc_out, List.append_assoc]
theorem quotes2 {b : List UInt8} (hv : Lib.validD b = true) (h : ∀ x ∈ b, x.toNat ≠ 34 ∧ x.toNat ≠ 92 ∧ x.toNat ≠ 10) : unqL (34 :: ((b ++ [92, 39]) ++ [34])) = none := by
  obtain ⟨es, he, _⟩ := clean_elems hv h
  have hv' : Lib.validD (34 :: ((b ++ [92, 39]) ++ [34])) = true := by
    rw [show (34 : UInt8) :: ((b ++ [92, 39]) ++ [34]) = [34] ++ (b ++ [92, 39, 34]) by simp, valid_append _ (by decide +kernel), valid_append _ hv]
    decide +kernel
  rw [unqL_eq hv', specU_double (by decide), elems_append _ he, elems_none (by simp) (by rfl)]
  rfl
theorem quotes3 {b : List UInt8} (hv : Lib.validD b = true) (h : ∀ x ∈ b, x.toNat ≠ 34 ∧ x.toNat ≠ 92 ∧ x.toNat ≠ 10) : specU (34 :: ((b ++ [39]) ++ [34])) = some (b ++ [39]) := by
  refine specU_plain (by decide) (by rw [valid_append _ hv]; decide +kernel) ?_
  intro x hx
  rw [List.mem_append] at hx
  rcases hx with hx | hx
  · exact h x hx
  · simp at hx; subst hx; decide
theorem quotes4 {b : List UInt8} (hv : Lib.validD b = true) (h : ∀ x ∈ b, x.toNat ≠ 34 ∧ x.toNat ≠ 92 ∧ x.toNat ≠ 10) : unqL (34 :: ((b ++ [34]) ++ [34])) = none := unqL_more 34 (specU_plain (by decide) hv h)
theorem quotes5 {b : List UInt8} (hv : Lib.validD b = true) (h : ∀ x ∈ b, x.toNat ≠ 96) (h' : ∀ x ∈ b, x.toNat ≠ 13) : specU (96 :: ((b ++ [34, 39, 92]) ++ [96])) = some (b ++ [34, 39, 92]) := by
  rw [specU_rawText (by decide) (by rw [valid_append _ hv]; decide +kernel) ?_, filter_no13]
  · intro x hx
    rw [List.mem_append] at hx
    rcases hx with hx | hx
    · exact h' x hx
    · simp at hx; rcases hx with rfl | rfl | rfl <;> decide
  · intro x hx
    rw [List.mem_append] at hx
    rcases hx with hx | hx
    · exact h x hx
    · simp at hx; rcases hx with rfl | rfl | rfl <;> decide
/-- without quotes, both kinds of quotes read alike -/
theorem esc_alike {l : List UInt8} (h : ∀ x ∈ l, x.toNat ≠ 34 ∧ x.toNat ≠ 39) : esc l 34 = esc l 39 := by
  match l with
  | [] => rfl
  | c :: t =>
    obtain ⟨h1, h2⟩ := h c (by simp)
    unfold esc
    simp only [h1, h2, and_false, if_false]
theorem first_alike {l : List UInt8} (h : ∀ x ∈ l, x.toNat ≠ 34 ∧ x.toNat ≠ 39) : first l 34 = first l 39 := by
  match l with
  | [] => rfl
  | c :: t =>
    obtain ⟨h1, h2⟩ := h c (by simp)
    have he := esc_alike (l := t) (fun x hx => h x (by simp [hx]))
    unfold first
    simp only [h1, h2, and_false, or_false, he]
theorem elemsF_alike : ∀ (n : Nat) (l : List UInt8), (∀ x ∈ l, x.toNat ≠ 34 ∧ x.toNat ≠ 39) → elemsF 34 n l = elemsF 39 n l
  | 0, l, _ => rfl
  | n + 1, l, h => by
    unfold elemsF
    rw [first_alike h]
    split
    · rfl
    · split
      · rfl
      · rename_i e _
        rw [elemsF_alike n _ (fun x hx => h x (List.mem_of_mem_drop hx))]
theorem elems_alike {l : List UInt8} (h : ∀ x ∈ l, x.toNat ≠ 34 ∧ x.toNat ≠ 39) : elems l 34 = elems l 39 := elemsF_alike _ l h
/-- the reference's QuotedPrefix: so many beginnings are still to be looked at -/
def spqF (l : List UInt8) : Nat → Option (List UInt8)
  | 0 => none
  | k + 1 => if (specU (l.take (l.length - k))).isSome then some (l.take (l.length - k)) else spqF l k
def spq (l : List UInt8) : Option (List UInt8) := spqF l (l.length - 1)
theorem spqF_some {l p : List UInt8} : ∀ k, spqF l k = some p → ∃ n o, n ≤ l.length ∧ p = l.take n ∧ specU p = some o
  | 0, h => by cases h
  | k + 1, h => by
    unfold spqF at h
    split at h
    · rename_i hs
      cases h
      obtain ⟨o, ho⟩ := Option.isSome_iff_exists.1 hs
      exact ⟨_, o, by omega, rfl, ho⟩
    · exact spqF_some k h
theorem spqF_none {l : List UInt8} : ∀ k, spqF l k = none → ∀ n, n ≤ l.length → l.length < n + k → specU (l.take n) = none
  | 0, h, n, h1, h2 => by omega
  | k + 1, h, n, h1, h2 => by
    unfold spqF at h
    split at h
    · cases h
    · rename_i hs
      by_cases hn : n = l.length - k
      · subst hn
        cases hx : specU (l.take (l.length - k)) with
        | none => rfl
        | some o => rw [hx] at hs; exact absurd rfl hs
      · exact spqF_none k h n h1 (by omega)
theorem spq_some {l p : List UInt8} (h : spq l = some p) : ∃ o x, l = p ++ x ∧ specU p = some o := by
  obtain ⟨n, o, _, rfl, ho⟩ := spqF_some _ h
  exact ⟨o, l.drop n, (List.take_append_drop n l).symm, ho⟩
theorem specU_two {l o : List UInt8} (h : specU l = some o) : 2 ≤ l.length := by
  obtain ⟨c, b, rfl, _⟩ := specU_form h
  simp
theorem spq_none {l : List UInt8} (hv : Lib.validD l = true) (h : spq l = none) : preL l = none := by
  unfold preL
  cases hl : libU l with
  | none => rfl
  | some y =>
    obtain ⟨o, r⟩ := y
    obtain ⟨a, rfl, ha⟩ := specU_of_libU hv hl
    have h2 := specU_two ha
    have := spqF_none _ h a.length (by simp) (by simp; omega)
    rw [List.take_left, ha] at this
    cases this
theorem spq_pre {l p : List UInt8} (h : spq l = some p) : preL l = some p := by
  obtain ⟨o, x, rfl, ho⟩ := spq_some h
  exact preL_of_specU ho x
end Go.Proofs.YtbnginnbpppegaaDoor
