import Derived.Test.YtbnginnbpppegaaDoorLocal
namespace Go.Uq
open Go.Lib

/-! ### texts -/
/-- behind the first byte of a character stand bytes from 128 on -/
theorem conts (l : List UInt8) (i : Nat) (h0 : 0 < i) (h : i < (decodeL l).2) : 128 ≤ (l.getD i 0).toNat := by
  rcases decodeN_shape l.length (l.getD 0 0).toNat (l.getD 1 0).toNat (l.getD 2 0).toNat (l.getD 3 0).toNat with ⟨c, e⟩ | ⟨c1, c2, c3, cv, e⟩ | ⟨c1, c2, c3, c4, cv, cs, e⟩ | ⟨c1, c2, c3, c4, c5, cv, cw, e⟩ | e
  all_goals rw [← decodeL_N] at e
  all_goals rw [e] at h
  all_goals dsimp only at h
  · omega
  · obtain rfl : i = 1 := by omega
    omega
  · have : i = 1 ∨ i = 2 := by omega
    rcases this with rfl | rfl <;> omega
  · have : i = 1 ∨ i = 2 ∨ i = 3 := by omega
    rcases this with rfl | rfl | rfl <;> omega
  · omega
theorem valid_good {l : List UInt8} (hne : l ≠ []) (h : validD l = true) : good l = true ∧ validD (l.drop (decodeL l).2) = true := by
  rw [validD_step l hne] at h
  split at h
  · cases h
  · rename_i hb
    exact ⟨(good_iff l).2 hb, h⟩
theorem valid_of_good {l : List UInt8} (hne : l ≠ []) (h : good l = true) : validD l = validD (l.drop (decodeL l).2) := by
  rw [validD_step l hne, if_neg ((good_iff l).1 h)]
theorem valid_app : ∀ (n : Nat) (a b : List UInt8), a.length ≤ n → validD a = true → validD (a ++ b) = validD b
  | 0, a, b, hn, _ => by
    have : a = [] := List.eq_nil_of_length_eq_zero (by omega)
    subst this; rfl
  | n + 1, a, b, hn, h => by
    by_cases hne : a = []
    · subst hne; rfl
    obtain ⟨hg, hd⟩ := valid_good hne h
    have hle := decodeL_le a hne
    have hw := decodeL_width a
    rw [valid_of_good (l := a ++ b) (by simp [hne]) (good_app a b hne hg), decodeL_app a b hne hg, List.drop_append_of_le_length hle]
    exact valid_app n _ b (by rw [List.length_drop]; omega) hd
theorem valid_append {a : List UInt8} (b : List UInt8) (h : validD a = true) : validD (a ++ b) = validD b := valid_app a.length a b (Nat.le_refl _) h
theorem valid_sp : ∀ (n : Nat) (a : List UInt8) (x : UInt8) (r : List UInt8), a.length ≤ n → x.toNat < 128 → validD (a ++ x :: r) = true → validD a = true
  | 0, a, x, r, hn, _, _ => by
    have : a = [] := List.eq_nil_of_length_eq_zero (by omega)
    subst this; rfl
  | n + 1, a, x, r, hn, hx, h => by
    by_cases hne : a = []
    · subst hne; rfl
    have hne' : a ++ x :: r ≠ [] := by simp
    obtain ⟨hg, hd⟩ := valid_good hne' h
    have hw := decodeL_width (a ++ x :: r)
    have hal : 0 < a.length := List.length_pos_iff.2 hne
    have hk : (decodeL (a ++ x :: r)).2 ≤ a.length := by
      have hat : ((a ++ x :: r).getD a.length 0) = x := by simp [List.getD]
      rcases Nat.lt_or_ge a.length (decodeL (a ++ x :: r)).2 with hlt | hge
      · exfalso
        have := conts (a ++ x :: r) a.length hal hlt
        rw [hat] at this
        omega
      · exact hge
    have hd1 := decodeL_local (a ++ x :: r) (a.drop (decodeL (a ++ x :: r)).2) hne' hg
    have hg1 := good_local (a ++ x :: r) (a.drop (decodeL (a ++ x :: r)).2) hne' hg
    rw [List.take_append_of_le_length hk, List.take_append_drop] at hd1 hg1
    rw [List.drop_append_of_le_length hk] at hd
    rw [valid_of_good hne hg1, hd1]
    exact valid_sp n _ x r (by rw [List.length_drop]; omega) hx hd
theorem valid_split {a : List UInt8} {x : UInt8} {r : List UInt8} (hx : x.toNat < 128) (h : validD (a ++ x :: r) = true) : validD a = true ∧ validD r = true := by
  have h1 := valid_sp a.length a x r (Nat.le_refl _) hx h
  rw [valid_append _ h1, validD_cons x r hx] at h
  exact ⟨h1, h⟩

/-! ### an escape is of ASCII -/
theorem digN_ascii {c base d : Nat} (h : digN c base = some d) : c < 128 := by
  unfold digN at h
  repeat' split at h
  all_goals first | omega | cases h
theorem num_ascii {base : Nat} : ∀ {n : Nat} {l : List UInt8} {a x : Nat}, num base n l a = some x → ∀ b ∈ l.take n, b.toNat < 128
  | 0, l, _, _, _ => by simp
  | n + 1, [], _, _, h => by cases h
  | n + 1, c :: t, a, x, h => by
    unfold num at h
    split at h
    · cases h
    · rename_i d hd
      have := num_ascii h
      intro b hb
      simp only [List.take_succ_cons, List.mem_cons] at hb
      rcases hb with rfl | hb
      · exact digN_ascii hd
      · exact this b hb
theorem simp1_lt {c r : Nat} (h : simp1 c = some r) : c < 128 ∧ r < 128 := by
  unfold simp1 at h
  repeat' split at h
  all_goals first | (cases h; omega) | cases h
theorem esc_ascii {l : List UInt8} {q : Nat} {e : El} (hq : q < 128) (h : esc l q = some e) : ∀ b ∈ l.take (e.n - 1), b.toNat < 128 := by
  match l with
  | [] => cases h
  | c :: t =>
    unfold esc at h
    simp only at h
    split at h
    · rename_i r hr
      cases h
      have := simp1_lt hr
      simp; omega
    split at h
    · cases h; simp; omega
    split at h
    · split at h
      · cases h
      · rename_i hx; cases h
        intro b hb
        simp only [List.take_succ_cons, List.mem_cons] at hb
        rcases hb with rfl | hb
        · omega
        · exact num_ascii hx b hb
    split at h
    · split at h
      · cases h
      · rename_i hx
        split at h
        · cases h
          intro b hb
          simp only [List.take_succ_cons, List.mem_cons] at hb
          rcases hb with rfl | hb
          · omega
          · exact num_ascii hx b hb
        · cases h
    split at h
    · split at h
      · cases h
      · rename_i hx
        split at h
        · cases h
          intro b hb
          simp only [List.take_succ_cons, List.mem_cons] at hb
          rcases hb with rfl | hb
          · omega
          · exact num_ascii hx b hb
        · cases h
    · split at h
      · cases h
      · rename_i hx
        split at h
        · cases h
          exact num_ascii hx
        · cases h
theorem valid_first {l : List UInt8} {q : Nat} {e : El} (hq : q < 128) (hv : validD l = true) (h : first l q = some e) : validD (l.drop e.n) = true := by
  match l with
  | [] => cases h
  | c :: t =>
    unfold first at h
    simp only at h
    split at h
    · cases h
    split at h
    · rename_i h92
      have ha := esc_ascii hq h
      have h2 := (esc_local h).1
      rw [validD_cons c t (by omega), validD_ascii (e.n - 1) t ha] at hv
      rw [show e.n = (e.n - 1) + 1 by omega, List.drop_succ_cons]
      exact hv
    · split at h
      · cases h
        exact (valid_good (by simp) hv).2
      · cases h

/-! ### what an element stands for -/
theorem encode_small (v : Nat) (h : v < 128) : encodeRune (v : Int) = [v.toUInt8] := by
  unfold encodeRune
  rw [encodeRuneZ_one (by omega) (by omega)]
  simp
theorem esc_kinds {l : List UInt8} {q : Nat} {e : El} (hq : q < 128) (h : esc l q = some e) : (e.b = true ∧ e.w = false ∧ e.v ≤ 255 ∧ e.n = 4) ∨ (e.b = false ∧ e.w = false ∧ e.v < 128 ∧ e.n = 2) ∨ (e.b = false ∧ e.w = true ∧ cp e.v = true ∧ 6 ≤ e.n) := by
  match l with
  | [] => cases h
  | c :: t =>
    unfold esc at h
    simp only at h
    split at h
    · rename_i r hr
      cases h
      exact .inr (.inl ⟨rfl, rfl, (simp1_lt hr).2, rfl⟩)
    split at h
    · cases h; exact .inr (.inl ⟨rfl, rfl, hq, rfl⟩)
    split at h
    · split at h
      · cases h
      · rename_i x hx; cases h
        have := num_lt hx
        exact .inl ⟨rfl, rfl, by simp at this ⊢; omega, rfl⟩
    split at h
    · split at h
      · cases h
      · split at h
        · rename_i hc; cases h; exact .inr (.inr ⟨rfl, rfl, hc, by simp⟩)
        · cases h
    split at h
    · split at h
      · cases h
      · split at h
        · rename_i hc; cases h; exact .inr (.inr ⟨rfl, rfl, hc, by simp⟩)
        · cases h
    · split at h
      · cases h
      · split at h
        · rename_i hc; cases h; exact .inl ⟨rfl, rfl, hc, rfl⟩
        · cases h
theorem first_put {l : List UInt8} {q : Nat} {e : El} (hq : q < 128) (h : first l q = some e) : put e.v (multi l e) = bytesOf e := by
  match l with
  | [] => cases h
  | c :: t =>
    unfold first at h
    simp only at h
    split at h
    · cases h
    split at h
    · rename_i h92
      have hm : multi (c :: t) e = e.w := by simp [multi, h92]
      rw [hm]
      unfold put bytesOf
      rcases esc_kinds hq h with ⟨hb, hw, _⟩ | ⟨hb, hw, hv, _⟩ | ⟨hb, hw, _⟩
      · rw [hb, hw]; simp
      · rw [hb, hw]; simp [encode_small _ hv]
      · rw [hb, hw]
        by_cases hv : e.v < 128
        · simp [hv, encode_small _ hv]
        · simp [hv]
    · split at h
      · rename_i hg
        have ha := fun h => decodeL_ascii c t h
        cases h
        unfold put bytesOf multi
        by_cases h128 : 128 ≤ c.toNat
        · by_cases hv : (decodeL (c :: t)).1 < 128
          · simp [hv, encode_small _ hv]
          · simp [hv, h128]
        · rw [ha (by omega)]
          simp [h128, encode_small c.toNat (by omega)]
      · cases h

/-! ### elements one by one -/
theorem elemsF_fuel (q : Nat) : ∀ (n m : Nat) (l : List UInt8), l.length ≤ n → l.length ≤ m → elemsF q n l = elemsF q m l
  | 0, m, l, hn, _ => by
    have : l = [] := List.eq_nil_of_length_eq_zero (by omega)
    subst this
    cases m <;> simp [elemsF]
  | n + 1, 0, l, _, hm => by
    have : l = [] := List.eq_nil_of_length_eq_zero (by omega)
    subst this
    simp [elemsF]
  | n + 1, m + 1, l, hn, hm => by
    unfold elemsF
    by_cases hne : l = []
    · simp [hne]
    rw [if_neg hne, if_neg hne]
    cases hf : first l q with
    | none => rfl
    | some e =>
      have := (first_local hf).1
      simp only
      rw [elemsF_fuel q n m (l.drop e.n) (by rw [List.length_drop]; omega) (by rw [List.length_drop]; omega)]
theorem elems_nil (q : Nat) : elems [] q = some [] := by simp [elems, elemsF]
theorem elems_none {l : List UInt8} {q : Nat} (hne : l ≠ []) (h : first l q = none) : elems l q = none := by
  have hl : 0 < l.length := List.length_pos_iff.2 hne
  obtain ⟨n, hn⟩ : ∃ n, l.length = n + 1 := ⟨l.length - 1, by omega⟩
  unfold elems
  rw [hn]
  simp only [elemsF, if_neg hne, h]
theorem elems_some {l : List UInt8} {q : Nat} {e : El} (h : first l q = some e) : elems l q = (elems (l.drop e.n) q).map (e :: ·) := by
  have hne : l ≠ [] := by rintro rfl; cases h
  have hl : 0 < l.length := List.length_pos_iff.2 hne
  obtain ⟨n, hn⟩ : ∃ n, l.length = n + 1 := ⟨l.length - 1, by omega⟩
  have := (first_local h).1
  unfold elems
  rw [hn]
  simp only [elemsF, if_neg hne, h]
  rw [elemsF_fuel q n (l.drop e.n).length (l.drop e.n) (by rw [List.length_drop]; omega) (Nat.le_refl _)]
  cases elemsF q (l.drop e.n).length (l.drop e.n) <;> rfl
/-- a list of elements, taken apart -/
theorem elems_inv {l : List UInt8} {q : Nat} {es : List El} (h : elems l q = some es) : (l = [] ∧ es = []) ∨ ∃ e es', first l q = some e ∧ elems (l.drop e.n) q = some es' ∧ es = e :: es' := by
  by_cases hne : l = []
  · subst hne
    rw [elems_nil] at h
    cases h
    exact .inl ⟨rfl, rfl⟩
  · right
    cases hf : first l q with
    | none => rw [elems_none hne hf] at h; cases h
    | some e =>
      rw [elems_some hf] at h
      cases ht : elems (l.drop e.n) q with
      | none => rw [ht] at h; cases h
      | some es' =>
        rw [ht] at h
        cases h
        exact ⟨e, es', rfl, ht, rfl⟩
theorem elems_app : ∀ (n : Nat) (a b : List UInt8) (q : Nat) (es : List El), a.length ≤ n → elems a q = some es → elems (a ++ b) q = (elems b q).map (es ++ ·)
  | 0, a, b, q, es, hn, h => by
    have : a = [] := List.eq_nil_of_length_eq_zero (by omega)
    subst this
    rw [elems_nil] at h
    cases h
    cases h' : elems b q <;> simp [h']
  | n + 1, a, b, q, es, hn, h => by
    rcases elems_inv h with ⟨rfl, rfl⟩ | ⟨e, es', hf, ht, rfl⟩
    · cases h' : elems b q <;> simp [h']
    · obtain ⟨h1, h2, _⟩ := first_local hf
      rw [elems_some (first_app hf b), List.drop_append_of_le_length h2, elems_app n _ b q es' (by rw [List.length_drop]; omega) ht]
      cases elems b q <;> simp
theorem elems_append {a : List UInt8} (b : List UInt8) {q : Nat} {es : List El} (h : elems a q = some es) : elems (a ++ b) q = (elems b q).map (es ++ ·) :=
  elems_app a.length a b q es (Nat.le_refl _) h

/-! ### the library's loop -/
theorem uc_pos {l : List UInt8} {q v k : Nat} {m : Bool} (h : uc l q = some (v, m, k)) : 1 ≤ k ∧ k ≤ l.length := by
  match l with
  | [] => cases h
  | c :: t =>
    unfold uc at h
    simp only at h
    split at h
    · cases h
    split at h
    · split at h
      · cases h
      · rename_i e he
        obtain ⟨h1, h2, _⟩ := esc_local he
        cases h
        exact ⟨by omega, by simp; omega⟩
    split at h
    · cases h; exact ⟨decodeL_width _, decodeL_le _ (by simp)⟩
    · cases h; simp
theorem bodyF_fuel (q : Nat) : ∀ (n m : Nat) (l : List UInt8), l.length ≤ n → l.length ≤ m → bodyF q n l = bodyF q m l
  | 0, m, l, hn, _ => by
    have : l = [] := List.eq_nil_of_length_eq_zero (by omega)
    subst this
    cases m <;> simp [bodyF]
  | n + 1, 0, l, _, hm => by
    have : l = [] := List.eq_nil_of_length_eq_zero (by omega)
    subst this
    simp [bodyF]
  | n + 1, m + 1, [], _, _ => by simp [bodyF]
  | n + 1, m + 1, c :: t, hn, hm => by
    unfold bodyF
    split
    · rfl
    split
    · rfl
    cases hu : uc (c :: t) q with
    | none => rfl
    | some x =>
      obtain ⟨v, mm, k⟩ := x
      have := uc_pos hu
      simp only
      rw [bodyF_fuel q n m ((c :: t).drop k) (by rw [List.length_drop]; omega) (by rw [List.length_drop]; omega)]
theorem body_nil (q : Nat) : body q [] = none := rfl
theorem body_end {q : Nat} {c : UInt8} (t : List UInt8) (h : c.toNat = q) : body q (c :: t) = some ([], t) := by
  unfold body
  simp only [List.length_cons, bodyF, if_pos h]
theorem body_lf {q : Nat} {c : UInt8} (t : List UInt8) (h : c.toNat ≠ q) (h10 : c.toNat = 10) : body q (c :: t) = none := by
  unfold body
  simp only [List.length_cons, bodyF, if_neg h, if_pos h10]
theorem body_bad {q : Nat} {c : UInt8} (t : List UInt8) (h : c.toNat ≠ q) (hu : uc (c :: t) q = none) : body q (c :: t) = none := by
  unfold body
  simp only [List.length_cons, bodyF, if_neg h, hu]
  split <;> rfl
theorem body_step {q v k : Nat} {m : Bool} {c : UInt8} (t : List UInt8) (h : c.toNat ≠ q) (h10 : c.toNat ≠ 10) (hu : uc (c :: t) q = some (v, m, k)) :
    body q (c :: t) = (body q ((c :: t).drop k)).map fun p => (put v m ++ p.1, p.2) := by
  have := uc_pos hu
  unfold body
  rw [bodyF_fuel q ((c :: t).drop k).length t.length ((c :: t).drop k) (Nat.le_refl _) (by rw [List.length_drop]; simp; omega)]
  simp only [List.length_cons, bodyF, if_neg h, if_neg h10, hu]
  cases bodyF q t.length ((c :: t).drop k) <;> rfl
end Go.Uq
