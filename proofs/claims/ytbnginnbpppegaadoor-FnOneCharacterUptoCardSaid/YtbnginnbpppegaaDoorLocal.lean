import Derived.Test.YtbnginnbpppegaaDoorPlain
namespace Go.Uq
open Go.Lib

theorem decodeN_two' (n b0 b1 b2 b3 : Nat) (h0 : b0 / 32 = 6) (hn : 1 < n) (h1 : b1 / 64 = 2) (hv : 128 ≤ b0 % 32 * 64 + b1 % 64) : decodeN n b0 b1 b2 b3 = (b0 % 32 * 64 + b1 % 64, 2) := by
  unfold decodeN
  rw [if_neg (by omega), if_pos ⟨h0, hn, h1⟩, if_pos hv]
theorem decodeN_three' (n b0 b1 b2 b3 : Nat) (h0 : b0 / 16 = 14) (hn : 2 < n) (h1 : b1 / 64 = 2) (h2 : b2 / 64 = 2) (hv : 2048 ≤ b0 % 16 * 4096 + b1 % 64 * 64 + b2 % 64)
    (hs : b0 % 16 * 4096 + b1 % 64 * 64 + b2 % 64 < 55296 ∨ 57344 ≤ b0 % 16 * 4096 + b1 % 64 * 64 + b2 % 64) : decodeN n b0 b1 b2 b3 = (b0 % 16 * 4096 + b1 % 64 * 64 + b2 % 64, 3) := by
  unfold decodeN
  rw [if_neg (by omega), if_neg (by omega), if_pos ⟨h0, ⟨by omega, h1⟩, hn, h2⟩, if_pos ⟨hv, by omega⟩]
theorem decodeN_four' (n b0 b1 b2 b3 : Nat) (h0 : b0 / 8 = 30) (hn : 3 < n) (h1 : b1 / 64 = 2) (h2 : b2 / 64 = 2) (h3 : b3 / 64 = 2) (hv : 65536 ≤ b0 % 8 * 262144 + b1 % 64 * 4096 + b2 % 64 * 64 + b3 % 64)
    (hs : b0 % 8 * 262144 + b1 % 64 * 4096 + b2 % 64 * 64 + b3 % 64 ≤ 1114111) : decodeN n b0 b1 b2 b3 = (b0 % 8 * 262144 + b1 % 64 * 4096 + b2 % 64 * 64 + b3 % 64, 4) := by
  unfold decodeN
  rw [if_neg (by omega), if_neg (by omega), if_neg (by omega), if_pos ⟨h0, ⟨by omega, h1⟩, ⟨by omega, h2⟩, hn, h3⟩, if_pos ⟨hv, by omega⟩]
theorem getD_tk (l x : List UInt8) (k i : Nat) (hi : i < k) (hl : i < l.length) : (l.take k ++ x).getD i 0 = l.getD i 0 := by
  simp only [List.getD]
  rw [List.getElem?_append_left (by rw [List.length_take]; omega), List.getElem?_take_of_lt hi]
theorem good_iff (l : List UInt8) : good l = true ↔ ¬ ((decodeL l).1 = 65533 ∧ (decodeL l).2 = 1) := by unfold good; rw [Bool.not_eq_true', decide_eq_false_iff_not]
theorem good_neg (l : List UInt8) : good l = false ↔ ((decodeL l).1 = 65533 ∧ (decodeL l).2 = 1) := by simp [good]

/-- A character is read off its own bytes alone. -/
theorem decodeL_local (l x : List UInt8) (hne : l ≠ []) (hg : good l = true) : decodeL (l.take (decodeL l).2 ++ x) = decodeL l := by
  have hl : 0 < l.length := List.length_pos_iff.2 hne
  have hle := decodeL_le l hne
  rw [good_iff] at hg
  rcases decodeN_shape l.length (l.getD 0 0).toNat (l.getD 1 0).toNat (l.getD 2 0).toNat (l.getD 3 0).toNat with ⟨c, e⟩ | ⟨c1, c2, c3, cv, e⟩ | ⟨c1, c2, c3, c4, cv, cs, e⟩ | ⟨c1, c2, c3, c4, c5, cv, cw, e⟩ | e
  all_goals rw [← decodeL_N] at e
  all_goals rw [e] at hle hg ⊢
  all_goals rw [decodeL_N]
  all_goals dsimp only at hle hg ⊢
  · rw [getD_tk l x 1 0 (by omega) (by omega)]; exact decodeN_ascii _ _ _ _ _ c
  · rw [getD_tk l x 2 0 (by omega) (by omega), getD_tk l x 2 1 (by omega) (by omega)]
    exact decodeN_two' _ _ _ _ _ c1 (by simp; omega) c3 cv
  · rw [getD_tk l x 3 0 (by omega) (by omega), getD_tk l x 3 1 (by omega) (by omega), getD_tk l x 3 2 (by omega) (by omega)]
    exact decodeN_three' _ _ _ _ _ c1 (by simp; omega) c3 c4 cv cs
  · rw [getD_tk l x 4 0 (by omega) (by omega), getD_tk l x 4 1 (by omega) (by omega), getD_tk l x 4 2 (by omega) (by omega), getD_tk l x 4 3 (by omega) (by omega)]
    exact decodeN_four' _ _ _ _ _ c1 (by simp; omega) c3 c4 c5 cv cw
  · exact absurd ⟨rfl, rfl⟩ hg
theorem good_local (l x : List UInt8) (hne : l ≠ []) (hg : good l = true) : good (l.take (decodeL l).2 ++ x) = true := by
  have e := decodeL_local l x hne hg
  rw [good_iff] at hg ⊢
  rw [e]; exact hg
/-- what begins with a character, and goes on -/
theorem decodeL_app (l x : List UInt8) (hne : l ≠ []) (hg : good l = true) : decodeL (l ++ x) = decodeL l := by
  have h := decodeL_local l (l.drop (decodeL l).2 ++ x) hne hg
  rwa [← List.append_assoc, List.take_append_drop] at h
theorem good_app (l x : List UInt8) (hne : l ≠ []) (hg : good l = true) : good (l ++ x) = true := by
  have e := decodeL_app l x hne hg
  rw [good_iff] at hg ⊢
  rw [e]; exact hg

/-! ### digits -/
theorem digN_lt {c base d : Nat} (h : digN c base = some d) : d < base := by
  unfold digN at h
  repeat' split at h
  all_goals first | (cases h; assumption) | cases h
theorem num_len {base : Nat} : ∀ {n : Nat} {l : List UInt8} {a x : Nat}, num base n l a = some x → n ≤ l.length
  | 0, _, _, _, _ => Nat.zero_le _
  | n + 1, [], _, _, h => by cases h
  | n + 1, c :: t, a, x, h => by
    unfold num at h
    split at h
    · cases h
    · have := num_len h
      simp; omega
theorem num_app {base : Nat} (y : List UInt8) : ∀ {n : Nat} {l : List UInt8} (a : Nat), n ≤ l.length → num base n (l ++ y) a = num base n l a
  | 0, _, _, _ => by unfold num; rfl
  | n + 1, [], _, h => by simp at h
  | n + 1, c :: t, a, h => by
    show num base (n + 1) (c :: (t ++ y)) a = _
    unfold num
    split
    · rfl
    · exact num_app y _ (by simpa using h)
theorem num_take {base : Nat} (y : List UInt8) {n k : Nat} {l : List UInt8} (a : Nat) (hk : n ≤ k) (h : n ≤ l.length) : num base n (l.take k ++ y) a = num base n l a := by
  rw [num_app y a (by rw [List.length_take]; omega)]
  have := num_app (base := base) (l.drop k) (n := n) (l := l.take k) a (by rw [List.length_take]; omega)
  rw [List.take_append_drop] at this
  exact this.symm
/-- the first digits of a number do not pass its place -/
theorem num_lt {base : Nat} : ∀ {n : Nat} {l : List UInt8} {a x : Nat}, num base n l a = some x → x < (a + 1) * base ^ n
  | 0, l, a, x, h => by unfold num at h; cases h; simp
  | n + 1, [], _, _, h => by cases h
  | n + 1, c :: t, a, x, h => by
    unfold num at h
    split at h
    · cases h
    · rename_i d hd
      have h1 := num_lt h
      have h2 := digN_lt hd
      have h3 : a * base + d + 1 ≤ (a + 1) * base := by rw [Nat.succ_mul]; omega
      calc x < (a * base + d + 1) * base ^ n := h1
        _ ≤ (a + 1) * base * base ^ n := Nat.mul_le_mul_right _ h3
        _ = (a + 1) * base ^ (n + 1) := by rw [Nat.mul_assoc, Nat.pow_succ, Nat.mul_comm base]

/-! ### escapes -/
theorem take_cons' {α : Type} (c : α) (t : List α) (k : Nat) (h : 1 ≤ k) : (c :: t).take k = c :: t.take (k - 1) := by
  obtain ⟨j, rfl⟩ : ∃ j, k = j + 1 := ⟨k - 1, by omega⟩
  simp
/-- An escape takes its bytes, and reads no other. -/
theorem esc_local {l : List UInt8} {q : Nat} {e : El} (h : esc l q = some e) : 2 ≤ e.n ∧ e.n - 1 ≤ l.length ∧ ∀ x, esc (l.take (e.n - 1) ++ x) q = some e := by
  match l with
  | [] => cases h
  | c :: t =>
    have key : ∀ k, 1 ≤ k → ∀ x, esc ((c :: t).take k ++ x) q = esc (c :: (t.take (k - 1) ++ x)) q := fun k hk x => by rw [take_cons' c t k hk]; rfl
    unfold esc at h
    simp only at h
    split at h
    · rename_i r hr
      cases h
      refine ⟨by simp, by simp, fun x => ?_⟩
      rw [key _ (by simp)]
      unfold esc
      simp [hr]
    rename_i hr
    split at h
    · rename_i hq
      cases h
      refine ⟨by simp, by simp, fun x => ?_⟩
      rw [key _ (by simp)]
      unfold esc
      simp only [hr, if_pos hq]
    rename_i hq
    split at h
    · rename_i hc
      split at h
      · cases h
      · rename_i x' hx
        have hl := num_len hx
        cases h
        refine ⟨by simp, by simp; omega, fun x => ?_⟩
        rw [key _ (by simp)]
        unfold esc
        simp only [hr, if_neg hq, if_pos hc]
        rw [num_take x 0 (by simp) hl, hx]
    rename_i hc
    split at h
    · rename_i hu
      split at h
      · cases h
      · rename_i x' hx
        have hl := num_len hx
        split at h
        · rename_i hcp
          cases h
          refine ⟨by simp, by simp; omega, fun x => ?_⟩
          rw [key _ (by simp)]
          unfold esc
          simp only [hr, if_neg hq, if_neg hc, if_pos hu]
          rw [num_take x 0 (by simp) hl, hx]
          simp only [if_pos hcp]
        · cases h
    rename_i hu
    split at h
    · rename_i hU
      split at h
      · cases h
      · rename_i x' hx
        have hl := num_len hx
        split at h
        · rename_i hcp
          cases h
          refine ⟨by simp, by simp; omega, fun x => ?_⟩
          rw [key _ (by simp)]
          unfold esc
          simp only [hr, if_neg hq, if_neg hc, if_neg hu, if_pos hU]
          rw [num_take x 0 (by simp) hl, hx]
          simp only [if_pos hcp]
        · cases h
    · rename_i hU
      split at h
      · cases h
      · rename_i x' hx
        have hl := num_len hx
        split at h
        · rename_i h255
          cases h
          refine ⟨by simp, by simp at hl ⊢; omega, fun x => ?_⟩
          rw [key _ (by simp)]
          unfold esc
          simp only [hr, if_neg hq, if_neg hc, if_neg hu, if_neg hU]
          rw [show c :: (t.take (4 - 1 - 1) ++ x) = (c :: t).take 3 ++ x from rfl, num_take x 0 (by simp) hl, hx]
          simp only [if_pos h255]
        · cases h

theorem first_local {l : List UInt8} {q : Nat} {e : El} (h : first l q = some e) : 1 ≤ e.n ∧ e.n ≤ l.length ∧ ∀ x, first (l.take e.n ++ x) q = some e := by
  match l with
  | [] => cases h
  | c :: t =>
    unfold first at h
    simp only at h
    split at h
    · cases h
    rename_i h10
    split at h
    · rename_i h92
      obtain ⟨h2, hl, hx⟩ := esc_local h
      refine ⟨by omega, by simp; omega, fun x => ?_⟩
      rw [take_cons' c t e.n (by omega)]
      show first (c :: (t.take (e.n - 1) ++ x)) q = _
      unfold first
      simp only [if_neg h10, if_pos h92]
      exact hx x
    · rename_i h92
      split at h
      · rename_i hg
        have hw := decodeL_width (c :: t)
        have hle := decodeL_le (c :: t) (by simp)
        have hd := fun x => decodeL_local (c :: t) x (by simp) hg
        have hgl := fun x => good_local (c :: t) x (by simp) hg
        cases h
        simp only
        refine ⟨hw, hle, fun x => ?_⟩
        have e1 := hd x
        have e2 := hgl x
        rw [take_cons' c t _ hw] at e1 e2 ⊢
        show first (c :: (t.take ((decodeL (c :: t)).2 - 1) ++ x)) q = _
        rw [List.cons_append] at e1 e2
        unfold first
        simp only [if_neg h10, if_neg h92, if_pos e2, e1]
      · cases h
theorem first_app {l : List UInt8} {q : Nat} {e : El} (h : first l q = some e) (x : List UInt8) : first (l ++ x) q = some e := by
  have h1 := (first_local h).2.2 (l.drop e.n ++ x)
  rwa [← List.append_assoc, List.take_append_drop] at h1

/-- what the reference reads, the library reads -/
def multi (l : List UInt8) (e : El) : Bool := decide (128 ≤ (l.getD 0 0).toNat) || e.w
theorem uc_of_first {l : List UInt8} {q : Nat} {e : El} (h : first l q = some e) : uc l q = some (e.v, multi l e, e.n) := by
  match l with
  | [] => cases h
  | c :: t =>
    unfold first at h
    simp only at h
    split at h
    · cases h
    rename_i h10
    have hq : ¬ (q ≠ 0 ∧ c.toNat = q) := fun hh => h10 (.inr hh)
    split at h
    · rename_i h92
      unfold uc
      simp only [if_neg hq, if_pos h92, h]
      simp [multi, h92]
    · rename_i h92
      split at h
      · rename_i hg
        unfold uc
        by_cases h128 : 128 ≤ c.toNat
        · cases h
          simp only [if_neg hq, if_neg h92, if_pos h128]
          simp [multi, h128]
        · have := decodeL_ascii c t (by omega)
          cases h
          simp only [if_neg hq, if_neg h92, if_neg h128, this]
          simp [multi, h128]
      · cases h
/-- and the other way, where the text begins with no line feed, and with a character where it begins beyond ASCII -/
theorem first_of_uc {l : List UInt8} {q : Nat} (hl : (l.getD 0 0).toNat ≠ 10) (hg : 128 ≤ (l.getD 0 0).toNat → good l = true) {v k : Nat} {m : Bool} (h : uc l q = some (v, m, k)) :
    ∃ e, first l q = some e ∧ e.v = v ∧ e.n = k ∧ m = multi l e := by
  match l with
  | [] => cases h
  | c :: t =>
    simp only [List.getD_cons_zero] at hl hg
    unfold uc at h
    simp only at h
    split at h
    · cases h
    rename_i hq
    have h10 : ¬ (c.toNat = 10 ∨ (q ≠ 0 ∧ c.toNat = q)) := fun hh => hh.elim hl hq
    split at h
    · rename_i h92
      split at h
      · cases h
      · rename_i e he
        cases h
        refine ⟨e, ?_, rfl, rfl, by simp [multi, h92]⟩
        unfold first
        simp only [if_neg h10, if_pos h92]
        exact he
    · rename_i h92
      split at h
      · rename_i h128
        cases h
        refine ⟨⟨(decodeL (c :: t)).1, false, (decodeL (c :: t)).2, false⟩, ?_, rfl, rfl, by simp [multi, h128]⟩
        unfold first
        simp only [if_neg h10, if_neg h92, if_pos (hg h128)]
      · rename_i h128
        have hd := decodeL_ascii c t (by omega)
        have hgd : good (c :: t) = true := by rw [good_iff, hd]; simp; omega
        cases h
        refine ⟨⟨c.toNat, false, 1, false⟩, ?_, rfl, rfl, by simp [multi, h128]⟩
        unfold first
        simp only [if_neg h10, if_neg h92, if_pos hgd, hd]
end Go.Uq
