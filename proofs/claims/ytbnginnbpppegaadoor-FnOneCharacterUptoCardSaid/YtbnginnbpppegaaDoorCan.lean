import Derived.Test.YtbnginnbpppegaaDoorMain
import Derived.Test.YtbnginnbpppegaaDoorDec
namespace Go.Uq
open Go.Lib

/-! ### CanBackquote: the library's loop, the reference's, the corner -/
def canLF : Nat → List UInt8 → Bool
  | 0, _ => true
  | n + 1, l => if l = [] then true
    else if 1 < (decodeL l).2 then (if (decodeL l).1 = 65279 then false else canLF n (l.drop (decodeL l).2))
    else if (decodeL l).1 = 65533 then false
    else if ((decodeL l).1 < 32 ∧ (decodeL l).1 ≠ 9) ∨ (decodeL l).1 = 96 ∨ (decodeL l).1 = 127 then false
    else canLF n (l.drop (decodeL l).2)
def canL (l : List UInt8) : Bool := canLF l.length l
def ctl (r : Nat) : Bool := decide (r < 32 ∨ (127 ≤ r ∧ r < 160))
def canSF : Nat → List UInt8 → Bool
  | 0, _ => true
  | n + 1, l => if l = [] then true
    else if (decodeL l).1 = 96 ∨ (ctl (decodeL l).1 = true ∧ (decodeL l).1 ≠ 9) then false
    else canSF n (l.drop (decodeL l).2)
def canS (l : List UInt8) : Bool := canSF l.length l
def canSpec (l : List UInt8) : Bool := validD l && canS l
def bqcF : Nat → List UInt8 → Bool
  | 0, _ => false
  | n + 1, l => if l = [] then false
    else if good l = false then bqcF n (l.drop 1)
    else if (128 ≤ (decodeL l).1 ∧ (decodeL l).1 < 160) ∨ (decodeL l).1 = 65279 then true
    else bqcF n (l.drop (decodeL l).2)
def bqc (l : List UInt8) : Bool := bqcF l.length l

theorem canLF_fuel : ∀ (n m : Nat) (l : List UInt8), l.length ≤ n → l.length ≤ m → canLF n l = canLF m l
  | 0, m, l, hn, _ => by
    have : l = [] := List.eq_nil_of_length_eq_zero (by omega)
    subst this
    cases m <;> simp [canLF]
  | n + 1, 0, l, _, hm => by
    have : l = [] := List.eq_nil_of_length_eq_zero (by omega)
    subst this
    simp [canLF]
  | n + 1, m + 1, l, hn, hm => by
    have hw := decodeL_width l
    unfold canLF
    by_cases hne : l = []
    · simp [hne]
    · have hl : 0 < l.length := List.length_pos_iff.2 hne
      rw [canLF_fuel n m (l.drop (decodeL l).2) (by rw [List.length_drop]; omega) (by rw [List.length_drop]; omega)]
theorem canL_nil : canL [] = true := rfl
theorem canL_step (l : List UInt8) (hne : l ≠ []) : canL l = (if 1 < (decodeL l).2 then (if (decodeL l).1 = 65279 then false else canL (l.drop (decodeL l).2))
    else if (decodeL l).1 = 65533 then false
    else if ((decodeL l).1 < 32 ∧ (decodeL l).1 ≠ 9) ∨ (decodeL l).1 = 96 ∨ (decodeL l).1 = 127 then false
    else canL (l.drop (decodeL l).2)) := by
  have hl : 0 < l.length := List.length_pos_iff.2 hne
  have hw := decodeL_width l
  obtain ⟨n, hn⟩ : ∃ n, l.length = n + 1 := ⟨l.length - 1, by omega⟩
  unfold canL
  rw [canLF_fuel (l.drop (decodeL l).2).length n _ (Nat.le_refl _) (by rw [List.length_drop]; omega), hn]
  show (if l = [] then true else _) = _
  rw [if_neg hne]
theorem canSF_fuel : ∀ (n m : Nat) (l : List UInt8), l.length ≤ n → l.length ≤ m → canSF n l = canSF m l
  | 0, m, l, hn, _ => by
    have : l = [] := List.eq_nil_of_length_eq_zero (by omega)
    subst this
    cases m <;> simp [canSF]
  | n + 1, 0, l, _, hm => by
    have : l = [] := List.eq_nil_of_length_eq_zero (by omega)
    subst this
    simp [canSF]
  | n + 1, m + 1, l, hn, hm => by
    have hw := decodeL_width l
    unfold canSF
    by_cases hne : l = []
    · simp [hne]
    · have hl : 0 < l.length := List.length_pos_iff.2 hne
      rw [canSF_fuel n m (l.drop (decodeL l).2) (by rw [List.length_drop]; omega) (by rw [List.length_drop]; omega)]
theorem canS_step (l : List UInt8) (hne : l ≠ []) : canS l = (if (decodeL l).1 = 96 ∨ (ctl (decodeL l).1 = true ∧ (decodeL l).1 ≠ 9) then false else canS (l.drop (decodeL l).2)) := by
  have hl : 0 < l.length := List.length_pos_iff.2 hne
  have hw := decodeL_width l
  obtain ⟨n, hn⟩ : ∃ n, l.length = n + 1 := ⟨l.length - 1, by omega⟩
  unfold canS
  rw [canSF_fuel (l.drop (decodeL l).2).length n _ (Nat.le_refl _) (by rw [List.length_drop]; omega), hn]
  show (if l = [] then true else _) = _
  rw [if_neg hne]
theorem bqcF_fuel : ∀ (n m : Nat) (l : List UInt8), l.length ≤ n → l.length ≤ m → bqcF n l = bqcF m l
  | 0, m, l, hn, _ => by
    have : l = [] := List.eq_nil_of_length_eq_zero (by omega)
    subst this
    cases m <;> simp [bqcF]
  | n + 1, 0, l, _, hm => by
    have : l = [] := List.eq_nil_of_length_eq_zero (by omega)
    subst this
    simp [bqcF]
  | n + 1, m + 1, l, hn, hm => by
    have hw := decodeL_width l
    unfold bqcF
    by_cases hne : l = []
    · simp [hne]
    · have hl : 0 < l.length := List.length_pos_iff.2 hne
      rw [bqcF_fuel n m (l.drop (decodeL l).2) (by rw [List.length_drop]; omega) (by rw [List.length_drop]; omega), bqcF_fuel n m (l.drop 1) (by rw [List.length_drop]; omega) (by rw [List.length_drop]; omega)]
theorem bqc_step (l : List UInt8) (hne : l ≠ []) : bqc l = (if good l = false then bqc (l.drop 1) else if (128 ≤ (decodeL l).1 ∧ (decodeL l).1 < 160) ∨ (decodeL l).1 = 65279 then true else bqc (l.drop (decodeL l).2)) := by
  have hl : 0 < l.length := List.length_pos_iff.2 hne
  have hw := decodeL_width l
  obtain ⟨n, hn⟩ : ∃ n, l.length = n + 1 := ⟨l.length - 1, by omega⟩
  unfold bqc
  rw [bqcF_fuel (l.drop (decodeL l).2).length n _ (Nat.le_refl _) (by rw [List.length_drop]; omega), bqcF_fuel (l.drop 1).length n _ (Nat.le_refl _) (by rw [List.length_drop]; omega), hn]
  show (if l = [] then false else _) = _
  rw [if_neg hne]

/-- a character of one byte is that byte, below 128; one of several bytes is from 128 on -/
theorem char_size (l : List UInt8) (hg : good l = true) : (1 < (decodeL l).2 ∧ 128 ≤ (decodeL l).1) ∨ ((decodeL l).2 = 1 ∧ (decodeL l).1 < 128 ∧ (decodeL l).1 = (l.getD 0 0).toNat) := by
  rw [good_iff] at hg
  rcases decodeN_shape l.length (l.getD 0 0).toNat (l.getD 1 0).toNat (l.getD 2 0).toNat (l.getD 3 0).toNat with ⟨c, e⟩ | ⟨c1, c2, c3, cv, e⟩ | ⟨c1, c2, c3, c4, cv, cs, e⟩ | ⟨c1, c2, c3, c4, c5, cv, cw, e⟩ | e
  all_goals rw [← decodeL_N] at e
  all_goals rw [e] at hg ⊢
  all_goals dsimp only at hg ⊢
  · exact .inr ⟨rfl, c, rfl⟩
  · left; omega
  · left; omega
  · left; omega
  · exact absurd ⟨rfl, rfl⟩ hg
/-- FnCanBackquote -/
theorem canL_eq : ∀ (n : Nat) (l : List UInt8), l.length ≤ n → bqc l = false → canL l = canSpec l
  | 0, l, hn, _ => by
    have : l = [] := List.eq_nil_of_length_eq_zero (by omega)
    subst this; rfl
  | n + 1, l, hn, hb => by
    by_cases hne : l = []
    · subst hne; rfl
    have hw := decodeL_width l
    rw [bqc_step l hne] at hb
    cases hg : good l with
    | false =>
      obtain ⟨e1, e2⟩ := (good_neg l).1 hg
      unfold canSpec
      rw [canL_step l hne, validD_step l hne, if_neg (by omega), if_pos e1, if_pos ⟨e1, e2⟩]
      rfl
    | true =>
      rw [if_neg (by simp [hg])] at hb
      split at hb
      · cases hb
      rename_i hr
      have ih := canL_eq n (l.drop (decodeL l).2) (by rw [List.length_drop]; omega) hb
      unfold canSpec at ih ⊢
      rw [canL_step l hne, valid_of_good hne hg, canS_step l hne, ih]
      rcases char_size l hg with ⟨h1, h2⟩ | ⟨h1, h2, _⟩
      · rw [if_pos h1, if_neg (by omega), if_neg]
        simp only [ctl, decide_eq_true_eq]
        omega
      · rw [if_neg (by omega), if_neg (by omega)]
        by_cases hc : ((decodeL l).1 < 32 ∧ (decodeL l).1 ≠ 9) ∨ (decodeL l).1 = 96 ∨ (decodeL l).1 = 127
        · rw [if_pos hc, if_pos]
          · simp
          · simp only [ctl, decide_eq_true_eq]; omega
        · rw [if_neg hc, if_neg]
          simp only [ctl, decide_eq_true_eq]; omega
theorem canL_app : ∀ (n : Nat) (a b : List UInt8), a.length ≤ n → validD a = true → canL (a ++ b) = (canL a && canL b)
  | 0, a, b, hn, _ => by
    have : a = [] := List.eq_nil_of_length_eq_zero (by omega)
    subst this; rfl
  | n + 1, a, b, hn, hv => by
    by_cases hne : a = []
    · subst hne; rfl
    obtain ⟨hg, hd⟩ := valid_good hne hv
    have hw := decodeL_width a
    have hle := decodeL_le a hne
    have ih := canL_app n (a.drop (decodeL a).2) b (by rw [List.length_drop]; omega) hd
    rw [canL_step (a ++ b) (by simp [hne]), canL_step a hne, decodeL_app a b hne hg, List.drop_append_of_le_length hle, ih]
    repeat' split
    all_goals simp
/-- what can be backquoted has no back quote and no carriage return -/
theorem can_bytes : ∀ (n : Nat) (l : List UInt8), l.length ≤ n → canL l = true → ∀ b ∈ l, b.toNat ≠ 96 ∧ b.toNat ≠ 13
  | 0, l, hn, _ => by
    have : l = [] := List.eq_nil_of_length_eq_zero (by omega)
    subst this; simp
  | n + 1, l, hn, hc => by
    by_cases hne : l = []
    · subst hne; simp
    have hw := decodeL_width l
    have hle := decodeL_le l hne
    rw [canL_step l hne] at hc
    have hsplit : ∀ b ∈ l, b ∈ l.take (decodeL l).2 ∨ b ∈ l.drop (decodeL l).2 := fun b hb => by
      rw [← List.take_append_drop (decodeL l).2 l, List.mem_append] at hb; exact hb
    intro b hb
    have done : canL (l.drop (decodeL l).2) = true → b ∈ l.drop (decodeL l).2 → b.toNat ≠ 96 ∧ b.toNat ≠ 13 := fun h hm =>
      can_bytes n _ (by rw [List.length_drop]; omega) h b hm
    split at hc
    · rename_i h1
      split at hc
      · cases hc
      rcases hsplit b hb with hm | hm
      · obtain ⟨i, hi, rfl⟩ := List.getElem_of_mem hm
        rw [List.length_take] at hi
        have e : (l.take (decodeL l).2)[i]'(by rw [List.length_take]; exact hi) = l.getD i 0 := by simp [List.getD, show i < l.length by omega]
        rw [e]
        have h128 : 128 ≤ (l.getD i 0).toNat := by
          by_cases h0 : 0 < i
          · exact conts l i h0 (by omega)
          · obtain rfl : i = 0 := by omega
            rcases Nat.lt_or_ge (l.getD 0 0).toNat 128 with hlt | hge
            · rw [decodeL_N, decodeN_ascii _ _ _ _ _ hlt] at h1
              dsimp only at h1
              omega
            · exact hge
        omega
      · exact done hc hm
    · rename_i h1
      split at hc
      · cases hc
      rename_i h2
      split at hc
      · cases hc
      rename_i h3
      have hk : (decodeL l).2 = 1 := by omega
      have hg : good l = true := by rw [good_iff]; omega
      rcases hsplit b hb with hm | hm
      · rw [hk, takeA l (List.length_pos_iff.2 hne)] at hm
        simp only [List.mem_singleton] at hm
        subst hm
        rcases char_size l hg with h | ⟨_, _, e⟩
        · omega
        · rw [← e]; omega
      · exact done hc hm
end Go.Uq
