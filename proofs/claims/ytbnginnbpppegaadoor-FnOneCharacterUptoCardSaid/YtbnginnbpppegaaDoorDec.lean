import Derived.Test.YtbnginnbpppegaaDoorText
namespace Go.Uq
open Go.Lib

/-- spec.Encode -/
def encS (r : Int) : List UInt8 := if 0 ≤ r ∧ r ≤ 1114111 ∧ (r < 55296 ∨ 57343 < r) then encodeRune r else []
/-- spec.Decode -/
def specDec (l : List UInt8) : Nat × Nat := if l = [] then (0, 0) else if good l then decodeL l else (0, 0)
def byteZ (l : List UInt8) (i : Nat) : Int := ((l.getD i 0).toNat : Int)
def offZ (k : Nat) : Int := if k = 2 then 192 else if k = 3 then 224 else if k = 4 then 240 else 0
/-- the number that spec.Decode reckons out of the first n + 1 bytes -/
def candI (l : List UInt8) (o : Int) : Nat → Int
  | 0 => byteZ l 0 - o
  | n + 1 => candI l o n * 64 + byteZ l (n + 1) - 128
def cand (l : List UInt8) (k : Nat) : Int := candI l (offZ k) (k - 1)
def fits (l : List UInt8) (k : Nat) : Bool := decide (0 ≤ cand l k ∧ cand l k ≤ 1114111 ∧ encS (cand l k) = l.take k)
theorem byteZ_bd (l : List UInt8) (i : Nat) : 0 ≤ byteZ l i ∧ byteZ l i < 256 := by
  unfold byteZ
  have := (l.getD i 0).toNat_lt
  omega
theorem enc_inj2 {a b : Int} {x y : UInt8} (ha : 0 ≤ a ∧ a < 256) (hb : 0 ≤ b ∧ b < 256) (h : [a, b].map (fun x : Int => x.toNat.toUInt8) = [x, y]) : a = x.toNat ∧ b = y.toNat := by
  simp only [List.map_cons, List.map_nil, List.cons.injEq, and_true] at h
  obtain ⟨rfl, rfl⟩ := h
  simp only [Nat.toUInt8_eq, UInt8.toNat_ofNat']
  omega
theorem enc_inj3 {a b c : Int} {x y z : UInt8} (ha : 0 ≤ a ∧ a < 256) (hb : 0 ≤ b ∧ b < 256) (hc : 0 ≤ c ∧ c < 256) (h : [a, b, c].map (fun x : Int => x.toNat.toUInt8) = [x, y, z]) : a = x.toNat ∧ b = y.toNat ∧ c = z.toNat := by
  simp only [List.map_cons, List.map_nil, List.cons.injEq, and_true] at h
  obtain ⟨rfl, rfl, rfl⟩ := h
  simp only [Nat.toUInt8_eq, UInt8.toNat_ofNat']
  omega
theorem enc_inj4 {a b c d : Int} {x y z u : UInt8} (ha : 0 ≤ a ∧ a < 256) (hb : 0 ≤ b ∧ b < 256) (hc : 0 ≤ c ∧ c < 256) (hd : 0 ≤ d ∧ d < 256) (h : [a, b, c, d].map (fun x : Int => x.toNat.toUInt8) = [x, y, z, u]) :
    a = x.toNat ∧ b = y.toNat ∧ c = z.toNat ∧ d = u.toNat := by
  simp only [List.map_cons, List.map_nil, List.cons.injEq, and_true] at h
  obtain ⟨rfl, rfl, rfl, rfl⟩ := h
  simp only [Nat.toUInt8_eq, UInt8.toNat_ofNat']
  omega
theorem encS_len (r : Int) (h : encS r ≠ []) : encS r = encodeRune r ∧ (0 ≤ r ∧ r ≤ 1114111 ∧ (r < 55296 ∨ 57343 < r)) := by
  unfold encS at h ⊢
  split
  · rename_i hh; exact ⟨rfl, hh⟩
  · rename_i hh; rw [if_neg hh] at h; exact absurd rfl h
theorem take_ne (l : List UInt8) (k : Nat) (h1 : 1 ≤ k) (hl : k ≤ l.length) : l.take k ≠ [] := by
  intro e
  have := congrArg List.length e
  rw [List.length_take, List.length_nil] at this
  omega
theorem cand1 (l : List UInt8) : cand l 1 = byteZ l 0 := by simp [cand, candI, offZ]
theorem cand2 (l : List UInt8) : cand l 2 = (byteZ l 0 - 192) * 64 + byteZ l 1 - 128 := by simp [cand, candI, offZ]
theorem cand3 (l : List UInt8) : cand l 3 = ((byteZ l 0 - 224) * 64 + byteZ l 1 - 128) * 64 + byteZ l 2 - 128 := by simp [cand, candI, offZ]
theorem cand4 (l : List UInt8) : cand l 4 = (((byteZ l 0 - 240) * 64 + byteZ l 1 - 128) * 64 + byteZ l 2 - 128) * 64 + byteZ l 3 - 128 := by simp [cand, candI, offZ]
theorem fits_one {l : List UInt8} (hl : 1 ≤ l.length) (h : fits l 1 = true) : decodeL l = ((l.getD 0 0).toNat, 1) := by
  simp only [fits, decide_eq_true_eq, cand1] at h
  obtain ⟨h0, h1, he⟩ := h
  have hne : encS (byteZ l 0) ≠ [] := by rw [he]; exact take_ne _ _ (by omega) hl
  obtain ⟨e1, hcp⟩ := encS_len _ hne
  rw [e1, takeA l (by omega)] at he
  have hb := byteZ_bd l 0
  by_cases hc : byteZ l 0 ≤ 127
  · rw [decodeL_N]; exact decodeN_ascii _ _ _ _ _ (by unfold byteZ at hc; omega)
  · unfold encodeRune at he
    rw [encodeRuneZ_two (by omega) (by omega)] at he
    simp at he
theorem fits_two {l : List UInt8} (hl : 2 ≤ l.length) (h : fits l 2 = true) : decodeL l = ((cand l 2).toNat, 2) := by
  simp only [fits, decide_eq_true_eq] at h
  obtain ⟨h0, h1, he⟩ := h
  have hne : encS (cand l 2) ≠ [] := by rw [he]; exact take_ne _ _ (by omega) hl
  obtain ⟨e1, hcp⟩ := encS_len _ hne
  rw [e1, takeB l (by omega)] at he
  have b0 := byteZ_bd l 0
  have b1 := byteZ_bd l 1
  obtain ⟨R, hR⟩ : ∃ R, cand l 2 = R := ⟨_, rfl⟩
  have hdef := cand2 l
  rw [hR] at he hcp h0 h1 hdef ⊢
  unfold encodeRune at he
  by_cases c1 : R ≤ 127
  · rw [encodeRuneZ_one (by omega) (by omega)] at he; simp at he
  by_cases c2 : R ≤ 2047
  · rw [encodeRuneZ_two (by omega) (by omega)] at he
    obtain ⟨p, q⟩ := enc_inj2 (by omega) (by omega) he
    unfold byteZ at hdef
    have hn : (R.toNat : Int) = R := by omega
    rw [decodeL_N, decodeN_two' _ _ _ _ _ (by omega) (by omega) (by omega) (by omega)]
    exact Prod.ext (by dsimp only; omega) rfl
  by_cases c3 : R ≤ 65535
  · rw [encodeRuneZ_three (by omega)] at he; simp at he
  · rw [encodeRuneZ_four (by omega) (by omega)] at he; simp at he
theorem fits_three {l : List UInt8} (hl : 3 ≤ l.length) (h : fits l 3 = true) : decodeL l = ((cand l 3).toNat, 3) := by
  simp only [fits, decide_eq_true_eq] at h
  obtain ⟨h0, h1, he⟩ := h
  have hne : encS (cand l 3) ≠ [] := by rw [he]; exact take_ne _ _ (by omega) hl
  obtain ⟨e1, hcp⟩ := encS_len _ hne
  rw [e1, takeC l (by omega)] at he
  have b0 := byteZ_bd l 0
  have b1 := byteZ_bd l 1
  have b2 := byteZ_bd l 2
  obtain ⟨R, hR⟩ : ∃ R, cand l 3 = R := ⟨_, rfl⟩
  have hdef := cand3 l
  rw [hR] at he hcp h0 h1 hdef ⊢
  unfold encodeRune at he
  by_cases c1 : R ≤ 127
  · rw [encodeRuneZ_one (by omega) (by omega)] at he; simp at he
  by_cases c2 : R ≤ 2047
  · rw [encodeRuneZ_two (by omega) (by omega)] at he; simp at he
  by_cases c3 : R ≤ 65535
  · rw [encodeRuneZ_three (by omega)] at he
    obtain ⟨p, q, r⟩ := enc_inj3 (by omega) (by omega) (by omega) he
    unfold byteZ at hdef
    have hn : (R.toNat : Int) = R := by omega
    rw [decodeL_N, decodeN_three' _ _ _ _ _ (by omega) (by omega) (by omega) (by omega) (by omega) (by omega)]
    exact Prod.ext (by dsimp only; omega) rfl
  · rw [encodeRuneZ_four (by omega) (by omega)] at he; simp at he
theorem fits_four {l : List UInt8} (hl : 4 ≤ l.length) (h : fits l 4 = true) : decodeL l = ((cand l 4).toNat, 4) := by
  simp only [fits, decide_eq_true_eq] at h
  obtain ⟨h0, h1, he⟩ := h
  have hne : encS (cand l 4) ≠ [] := by rw [he]; exact take_ne _ _ (by omega) hl
  obtain ⟨e1, hcp⟩ := encS_len _ hne
  rw [e1, takeD l (by omega)] at he
  have b0 := byteZ_bd l 0
  have b1 := byteZ_bd l 1
  have b2 := byteZ_bd l 2
  have b3 := byteZ_bd l 3
  obtain ⟨R, hR⟩ : ∃ R, cand l 4 = R := ⟨_, rfl⟩
  have hdef := cand4 l
  rw [hR] at he hcp h0 h1 hdef ⊢
  unfold encodeRune at he
  by_cases c1 : R ≤ 127
  · rw [encodeRuneZ_one (by omega) (by omega)] at he; simp at he
  by_cases c2 : R ≤ 2047
  · rw [encodeRuneZ_two (by omega) (by omega)] at he; simp at he
  by_cases c3 : R ≤ 65535
  · rw [encodeRuneZ_three (by omega)] at he; simp at he
  · rw [encodeRuneZ_four (by omega) (by omega)] at he
    obtain ⟨p, q, r, t⟩ := enc_inj4 (by omega) (by omega) (by omega) (by omega) he
    unfold byteZ at hdef
    have hn : (R.toNat : Int) = R := by omega
    rw [decodeL_N, decodeN_four' _ _ _ _ _ (by omega) (by omega) (by omega) (by omega) (by omega) (by omega) (by omega)]
    exact Prod.ext (by dsimp only; omega) rfl
/-- WHERE IT FITS, THAT IS THE CHARACTER -/
theorem fits_dec {l : List UInt8} {k : Nat} (h1 : 1 ≤ k) (h4 : k ≤ 4) (hl : k ≤ l.length) (h : fits l k = true) : specDec l = ((cand l k).toNat, k) ∧ 0 ≤ cand l k ∧ cand l k ≤ 1114111 := by
  have hb : 0 ≤ cand l k ∧ cand l k ≤ 1114111 := by simp only [fits, decide_eq_true_eq] at h; exact ⟨h.1, h.2.1⟩
  refine ⟨?_, hb⟩
  have hne : l ≠ [] := by rintro rfl; simp at hl; omega
  unfold specDec
  rw [if_neg hne]
  have key : decodeL l = ((cand l k).toNat, k) := by
    have : k = 1 ∨ k = 2 ∨ k = 3 ∨ k = 4 := by omega
    rcases this with rfl | rfl | rfl | rfl
    · rw [fits_one hl h, cand1]; unfold byteZ; rfl
    · exact fits_two hl h
    · exact fits_three hl h
    · exact fits_four hl h
  have hg : good l = true := by
    rw [good_iff, key]
    rintro ⟨a, b⟩
    dsimp only at a b
    subst b
    have := byteZ_bd l 0
    rw [cand1] at a
    omega
  rw [if_pos hg, key]
/-- AND A CHARACTER FITS -/
theorem dec_fits {l : List UInt8} (hne : l ≠ []) (hg : good l = true) : 1 ≤ (decodeL l).2 ∧ (decodeL l).2 ≤ 4 ∧ (decodeL l).2 ≤ l.length ∧ fits l (decodeL l).2 = true := by
  have he := encode_decode l hne ((good_iff l).1 hg)
  have hle := decodeL_le l hne
  have hw := decodeL_width l
  rw [good_iff] at hg
  have b0 := byteZ_bd l 0
  have b1 := byteZ_bd l 1
  have b2 := byteZ_bd l 2
  have b3 := byteZ_bd l 3
  have conv : ∀ R : Int, (0 ≤ R ∧ R ≤ 1114111 ∧ (R < 55296 ∨ 57343 < R)) → encS R = encodeRune R := fun R h => by unfold encS; rw [if_pos h]
  rcases decodeN_shape l.length (l.getD 0 0).toNat (l.getD 1 0).toNat (l.getD 2 0).toNat (l.getD 3 0).toNat with ⟨c, e⟩ | ⟨c1, c2, c3, cv, e⟩ | ⟨c1, c2, c3, c4, cv, cs, e⟩ | ⟨c1, c2, c3, c4, c5, cv, cw, e⟩ | e
  all_goals rw [← decodeL_N] at e
  all_goals rw [e] at hle hg he hw ⊢
  all_goals dsimp only at hle hg he hw ⊢
  · have hc : cand l 1 = ((l.getD 0 0).toNat : Int) := by rw [cand1]; rfl
    refine ⟨hw, by omega, hle, ?_⟩
    simp only [fits, decide_eq_true_eq, hc]
    exact ⟨by omega, by omega, by rw [conv _ (by omega)]; exact he⟩
  · have hc : cand l 2 = (((l.getD 0 0).toNat % 32 * 64 + (l.getD 1 0).toNat % 64 : Nat) : Int) := by rw [cand2]; unfold byteZ; omega
    refine ⟨hw, by omega, hle, ?_⟩
    simp only [fits, decide_eq_true_eq, hc]
    exact ⟨by omega, by omega, by rw [conv _ (by omega)]; exact he⟩
  · have hc : cand l 3 = (((l.getD 0 0).toNat % 16 * 4096 + (l.getD 1 0).toNat % 64 * 64 + (l.getD 2 0).toNat % 64 : Nat) : Int) := by rw [cand3]; unfold byteZ; omega
    have := (l.getD 0 0).toNat_lt
    refine ⟨hw, by omega, hle, ?_⟩
    simp only [fits, decide_eq_true_eq, hc]
    exact ⟨by omega, by omega, by rw [conv _ (by omega)]; exact he⟩
  · have hc : cand l 4 = (((l.getD 0 0).toNat % 8 * 262144 + (l.getD 1 0).toNat % 64 * 4096 + (l.getD 2 0).toNat % 64 * 64 + (l.getD 3 0).toNat % 64 : Nat) : Int) := by rw [cand4]; unfold byteZ; omega
    refine ⟨hw, by omega, hle, ?_⟩
    simp only [fits, decide_eq_true_eq, hc]
    exact ⟨by omega, by omega, by rw [conv _ (by omega)]; exact he⟩
  · exact absurd ⟨rfl, rfl⟩ hg
/-- where nothing fits there is no character -/
theorem dec_none {l : List UInt8} (h : ∀ k, 1 ≤ k → k ≤ 4 → k ≤ l.length → fits l k = false) : specDec l = (0, 0) := by
  unfold specDec
  split
  · rfl
  · rename_i hne
    split
    · rename_i hg
      obtain ⟨a, b, c, d⟩ := dec_fits hne hg
      rw [h _ a b c] at d
      cases d
    · rfl
theorem candI_bd (l : List UInt8) (o : Int) (h0 : 0 ≤ o) (h1 : o ≤ 240) : -240 ≤ candI l o 0 ∧ candI l o 0 ≤ 255 ∧ -16000 ≤ candI l o 1 ∧ candI l o 1 ≤ 17000 ∧ -1100000 ≤ candI l o 2 ∧ candI l o 2 ≤ 1100000 ∧ -80000000 ≤ candI l o 3 ∧ candI l o 3 ≤ 80000000 := by
  have b0 := byteZ_bd l 0
  have b1 := byteZ_bd l 1
  have b2 := byteZ_bd l 2
  have b3 := byteZ_bd l 3
  simp only [candI, Nat.zero_add, Nat.reduceAdd]
  omega
end Go.Uq
