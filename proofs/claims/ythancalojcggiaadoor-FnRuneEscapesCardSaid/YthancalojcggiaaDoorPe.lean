/-
  Plain facts on characters written with digits and on their UTF-8.
-/
import Derived.Test.YthancalojcggiaaDoorWz
namespace Go.Proofs.YthancalojcggiaaDoor
open Go.RowKit Go.Uq

theorem hexc_dig : ∀ d : Fin 16, digN (hexc d.val).toNat 16 = some d.val ∧ (hexc d.val).toNat < 128 := by decide +kernel
theorem num_digL : ∀ (k n a : Nat) (rest : List UInt8), num 16 k (digL 16 k n ++ rest) a = some (a * 16 ^ k + n % 16 ^ k)
  | 0, n, a, rest => by simp [num, Nat.mod_one]
  | k + 1, n, a, rest => by
    have hd := (hexc_dig ⟨n / 16 ^ k % 16, Nat.mod_lt _ (by decide)⟩).1
    simp only at hd
    simp only [digL, List.cons_append, num, hd]
    rw [num_digL k n _ rest, Nat.mod_pow_succ, Nat.pow_succ, Nat.add_mul, Nat.mul_assoc, Nat.mul_comm 16 (16 ^ k), Nat.mul_comm (n / 16 ^ k % 16) (16 ^ k), Nat.add_assoc, Nat.add_comm (n % 16 ^ k)]
theorem digL_ascii : ∀ (k n : Nat), ∀ x ∈ digL 16 k n, x.toNat < 128
  | 0, _, x, hx => by simp [digL] at hx
  | k + 1, n, x, hx => by
    simp only [digL, List.mem_cons] at hx
    rcases hx with rfl | hx
    · exact (hexc_dig ⟨n / 16 ^ k % 16, Nat.mod_lt _ (by decide)⟩).2
    · exact digL_ascii k n x hx
theorem valid_one : ∀ c : Fin 128, Lib.validD [c.val.toUInt8] = true := by decide +kernel
theorem valid_ascii : ∀ (l : List UInt8), (∀ x ∈ l, x.toNat < 128) → Lib.validD l = true
  | [], _ => by decide +kernel
  | c :: t, h => by
    have hc := valid_one ⟨c.toNat, h c (by simp)⟩
    rw [show c.toNat.toUInt8 = c by simp] at hc
    rw [show c :: t = [c] ++ t from rfl, valid_append _ hc]
    exact valid_ascii t fun x hx => h x (by simp [hx])
/-- \U and eight digits; \u and four -/
theorem first_U (r q : Nat) (t : List UInt8) (hq : q = 0 ∨ q = 34 ∨ q = 39) (hr : r < 4294967296) : first ([92, 85] ++ digL 16 8 r ++ t) q = if cp r then some ⟨r, false, 10, true⟩ else none := by
  have hn := num_digL 8 r 0 t
  rw [Nat.mod_eq_of_lt (by omega), Nat.zero_mul, Nat.zero_add] at hn
  generalize digL 16 8 r = l at hn ⊢
  rcases hq with rfl | rfl | rfl <;> simp [first, esc, simp1, hn]
theorem first_u (r q : Nat) (t : List UInt8) (hq : q = 0 ∨ q = 34 ∨ q = 39) (hr : r < 65536) : first ([92, 117] ++ digL 16 4 r ++ t) q = if cp r then some ⟨r, false, 6, true⟩ else none := by
  have hn := num_digL 4 r 0 t
  rw [Nat.mod_eq_of_lt (by omega), Nat.zero_mul, Nat.zero_add] at hn
  generalize digL 16 4 r = l at hn ⊢
  rcases hq with rfl | rfl | rfl <;> simp [first, esc, simp1, hn]
theorem cpS {r : Nat} (h : cp r = true) : encS (r : Int) = Lib.encodeRune (r : Int) := by
  unfold cp at h
  rw [decide_eq_true_eq] at h
  unfold encS
  rw [if_pos (by omega)]
theorem elems_U {r q : Nat} (hq : q = 0 ∨ q = 34 ∨ q = 39) (hr : r < 4294967296) (hc : cp r = true) : elems ([92, 85] ++ digL 16 8 r) q = some [⟨r, false, 10, true⟩] := by
  have hf := first_U r q [] hq hr
  rw [List.append_nil, if_pos hc] at hf
  rw [elems_some hf, List.drop_eq_nil_of_le (by simp [digL_len]), elems_nil]
  rfl
theorem elems_u {r q : Nat} (hq : q = 0 ∨ q = 34 ∨ q = 39) (hr : r < 65536) (hc : cp r = true) : elems ([92, 117] ++ digL 16 4 r) q = some [⟨r, false, 6, true⟩] := by
  have hf := first_u r q [] hq hr
  rw [List.append_nil, if_pos hc] at hf
  rw [elems_some hf, List.drop_eq_nil_of_le (by simp [digL_len]), elems_nil]
  rfl
theorem long_double {r : Nat} (hr : r < 4294967296) (hc : cp r = true) : unqL (34 :: (([92, 85] ++ digL 16 8 r) ++ [34])) = some (Lib.encodeRune (r : Int)) := by
  refine unqL_of_specU ?_
  rw [specU_double (by decide), elems_U (by omega) hr hc]
  simp [outOf, bytesOf]
theorem long_single {r : Nat} (hr : r < 4294967296) (hc : cp r = true) : unqL (39 :: (([92, 85] ++ digL 16 8 r) ++ [39])) = some (Lib.encodeRune (r : Int)) := by
  refine unqL_of_specU ?_
  rw [specU_single (by decide), elems_U (by omega) hr hc]
  simp [outOf, bytesOf]
theorem long_ascii (r : Nat) (c : UInt8) (hc : c.toNat < 128) : Lib.validD (c :: (([92, 85] ++ digL 16 8 r) ++ [c])) = true := by
  refine valid_ascii _ fun x hx => ?_
  simp only [List.cons_append, List.nil_append, List.mem_cons, List.mem_append, List.mem_nil_iff, or_false] at hx
  rcases hx with rfl | rfl | rfl | hx | rfl
  · exact hc
  · decide
  · decide
  · exact digL_ascii 8 r x hx
  · exact hc
theorem long_none (r : Nat) (q : Nat) (hq : q = 0 ∨ q = 34 ∨ q = 39) (hr : r < 4294967296) (hc : cp r = false) : elems ([92, 85] ++ digL 16 8 r) q = none := by
  have hf := first_U r q [] hq hr
  rw [List.append_nil, hc] at hf
  exact elems_none (by simp) (by simpa using hf)
theorem long_double_no {r : Nat} (hr : r < 4294967296) (hc : cp r = false) : unqL (34 :: (([92, 85] ++ digL 16 8 r) ++ [34])) = none := by
  rw [unqL_eq (long_ascii r 34 (by decide)), specU_double (by decide), long_none r 34 (by omega) hr hc]
  rfl
theorem long_single_no {r : Nat} (hr : r < 4294967296) (hc : cp r = false) : unqL (39 :: (([92, 85] ++ digL 16 8 r) ++ [39])) = none := by
  rw [unqL_eq (long_ascii r 39 (by decide)), specU_single (by decide), long_none r 39 (by omega) hr hc]
theorem elems_zero : elems [48] 34 = some [⟨48, false, 1, false⟩] := by
  have hf : first [48] 34 = some ⟨48, false, 1, false⟩ := rfl
  rw [elems_some hf]
  rfl
theorem short_double {r : Nat} (hr : r < 65536) (hc : cp r = true) : unqL (34 :: ((([92, 117] ++ digL 16 4 r) ++ [48]) ++ [34])) = some (Lib.encodeRune (r : Int) ++ [48]) := by
  refine unqL_of_specU ?_
  rw [specU_double (by decide), elems_append _ (elems_u (by omega) hr hc), elems_zero]
  have h48 : bytesOf ⟨48, false, 1, false⟩ = [48] := rfl
  have hb : bytesOf ⟨r, false, 6, true⟩ = Lib.encodeRune (r : Int) := by simp [bytesOf]
  simp [outOf, h48, hb]
theorem toU (x : Int) (h0 : 0 ≤ x) (h1 : x < 256) : ((x.toNat.toUInt8).toNat : Int) = x := by
  have : x.toNat < 256 := by omega
  rw [show (x.toNat.toUInt8).toNat = x.toNat from by simp [Nat.toUInt8]; omega]
  omega
theorem fits_valid {l : List UInt8} (h1 : 1 ≤ l.length) (h4 : l.length ≤ 4) (h : fits l l.length = true) : Lib.validD l = true := by
  have hne : l ≠ [] := by rintro rfl; simp at h1
  have hd := (fits_dec h1 h4 (Nat.le_refl _) h).1
  have hg : good l = true := by
    cases hg : good l with
    | true => rfl
    | false =>
      unfold specDec at hd
      rw [if_neg hne, hg, if_neg (by decide)] at hd
      have := congrArg Prod.snd hd
      simp only at this
      omega
  unfold specDec at hd
  rw [if_neg hne, if_pos hg] at hd
  rw [valid_of_good hne hg, hd, List.drop_eq_nil_of_le (Nat.le_refl _)]
  decide +kernel
theorem enc_facts (r : Nat) (hc : cp r = true) : Lib.validD (Lib.encodeRune (r : Int)) = true ∧ ∀ x ∈ Lib.encodeRune (r : Int), x.toNat = r ∨ 128 ≤ x.toNat := by
  have hcs := cpS hc
  unfold cp at hc
  rw [decide_eq_true_eq] at hc
  by_cases h1 : r ≤ 127
  · have e : Lib.encodeRune (r : Int) = [r.toUInt8] := by unfold Lib.encodeRune; rw [Lib.encodeRuneZ_one (by omega) (by omega)]; simp
    rw [e]
    refine ⟨valid_one ⟨r, by omega⟩, fun x hx => ?_⟩
    simp at hx
    subst hx
    left
    simp
    omega
  by_cases h2 : r ≤ 2047
  · have e : Lib.encodeRune (r : Int) = [(192 + (r : Int) / 64).toNat.toUInt8, (128 + (r : Int) % 64).toNat.toUInt8] := by unfold Lib.encodeRune; rw [Lib.encodeRuneZ_two (by omega) (by omega)]; rfl
    have t1 := toU (192 + (r : Int) / 64) (by omega) (by omega)
    have t2 := toU (128 + (r : Int) % 64) (by omega) (by omega)
    rw [e] at hcs ⊢
    generalize (192 + (r : Int) / 64).toNat.toUInt8 = a at *
    generalize (128 + (r : Int) % 64).toNat.toUInt8 = b at *
    refine ⟨fits_valid (by simp) (by simp) ?_, fun x hx => ?_⟩
    · have hr : cand [a, b] 2 = (r : Int) := by rw [cand2]; simp only [byteZ, List.getD_cons_zero, List.getD_cons_succ]; omega
      unfold fits
      rw [show [a, b].length = 2 from rfl, hr, hcs, decide_eq_true_eq]
      exact ⟨by omega, by omega, rfl⟩
    · simp only [List.mem_cons, List.mem_nil_iff, or_false] at hx
      rcases hx with rfl | rfl <;> (right; omega)
  by_cases h3 : r ≤ 65535
  · have e : Lib.encodeRune (r : Int) = [(224 + (r : Int) / 4096).toNat.toUInt8, (128 + (r : Int) / 64 % 64).toNat.toUInt8, (128 + (r : Int) % 64).toNat.toUInt8] := by unfold Lib.encodeRune; rw [Lib.encodeRuneZ_three (by omega)]; rfl
    have t1 := toU (224 + (r : Int) / 4096) (by omega) (by omega)
    have t2 := toU (128 + (r : Int) / 64 % 64) (by omega) (by omega)
    have t3 := toU (128 + (r : Int) % 64) (by omega) (by omega)
    rw [e] at hcs ⊢
    generalize (224 + (r : Int) / 4096).toNat.toUInt8 = a at *
    generalize (128 + (r : Int) / 64 % 64).toNat.toUInt8 = b at *
    generalize (128 + (r : Int) % 64).toNat.toUInt8 = c at *
    refine ⟨fits_valid (by simp) (by simp) ?_, fun x hx => ?_⟩
    · have hr : cand [a, b, c] 3 = (r : Int) := by rw [cand3]; simp only [byteZ, List.getD_cons_zero, List.getD_cons_succ]; omega
      unfold fits
      rw [show [a, b, c].length = 3 from rfl, hr, hcs, decide_eq_true_eq]
      exact ⟨by omega, by omega, rfl⟩
    · simp only [List.mem_cons, List.mem_nil_iff, or_false] at hx
      rcases hx with rfl | rfl | rfl <;> (right; omega)
  · have e : Lib.encodeRune (r : Int) = [(240 + (r : Int) / 262144).toNat.toUInt8, (128 + (r : Int) / 4096 % 64).toNat.toUInt8, (128 + (r : Int) / 64 % 64).toNat.toUInt8, (128 + (r : Int) % 64).toNat.toUInt8] := by unfold Lib.encodeRune; rw [Lib.encodeRuneZ_four (by omega) (by omega)]; rfl
    have t1 := toU (240 + (r : Int) / 262144) (by omega) (by omega)
    have t2 := toU (128 + (r : Int) / 4096 % 64) (by omega) (by omega)
    have t3 := toU (128 + (r : Int) / 64 % 64) (by omega) (by omega)
    have t4 := toU (128 + (r : Int) % 64) (by omega) (by omega)
    rw [e] at hcs ⊢
    generalize (240 + (r : Int) / 262144).toNat.toUInt8 = a at *
    generalize (128 + (r : Int) / 4096 % 64).toNat.toUInt8 = b at *
    generalize (128 + (r : Int) / 64 % 64).toNat.toUInt8 = c at *
    generalize (128 + (r : Int) % 64).toNat.toUInt8 = d at *
    refine ⟨fits_valid (by simp) (by simp) ?_, fun x hx => ?_⟩
    · have hr : cand [a, b, c, d] 4 = (r : Int) := by rw [cand4]; simp only [byteZ, List.getD_cons_zero, List.getD_cons_succ]; omega
      unfold fits
      rw [show [a, b, c, d].length = 4 from rfl, hr, hcs, decide_eq_true_eq]
      exact ⟨by omega, by omega, rfl⟩
    · simp only [List.mem_cons, List.mem_nil_iff, or_false] at hx
      rcases hx with rfl | rfl | rfl | rfl <;> (right; omega)
theorem self_double {r : Nat} (hc : cp r = true) (h : r ≠ 34 ∧ r ≠ 92 ∧ r ≠ 10) : unqL (34 :: (Lib.encodeRune (r : Int) ++ [34])) = some (Lib.encodeRune (r : Int)) := by
  have hf := enc_facts r hc
  refine unqL_of_specU (specU_plain (by decide) hf.1 fun x hx => ?_)
  rcases hf.2 x hx with e | e <;> omega
end Go.Proofs.YthancalojcggiaaDoor
