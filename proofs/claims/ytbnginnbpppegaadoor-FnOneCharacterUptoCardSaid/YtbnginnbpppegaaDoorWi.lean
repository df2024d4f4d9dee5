/-
  The walk over the library's UnquoteChar: escapes by digits.
-/
import Derived.Test.YtbnginnbpppegaaDoorWg
import Derived.Laws.BitsAllLaws
namespace Go.Proofs.YtbnginnbpppegaaDoor
open Go.RowKit Go.Uq

theorem ba_ext {a b : ByteArray} (h : a.data.toList = b.data.toList) : a = b := by
  cases a with
  | mk x =>
    cases b with
    | mk y => congr 1; exact Array.toList_inj.1 h
theorem ext_ext (s : ByteArray) (a b : Nat) : (s.extract a s.size).extract b (s.extract a s.size).size = s.extract (a + b) s.size := by
  apply ba_ext
  rw [Lib.extract_to_end, Lib.extract_to_end, Lib.extract_to_end, List.drop_drop]
theorem list_at (s : ByteArray) (i : Nat) (h : i < s.size) : (s.data.toList.getD i 0) = s[i] := by
  rw [Lib.getD_get!']
  cases s with
  | mk d => rw [show (ByteArray.mk d).get! i = d[i]! from rfl, getElem!_pos d i h]; rfl
/-! ### numbers, a digit more -/
theorem num_snoc {base : Nat} : ∀ {n : Nat} {l : List UInt8} {a x : Nat}, num base n l a = some x → n < l.length →
    num base (n + 1) l a = (match digN (l.getD n 0).toNat base with | none => none | some d => some (x * base + d))
  | 0, [], _, _, _, h => by simp at h
  | 0, c :: t, a, x, h, _ => by
    unfold num at h
    cases h
    simp only [num, List.getD_cons_zero]
    cases digN c.toNat base <;> rfl
  | n + 1, [], _, _, h, _ => by cases h
  | n + 1, c :: t, a, x, h, hl => by
    unfold num at h
    split at h
    · cases h
    · rename_i d hd
      have := num_snoc h (by simpa using hl)
      rw [List.getD_cons_succ]
      rw [show num base (n + 1 + 1) (c :: t) a = num base (n + 1) t (a * base + d) by rw [num]; simp only [hd]]
      exact this
theorem num_stop {base : Nat} : ∀ {n m : Nat} {l : List UInt8} {a : Nat}, num base n l a = none → n ≤ m → num base m l a = none
  | 0, _, _, _, h, _ => by cases h
  | n + 1, 0, _, _, _, h => by omega
  | n + 1, m + 1, [], _, _, _ => rfl
  | n + 1, m + 1, c :: t, a, h, hm => by
    unfold num at h ⊢
    split
    · rfl
    · rename_i d hd
      rw [hd] at h
      exact num_stop h (by omega)
theorem num_short {base n : Nat} {l : List UInt8} {a : Nat} (h : l.length < n) : num base n l a = none := by
  cases hx : num base n l a with
  | none => rfl
  | some x => have := num_len hx; omega
/-! ### a digit put behind, in 32 bits -/
theorem ofInt_wrap (x : Int) : (BitVec.ofInt 32 (wrap32 x)).toNat = (x % 4294967296).toNat := by
  rw [BitVec.toNat_ofInt]
  unfold wrap32
  have : ((x + 2147483648) % 4294967296 - 2147483648) % ((2 ^ 32 : Nat) : Int) = x % 4294967296 := by
    rw [show ((2 ^ 32 : Nat) : Int) = 4294967296 by rfl]; omega
  rw [this]
theorem or_low (a d k : Nat) (h : d < 2 ^ k) : (a * 2 ^ k) ||| d = a * 2 ^ k + d := by
  rw [← Nat.shiftLeft_eq, Nat.shiftLeft_add_eq_or_of_lt h]
theorem or16 (N d : Nat) (z : Int) (hz : z = wrap32 N) (hd : d < 16) : bits .or .i32 (wrap32 (z * 16)) (d : Int) = wrap32 ((N * 16 + d : Nat) : Int) := by
  show IntKind.i32.wrap ((BitVec.ofInt 32 (wrap32 (z * 16)) ||| BitVec.ofInt 32 (d : Int)).toNat : Int) = _
  rw [BitVec.toNat_or, ofInt_wrap, BitVec.ofInt_natCast, BitVec.toNat_ofNat, Nat.mod_eq_of_lt (a := d) (by omega)]
  have e : (z * 16 % 4294967296).toNat = (N % 268435456) * 2 ^ 4 := by
    rw [hz]; unfold wrap32; omega
  rw [e, or_low _ _ _ (by omega), IntKind.wrap_i32]
  unfold wrap32
  omega
theorem or8 (N d : Nat) (hN : N < 64) (hd : d < 8) : bits .or .i32 ((N : Int) * 8) (d : Int) = ((N * 8 + d : Nat) : Int) := by
  show IntKind.i32.wrap ((BitVec.ofInt 32 ((N : Int) * 8) ||| BitVec.ofInt 32 (d : Int)).toNat : Int) = _
  rw [show (N : Int) * 8 = ((N * 2 ^ 3 : Nat) : Int) by omega, BitVec.toNat_or, BitVec.ofInt_natCast, BitVec.ofInt_natCast, BitVec.toNat_ofNat, BitVec.toNat_ofNat, Nat.mod_eq_of_lt (a := d) (by omega), Nat.mod_eq_of_lt (by omega), or_low _ _ _ (by omega), IntKind.wrap_i32]
  omega
theorem wrap32_small {N : Nat} (h : N < 2147483648) : wrap32 (N : Int) = (N : Int) := by unfold wrap32; omega
theorem cp_valid {N : Nat} (h : N < 4294967296) : Lib.validRune (wrap32 N) = cp N := by
  unfold Lib.validRune cp wrap32
  rw [Bool.eq_iff_iff]
  simp only [decide_eq_true_eq]
  omega
set_option maxHeartbeats 800000 in
set_option maxRecDepth 100000 in
theorem uc_x_short (s : ByteArray) (q : Nat) (w : World) (t : TypeId) (v : Value) (hE : w.cell? ⟨0, 0, none⟩ = some (.iface t v)) (h : 1 < s.size) (hc : (s[0]'(by omega)).toNat = 92) (hd : (s[1]'h).toNat = 120) (hq : q = 0 ∨ q = 34 ∨ q = 39) (hl : s.size - 2 < 2) :
    Calls Tryd.prog 32 #[.string s, .int .u8 q] w fun e w' => e = ucBad t v ∧ Bw w w' := by
  have hz : ((s.size : Int) == 0) = false := beq_eq_false_iff_ne.2 (by omega)
  have hcq : ((92 : Int) == q) = false := by simp; omega
  have hle : decide ((s.size : Int) ≤ 1) = false := by simp; omega
  have h2z : (2 : Int) ≤ s.size := by omega
  have h1z : (1 : Int) < s.size := by omega
  have h0z : (0 : Int) < s.size := by omega
  have hll : decide (((s.size - 2 : Nat) : Int) < 2) = true := by simp; omega
  clear hq
  go_enter Tryd.func32, Tryd.ntmps32
  go_wp2
  refine bodyPost_ret (results4 rfl _ _ _) rfl ?_
  exact ⟨rfl, Bw.refl _⟩
def Post_x (s u : ByteArray) (t : TypeId) (v : Value) (w : World) (e : Ending) (w' : World) : Prop :=
  (match num 16 2 u.data.toList 0 with
  | none => e = ucBad t v
  | some N => e = ucGood s N 4 false) ∧ Bw w w'
set_option maxHeartbeats 1600000 in
set_option maxRecDepth 100000 in
theorem uc_x (s : ByteArray) (q : Nat) (w : World) (t : TypeId) (v : Value) (hE : w.cell? ⟨0, 0, none⟩ = some (.iface t v)) (h : 1 < s.size) (hc : (s[0]'(by omega)).toNat = 92) (hd : (s[1]'h).toNat = 120) (hq : q = 0 ∨ q = 34 ∨ q = 39) (hl : 2 ≤ s.size - 2) :
    Calls Tryd.prog 32 #[.string s, .int .u8 q] w (Post_x s (s.extract 2 s.size) t v w) := by
  have hz : ((s.size : Int) == 0) = false := beq_eq_false_iff_ne.2 (by omega)
  have hcq : ((92 : Int) == q) = false := by simp; omega
  have hle : decide ((s.size : Int) ≤ 1) = false := by simp; omega
  have h2z : (2 : Int) ≤ s.size := by omega
  have h1z : (1 : Int) < s.size := by omega
  have h0z : (0 : Int) < s.size := by omega
  have hll : decide (((s.size - 2 : Nat) : Int) < 2) = false := by simp; omega
  clear hq
  have hsz := rest_size s 2
  have HX := Lib.hid (ext_ext s 2 2)
  generalize hU : s.extract 2 s.size = u at hsz HX ⊢
  have HZ := Lib.hid hsz
  go_enter Tryd.func32, Tryd.ntmps32
  go_wp2
  clear hU hsz
  go_loop [7, 13, 14] (fun c a b => c = .nilIface ∧ ∃ (j N : Nat) (z : Int), j ≤ 2 ∧ b = .int .i64 j ∧ a = .int .i32 z ∧ Hid (z = wrap32 N) ∧ Hid (num 16 j u.data.toList 0 = some N) ∧ -2147483648 ≤ z ∧ z ≤ 2147483647) (fun _ _ b => 2 - (intOf b).toNat)
  case atStart => exact ⟨rfl, 0, 0, 0, by omega, rfl, rfl, Lib.hid (wrap32_small (N := 0) (by omega)).symm, Lib.hid rfl, by omega, by omega⟩
  case round =>
    obtain ⟨rfl, j, N, z, hj, rfl, rfl, HW, hN, hz1, hz2⟩ := hrel
    by_cases hlt : j < 2
    · have hju : j < u.size := by have := HZ.out; omega
      have hltz : decide ((j : Int) < 2) = true := by simp; omega
      have hb := u[j].toNat_lt
      have HS := Lib.hid (num_snoc hN.out (by rw [← Lib.size_eq]; exact hju))
      have HI := Lib.hid (list_at u j hju)
      cases hdg : digN u[j].toNat 16 with
      | none =>
        have HG := Lib.hid hdg
        clear hdg
        go_wp2_with (go_at_call 38; refine (unhex_no _ _ hb HG.out).mono ?_; rintro e w1 ⟨rfl, rfl⟩)
        refine bodyPost_ret (results4 rfl _ _ _) rfl ?_
        have e := HS.out
        rw [HI.out, HG.out] at e
        have e2 := num_stop e (show j + 1 ≤ 2 by omega)
        refine ⟨?_, Bw.refl _⟩
        rw [e2]
        rfl
      | some d =>
        have HG := Lib.hid hdg
        have hd16 := digN_lt hdg
        clear hdg
        go_wp2_with (go_at_call 38; refine (unhex_yes _ d _ hb HG.out).mono ?_; rintro e w1 ⟨rfl, rfl⟩)
        go_round
        case rel =>
          have e := HS.out
          rw [HI.out, HG.out] at e
          have o := or16 N d z HW.out hd16
          refine ⟨rfl, j + 1, N * 16 + d, bits .or .i32 (wrap32 (z * 16)) d, by omega, by go_num, rfl, Lib.hid o, Lib.hid e, ?_, ?_⟩
          · rw [o]; unfold wrap32; omega
          · rw [o]; unfold wrap32; omega
        case measure => simp [intOf]; omega
    · obtain rfl : j = 2 := by omega
      have hltz : decide (((2 : Nat) : Int) < 2) = false := by simp
      have hNl := num_lt hN.out
      have hnz : (2 : Int) ≤ u.size := by have := HZ.out; omega
      go_wp2
      refine bodyPost_ret (results4 rfl _ _ _) rfl ?_
      refine ⟨?_, Bw.refl _⟩
      rw [hN.out]
      have e1 : z = (N : Int) := by rw [HW.out]; exact wrap32_small (by simp at hNl; omega)
      show Ending.returned _ = Ending.returned _
      rw [← HX.out]
      simp [e1]
set_option maxHeartbeats 800000 in
set_option maxRecDepth 100000 in
theorem uc_u_short (s : ByteArray) (q : Nat) (w : World) (t : TypeId) (v : Value) (hE : w.cell? ⟨0, 0, none⟩ = some (.iface t v)) (h : 1 < s.size) (hc : (s[0]'(by omega)).toNat = 92) (hd : (s[1]'h).toNat = 117) (hq : q = 0 ∨ q = 34 ∨ q = 39) (hl : s.size - 2 < 4) :
    Calls Tryd.prog 32 #[.string s, .int .u8 q] w fun e w' => e = ucBad t v ∧ Bw w w' := by
  have hz : ((s.size : Int) == 0) = false := beq_eq_false_iff_ne.2 (by omega)
  have hcq : ((92 : Int) == q) = false := by simp; omega
  have hle : decide ((s.size : Int) ≤ 1) = false := by simp; omega
  have h2z : (2 : Int) ≤ s.size := by omega
  have h1z : (1 : Int) < s.size := by omega
  have h0z : (0 : Int) < s.size := by omega
  have hll : decide (((s.size - 2 : Nat) : Int) < 4) = true := by simp; omega
  clear hq
  go_enter Tryd.func32, Tryd.ntmps32
  go_wp2
  refine bodyPost_ret (results4 rfl _ _ _) rfl ?_
  exact ⟨rfl, Bw.refl _⟩
def Post_u (s u : ByteArray) (t : TypeId) (v : Value) (w : World) (e : Ending) (w' : World) : Prop :=
  (match num 16 4 u.data.toList 0 with
  | none => e = ucBad t v
  | some N => e = if cp N then ucGood s N 6 true else ucBad t v) ∧ Bw w w'
set_option maxHeartbeats 1600000 in
set_option maxRecDepth 100000 in
theorem uc_u (s : ByteArray) (q : Nat) (w : World) (t : TypeId) (v : Value) (hE : w.cell? ⟨0, 0, none⟩ = some (.iface t v)) (h : 1 < s.size) (hc : (s[0]'(by omega)).toNat = 92) (hd : (s[1]'h).toNat = 117) (hq : q = 0 ∨ q = 34 ∨ q = 39) (hl : 4 ≤ s.size - 2) :
    Calls Tryd.prog 32 #[.string s, .int .u8 q] w (Post_u s (s.extract 2 s.size) t v w) := by
  have hz : ((s.size : Int) == 0) = false := beq_eq_false_iff_ne.2 (by omega)
  have hcq : ((92 : Int) == q) = false := by simp; omega
  have hle : decide ((s.size : Int) ≤ 1) = false := by simp; omega
  have h2z : (2 : Int) ≤ s.size := by omega
  have h1z : (1 : Int) < s.size := by omega
  have h0z : (0 : Int) < s.size := by omega
  have hll : decide (((s.size - 2 : Nat) : Int) < 4) = false := by simp; omega
  clear hq
  have hsz := rest_size s 2
  have HX := Lib.hid (ext_ext s 2 4)
  generalize hU : s.extract 2 s.size = u at hsz HX ⊢
  have HZ := Lib.hid hsz
  go_enter Tryd.func32, Tryd.ntmps32
  go_wp2
  clear hU hsz
  go_loop [7, 13, 14] (fun c a b => c = .nilIface ∧ ∃ (j N : Nat) (z : Int), j ≤ 4 ∧ b = .int .i64 j ∧ a = .int .i32 z ∧ Hid (z = wrap32 N) ∧ Hid (num 16 j u.data.toList 0 = some N) ∧ -2147483648 ≤ z ∧ z ≤ 2147483647) (fun _ _ b => 4 - (intOf b).toNat)
  case atStart => exact ⟨rfl, 0, 0, 0, by omega, rfl, rfl, Lib.hid (wrap32_small (N := 0) (by omega)).symm, Lib.hid rfl, by omega, by omega⟩
  case round =>
    obtain ⟨rfl, j, N, z, hj, rfl, rfl, HW, hN, hz1, hz2⟩ := hrel
    by_cases hlt : j < 4
    · have hju : j < u.size := by have := HZ.out; omega
      have hltz : decide ((j : Int) < 4) = true := by simp; omega
      have hb := u[j].toNat_lt
      have HS := Lib.hid (num_snoc hN.out (by rw [← Lib.size_eq]; exact hju))
      have HI := Lib.hid (list_at u j hju)
      cases hdg : digN u[j].toNat 16 with
      | none =>
        have HG := Lib.hid hdg
        clear hdg
        go_wp2_with (go_at_call 38; refine (unhex_no _ _ hb HG.out).mono ?_; rintro e w1 ⟨rfl, rfl⟩)
        refine bodyPost_ret (results4 rfl _ _ _) rfl ?_
        have e := HS.out
        rw [HI.out, HG.out] at e
        have e2 := num_stop e (show j + 1 ≤ 4 by omega)
        refine ⟨?_, Bw.refl _⟩
        rw [e2]
        rfl
      | some d =>
        have HG := Lib.hid hdg
        have hd16 := digN_lt hdg
        clear hdg
        go_wp2_with (go_at_call 38; refine (unhex_yes _ d _ hb HG.out).mono ?_; rintro e w1 ⟨rfl, rfl⟩)
        go_round
        case rel =>
          have e := HS.out
          rw [HI.out, HG.out] at e
          have o := or16 N d z HW.out hd16
          refine ⟨rfl, j + 1, N * 16 + d, bits .or .i32 (wrap32 (z * 16)) d, by omega, by go_num, rfl, Lib.hid o, Lib.hid e, ?_, ?_⟩
          · rw [o]; unfold wrap32; omega
          · rw [o]; unfold wrap32; omega
        case measure => simp [intOf]; omega
    · obtain rfl : j = 4 := by omega
      have hltz : decide (((4 : Nat) : Int) < 4) = false := by simp
      have hNl := num_lt hN.out
      have hnz : (4 : Int) ≤ u.size := by have := HZ.out; omega
      have hV := Tryd.utf8_ValidRune z
      rw [HW.out, cp_valid (by simp at hNl; omega), ← HW.out] at hV
      cases hcp : cp N with
      | false =>
        rw [hcp] at hV
        have HV := Lib.hid hV
        have HC := Lib.hid hcp
        clear hV hcp
        go_wp2_with (go_at_call 39; refine (HV.out _).mono ?_; rintro e w1 ⟨rfl, rfl⟩)
        refine bodyPost_ret (results4 rfl _ _ _) rfl ?_
        refine ⟨?_, Bw.refl _⟩
        rw [hN.out]
        simp only [HC.out]
        rfl
      | true =>
        rw [hcp] at hV
        have HV := Lib.hid hV
        have HC := Lib.hid hcp
        clear hV hcp
        go_wp2_with (go_at_call 39; refine (HV.out _).mono ?_; rintro e w1 ⟨rfl, rfl⟩)
        refine bodyPost_ret (results4 rfl _ _ _) rfl ?_
        refine ⟨?_, Bw.refl _⟩
        have e1 : z = (N : Int) := by
          have := HC.out
          simp only [cp, decide_eq_true_eq] at this
          rw [HW.out]; exact wrap32_small (by omega)
        rw [hN.out]
        simp only [HC.out, if_true]
        show Ending.returned _ = Ending.returned _
        rw [← HX.out]
        simp [e1]
set_option maxHeartbeats 800000 in
set_option maxRecDepth 100000 in
theorem uc_U_short (s : ByteArray) (q : Nat) (w : World) (t : TypeId) (v : Value) (hE : w.cell? ⟨0, 0, none⟩ = some (.iface t v)) (h : 1 < s.size) (hc : (s[0]'(by omega)).toNat = 92) (hd : (s[1]'h).toNat = 85) (hq : q = 0 ∨ q = 34 ∨ q = 39) (hl : s.size - 2 < 8) :
    Calls Tryd.prog 32 #[.string s, .int .u8 q] w fun e w' => e = ucBad t v ∧ Bw w w' := by
  have hz : ((s.size : Int) == 0) = false := beq_eq_false_iff_ne.2 (by omega)
  have hcq : ((92 : Int) == q) = false := by simp; omega
  have hle : decide ((s.size : Int) ≤ 1) = false := by simp; omega
  have h2z : (2 : Int) ≤ s.size := by omega
  have h1z : (1 : Int) < s.size := by omega
  have h0z : (0 : Int) < s.size := by omega
  have hll : decide (((s.size - 2 : Nat) : Int) < 8) = true := by simp; omega
  clear hq
  go_enter Tryd.func32, Tryd.ntmps32
  go_wp2
  refine bodyPost_ret (results4 rfl _ _ _) rfl ?_
  exact ⟨rfl, Bw.refl _⟩
def Post_U (s u : ByteArray) (t : TypeId) (v : Value) (w : World) (e : Ending) (w' : World) : Prop :=
  (match num 16 8 u.data.toList 0 with
  | none => e = ucBad t v
  | some N => e = if cp N then ucGood s N 10 true else ucBad t v) ∧ Bw w w'
set_option maxHeartbeats 1600000 in
set_option maxRecDepth 100000 in
theorem uc_U (s : ByteArray) (q : Nat) (w : World) (t : TypeId) (v : Value) (hE : w.cell? ⟨0, 0, none⟩ = some (.iface t v)) (h : 1 < s.size) (hc : (s[0]'(by omega)).toNat = 92) (hd : (s[1]'h).toNat = 85) (hq : q = 0 ∨ q = 34 ∨ q = 39) (hl : 8 ≤ s.size - 2) :
    Calls Tryd.prog 32 #[.string s, .int .u8 q] w (Post_U s (s.extract 2 s.size) t v w) := by
  have hz : ((s.size : Int) == 0) = false := beq_eq_false_iff_ne.2 (by omega)
  have hcq : ((92 : Int) == q) = false := by simp; omega
  have hle : decide ((s.size : Int) ≤ 1) = false := by simp; omega
  have h2z : (2 : Int) ≤ s.size := by omega
  have h1z : (1 : Int) < s.size := by omega
  have h0z : (0 : Int) < s.size := by omega
  have hll : decide (((s.size - 2 : Nat) : Int) < 8) = false := by simp; omega
  clear hq
  have hsz := rest_size s 2
  have HX := Lib.hid (ext_ext s 2 8)
  generalize hU : s.extract 2 s.size = u at hsz HX ⊢
  have HZ := Lib.hid hsz
  go_enter Tryd.func32, Tryd.ntmps32
  go_wp2
  clear hU hsz
  go_loop [7, 13, 14] (fun c a b => c = .nilIface ∧ ∃ (j N : Nat) (z : Int), j ≤ 8 ∧ b = .int .i64 j ∧ a = .int .i32 z ∧ Hid (z = wrap32 N) ∧ Hid (num 16 j u.data.toList 0 = some N) ∧ -2147483648 ≤ z ∧ z ≤ 2147483647) (fun _ _ b => 8 - (intOf b).toNat)
  case atStart => exact ⟨rfl, 0, 0, 0, by omega, rfl, rfl, Lib.hid (wrap32_small (N := 0) (by omega)).symm, Lib.hid rfl, by omega, by omega⟩
  case round =>
    obtain ⟨rfl, j, N, z, hj, rfl, rfl, HW, hN, hz1, hz2⟩ := hrel
    by_cases hlt : j < 8
    · have hju : j < u.size := by have := HZ.out; omega
      have hltz : decide ((j : Int) < 8) = true := by simp; omega
      have hb := u[j].toNat_lt
      have HS := Lib.hid (num_snoc hN.out (by rw [← Lib.size_eq]; exact hju))
      have HI := Lib.hid (list_at u j hju)
      cases hdg : digN u[j].toNat 16 with
      | none =>
        have HG := Lib.hid hdg
        clear hdg
        go_wp2_with (go_at_call 38; refine (unhex_no _ _ hb HG.out).mono ?_; rintro e w1 ⟨rfl, rfl⟩)
        refine bodyPost_ret (results4 rfl _ _ _) rfl ?_
        have e := HS.out
        rw [HI.out, HG.out] at e
        have e2 := num_stop e (show j + 1 ≤ 8 by omega)
        refine ⟨?_, Bw.refl _⟩
        rw [e2]
        rfl
      | some d =>
        have HG := Lib.hid hdg
        have hd16 := digN_lt hdg
        clear hdg
        go_wp2_with (go_at_call 38; refine (unhex_yes _ d _ hb HG.out).mono ?_; rintro e w1 ⟨rfl, rfl⟩)
        go_round
        case rel =>
          have e := HS.out
          rw [HI.out, HG.out] at e
          have o := or16 N d z HW.out hd16
          refine ⟨rfl, j + 1, N * 16 + d, bits .or .i32 (wrap32 (z * 16)) d, by omega, by go_num, rfl, Lib.hid o, Lib.hid e, ?_, ?_⟩
          · rw [o]; unfold wrap32; omega
          · rw [o]; unfold wrap32; omega
        case measure => simp [intOf]; omega
    · obtain rfl : j = 8 := by omega
      have hltz : decide (((8 : Nat) : Int) < 8) = false := by simp
      have hNl := num_lt hN.out
      have hnz : (8 : Int) ≤ u.size := by have := HZ.out; omega
      have hV := Tryd.utf8_ValidRune z
      rw [HW.out, cp_valid (by simp at hNl; omega), ← HW.out] at hV
      cases hcp : cp N with
      | false =>
        rw [hcp] at hV
        have HV := Lib.hid hV
        have HC := Lib.hid hcp
        clear hV hcp
        go_wp2_with (go_at_call 39; refine (HV.out _).mono ?_; rintro e w1 ⟨rfl, rfl⟩)
        refine bodyPost_ret (results4 rfl _ _ _) rfl ?_
        refine ⟨?_, Bw.refl _⟩
        rw [hN.out]
        simp only [HC.out]
        rfl
      | true =>
        rw [hcp] at hV
        have HV := Lib.hid hV
        have HC := Lib.hid hcp
        clear hV hcp
        go_wp2_with (go_at_call 39; refine (HV.out _).mono ?_; rintro e w1 ⟨rfl, rfl⟩)
        refine bodyPost_ret (results4 rfl _ _ _) rfl ?_
        refine ⟨?_, Bw.refl _⟩
        have e1 : z = (N : Int) := by
          have := HC.out
          simp only [cp, decide_eq_true_eq] at this
          rw [HW.out]; exact wrap32_small (by omega)
        rw [hN.out]
        simp only [HC.out, if_true]
        show Ending.returned _ = Ending.returned _
        rw [← HX.out]
        simp [e1]
end Go.Proofs.YtbnginnbpppegaaDoor
