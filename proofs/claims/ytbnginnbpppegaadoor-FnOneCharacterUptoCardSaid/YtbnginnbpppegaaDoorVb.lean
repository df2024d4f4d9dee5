/-
  The walks over the reference's Unquote and Corner.
-/
import Derived.Test.YtbnginnbpppegaaDoorVa
namespace Go.Proofs.YtbnginnbpppegaaDoor
open Go.RowKit Go.Uq

theorem mid_list (s : ByteArray) (h : 2 ≤ s.size) : (s.extract 1 (s.size - 1)).data.toList = mid s.data.toList := by
  rw [Lib.extract_data]
  unfold mid
  rw [← Lib.size_eq]
  simp
  omega
set_option maxHeartbeats 1000000 in
set_option maxRecDepth 100000 in
theorem specUnq_zero (s : ByteArray) (w : World) (hs : s.size ≤ 9223372036854775807) (h : kind s.data.toList = 0) :
    Calls Tryd.prog 15 #[.string s] w fun e w' => e = .returned (.tuple #[.string ⟨#[]⟩, .bool false]) ∧ Bw w w' := by
  have K := Lib.hid (fun (w : World) => kind_any s w hs)
  rw [h] at K
  clear h
  go_enter Tryd.func15, Tryd.ntmps15
  go_wp2_with (go_at_call 25; refine (K.out _).mono ?_; rintro e w1 ⟨rfl, hb1⟩)
  go_ret2
  exact ⟨rfl, hb1⟩
set_option maxHeartbeats 1000000 in
set_option maxRecDepth 100000 in
theorem specUnq_raw (s : ByteArray) (w : World) (hs : s.size ≤ 140737488355328) (h2 : 2 ≤ s.size) (h : kind s.data.toList = 2) (A : ByteArray) (B : Bool)
    (hr : rawAns (mid s.data.toList) = .returned (.tuple #[.string A, .bool B])) :
    Calls Tryd.prog 15 #[.string s] w fun e w' => e = .returned (.tuple #[.string (if B then A else ⟨#[]⟩), .bool B]) ∧ Bw w w' := by
  have K := Lib.hid (fun (w : World) => kind_any s w (by omega))
  rw [h] at K
  have R := Lib.hid (fun (w : World) => raw_calls (s.extract 1 (s.size - 1)) w (by rw [Lib.size_eq, mid_list s h2]; unfold mid; rw [List.length_take, List.length_drop, ← Lib.size_eq]; omega))
  rw [mid_list s h2, hr] at R
  clear h hr
  have hwr : IntKind.i64.wrap ((s.size : Int) - 1) = ((s.size - 1 : Nat) : Int) := by rw [IntWalk.i64_in _ (by omega)]; omega
  have hz1 : (1 : Int) ≤ ((s.size - 1 : Nat) : Int) := by omega
  have hz2 : ((s.size - 1 : Nat) : Int) ≤ s.size := by omega
  cases B with
  | false =>
    go_enter Tryd.func15, Tryd.ntmps15
    go_wp2_with (first
      | (go_at_call 25; refine (K.out _).mono ?_; rintro e w1 ⟨rfl, hb1⟩)
      | (go_at_call 27; refine (R.out _).mono ?_; rintro e w2 ⟨rfl, hb2⟩))
    go_ret2
    exact ⟨rfl, hb1.trans hb2⟩
  | true =>
    go_enter Tryd.func15, Tryd.ntmps15
    go_wp2_with (first
      | (go_at_call 25; refine (K.out _).mono ?_; rintro e w1 ⟨rfl, hb1⟩)
      | (go_at_call 27; refine (R.out _).mono ?_; rintro e w2 ⟨rfl, hb2⟩))
    go_ret2
    exact ⟨rfl, hb1.trans hb2⟩
set_option maxHeartbeats 1000000 in
set_option maxRecDepth 100000 in
theorem specUnq_bad (s : ByteArray) (q k : Nat) (w : World) (hs : s.size ≤ 4398046511104) (h2 : 2 ≤ s.size) (h : kind s.data.toList = k) (hk : k = 1 ∨ k = 3) (hq : s[0].toNat = q) (hq' : q = 34 ∨ q = 39)
    (he : elems (mid s.data.toList) q = none) :
    Calls Tryd.prog 15 #[.string s] w fun e w' => e = .returned (.tuple #[.string ⟨#[]⟩, .bool false]) ∧ Bw w w' := by
  have K := Lib.hid (fun (w : World) => kind_any s w (by omega))
  rw [h] at K
  have hz : (s.extract 1 (s.size - 1)).size ≤ 4398046511104 := by rw [Lib.size_eq, mid_list s h2]; unfold mid; rw [List.length_take, List.length_drop, ← Lib.size_eq]; omega
  have E := Lib.hid (fun (w : World) => elements_calls (s.extract 1 (s.size - 1)) q w hz (by omega))
  rw [mid_list s h2, he] at E
  clear h he hz
  have hwr : IntKind.i64.wrap ((s.size : Int) - 1) = ((s.size - 1 : Nat) : Int) := by rw [IntWalk.i64_in _ (by omega)]; omega
  have hz1 : (1 : Int) ≤ ((s.size - 1 : Nat) : Int) := by omega
  have hz2 : ((s.size - 1 : Nat) : Int) ≤ s.size := by omega
  have h0 : 0 < s.size := by omega
  have hqz : (s[0].toNat : Int) = q := by omega
  clear hq
  rcases hk with rfl | rfl
  all_goals
    go_enter Tryd.func15, Tryd.ntmps15
    go_wp2_with (first
      | (go_at_call 25; refine (K.out _).mono ?_; rintro e w1 ⟨rfl, hb1⟩)
      | (go_at_call 21; refine (E.out _).mono ?_; rintro e w2 ⟨rfl, hb2⟩))
    go_ret2
    exact ⟨rfl, hb1.trans hb2⟩
theorem add_zero_off (g j : Nat) : (⟨g, 0, none⟩ : Addr).add j = ⟨g, j, none⟩ := by
  unfold Addr.add
  split
  · rename_i h; rw [h]
  · simp
theorem elCells_at : ∀ (es : List El) (k : Nat) (h : k < es.length), (elCells es)[k * 4]? = some (.int .i64 es[k].v) ∧ (elCells es)[k * 4 + 1]? = some (.bool es[k].b) ∧ (elCells es)[k * 4 + 2]? = some (.int .i64 es[k].n) ∧ (elCells es)[k * 4 + 3]? = some (.bool es[k].w)
  | [], k, h => by simp at h
  | e :: t, 0, h => by simp [elCells]
  | e :: t, k + 1, h => by
    have := elCells_at t k (by simpa using h)
    have e1 : elCells (e :: t) = .int .i64 e.v :: .bool e.b :: .int .i64 e.n :: .bool e.w :: elCells t := rfl
    rw [e1, show (k + 1) * 4 = k * 4 + 1 + 1 + 1 + 1 by omega]
    simp only [List.getElem?_cons_succ, show ∀ j, k * 4 + 1 + 1 + 1 + 1 + j = k * 4 + j + 1 + 1 + 1 + 1 from fun j => by omega, List.getElem_cons_succ]
    exact this
theorem elems_len {q : Nat} : ∀ (n : Nat) (l : List UInt8) (es : List El), l.length ≤ n → elems l q = some es → es.length ≤ l.length
  | 0, l, es, hn, h => by
    obtain rfl : l = [] := List.eq_nil_of_length_eq_zero (by omega)
    rw [elems_nil] at h
    cases h
    simp
  | n + 1, l, es, hn, h => by
    rcases elems_inv h with ⟨_, rfl⟩ | ⟨e, es', hf, he, rfl⟩
    · simp
    · have hl := first_local hf
      have := elems_len n _ _ (by rw [List.length_drop]; omega) he
      rw [List.length_drop] at this
      simp only [List.length_cons]
      omega
theorem bytesOf_len (e : El) : (bytesOf e).length ≤ 4 := by
  unfold bytesOf
  split
  · simp
  · unfold Lib.encodeRune; rw [List.length_map]; exact (Lib.encodeRuneZ_length _).2
theorem row_list' (l : List UInt8) : (ByteArray.mk l.toArray).data.toList = l := by simp
theorem row_size' (l : List UInt8) : (ByteArray.mk l.toArray).size = l.length := by rw [Lib.size_eq, row_list']
set_option maxHeartbeats 1000000 in
set_option maxRecDepth 100000 in
theorem specUnq_good (s : ByteArray) (q k : Nat) (es : List El) (w : World) (hs : s.size ≤ 4398046511104) (h2 : 2 ≤ s.size) (h : kind s.data.toList = k) (hk : k = 1 ∨ k = 3) (hq : s[0].toNat = q) (hq' : q = 34 ∨ q = 39)
    (he : elems (mid s.data.toList) q = some es) (h1 : k = 3 → es.length ≤ 1) :
    Calls Tryd.prog 15 #[.string s] w fun e w' => e = .returned (.tuple #[.string ⟨(outOf es).toArray⟩, .bool true]) ∧ Bw w w' := by
  have K := Lib.hid (fun (w : World) => kind_any s w (by omega))
  rw [h] at K
  have hz : (s.extract 1 (s.size - 1)).size ≤ 4398046511104 := by rw [Lib.size_eq, mid_list s h2]; unfold mid; rw [List.length_take, List.length_drop, ← Lib.size_eq]; omega
  have E := Lib.hid (fun (w : World) => elements_calls (s.extract 1 (s.size - 1)) q w hz (by omega))
  rw [mid_list s h2, he] at E
  have hlen : es.length ≤ 4398046511104 := by
    have := elems_len _ _ _ (Nat.le_refl _) he
    unfold mid at this
    rw [List.length_take, List.length_drop, ← Lib.size_eq] at this
    omega
  have OK := Lib.hid (elems_ok (by omega) _ _ _ (Nat.le_refl _) he)
  clear h he hz
  have hwr : IntKind.i64.wrap ((s.size : Int) - 1) = ((s.size - 1 : Nat) : Int) := by rw [IntWalk.i64_in _ (by omega)]; omega
  have hz1 : (1 : Int) ≤ ((s.size - 1 : Nat) : Int) := by omega
  have hz2 : ((s.size - 1 : Nat) : Int) ≤ s.size := by omega
  have h0 : 0 < s.size := by omega
  have hqz : (s[0].toNat : Int) = q := by omega
  clear hq
  have hk3 : k = 3 → decide ((1 : Int) < (es.length : Int)) = false := fun e => decide_eq_false (by have := h1 e; omega)
  clear h1
  rcases hk with rfl | rfl
  all_goals
    (first | (have hk3' := hk3 rfl; clear hk3) | clear hk3)
    go_enter Tryd.func15, Tryd.ntmps15
    go_wp2_with (first
      | (go_at_call 25; refine (K.out _).mono ?_; rintro e w1 ⟨rfl, hb1⟩)
      | (go_at_call 21; refine (E.out _).mono ?_; rintro e w2 ⟨⟨v, rfl, hels⟩, hb2⟩; rcases hels.2 with ⟨rfl, hn0⟩ | ⟨g, cap, cur, rfl, hg, hblk, hcap, hmax, hcsz, hcur⟩))
    · obtain rfl : es = [] := List.eq_nil_of_length_eq_zero hn0
      refine wp_loop_rounds 1 ?_
      rw [rounds_succ]
      go_wp2
      go_ret2
      exact ⟨rfl, hb1.trans hb2⟩
    · clear hblk hcap hmax hcsz hcur
      go_loopg [10, 52] (es.length + 1) (fun gk v i wr => Bw w2 wr ∧ ∃ (k : Nat) (O : ByteArray), v = .string O ∧ i = .int .i64 k ∧ k ≤ es.length ∧ es.length - k < gk ∧ O.size ≤ 4 * k ∧ Hid (O.data.toList = outOf (es.take k)))
      case atStart => exact ⟨Bw.refl _, 0, ⟨#[]⟩, rfl, rfl, by omega, by omega, by simp [ByteArray.size], Lib.hid (by simp [outOf])⟩
      case round =>
        obtain ⟨hb, k, O, rfl, rfl, hk, hgk, hO, hv⟩ := hrel
        by_cases hlt : k < es.length
        · obtain ⟨g', rfl⟩ : ∃ g', gk = g' + 1 := ⟨gk - 1, by omega⟩
          have hltz : decide ((k : Int) < (es.length : Int)) = true := decide_eq_true (by omega)
          have hc := World.ownsRow.cells (hels.bw hb) (g := g) rfl
          obtain ⟨k0, k1, k2, k3⟩ := elCells_at es k hlt
          have c0 := hc _ _ k0
          have c1 := hc _ _ k1
          have c2 := hc _ _ k2
          have c3 := hc _ _ k3
          clear k0 k1 k2 k3 hc
          rw [add_zero_off] at c0 c1 c2 c3
          have BY := Lib.hid (fun (w : World) => bytes_any es[k] w (OK.out _ (List.getElem_mem hlt)))
          have hbl := row_size' (bytesOf es[k])
          have hbl4 := bytesOf_len es[k]
          have HN : Hid (outOf (es.take (k + 1)) = outOf (es.take k) ++ bytesOf es[k]) := Lib.hid (by
            rw [List.take_succ_eq_append_getElem hlt]
            unfold outOf
            rw [List.flatMap_append, List.flatMap_cons, List.flatMap_nil, List.append_nil])
          have hol := row_list' (bytesOf es[k])
          generalize ByteArray.mk (bytesOf es[k]).toArray = P at BY hbl hol
          have HP := Lib.hid hol
          clear hol
          have n1 : ¬ 9223372036854775807 < O.size + P.size := by omega
          go_wp2_with (go_at_call 28; refine (BY.out _).mono ?_; rintro e w3 ⟨rfl, hb3⟩)
          go_roundg g'
          case rel =>
            refine ⟨(hb.alloc _).trans hb3, k + 1, O ++ P, rfl, by simp, by omega, by omega, by rw [app_size]; omega, Lib.hid ?_⟩
            rw [app_list, HN.out, hv.out, HP.out]
          case measure => omega
        · obtain rfl : k = es.length := by omega
          have hltz : decide ((es.length : Int) < (es.length : Int)) = false := by simp
          have HF : Hid (O = ⟨(outOf es).toArray⟩) := Lib.hid (by
            have := hv.out
            rw [List.take_of_length_le (Nat.le_refl _)] at this
            exact ba_list this)
          go_wp2
          go_ret2
          rw [HF.out]
          exact ⟨rfl, (hb1.trans hb2).trans hb⟩
set_option maxHeartbeats 1000000 in
set_option maxRecDepth 100000 in
theorem specUnq_two (s : ByteArray) (es : List El) (w : World) (hs : s.size ≤ 4398046511104) (h2 : 2 ≤ s.size) (h : kind s.data.toList = 3) (hq : s[0].toNat = 39)
    (he : elems (mid s.data.toList) 39 = some es) (h1 : 1 < es.length) :
    Calls Tryd.prog 15 #[.string s] w fun e w' => e = .returned (.tuple #[.string ⟨#[]⟩, .bool false]) ∧ Bw w w' := by
  have K := Lib.hid (fun (w : World) => kind_any s w (by omega))
  rw [h] at K
  have hz : (s.extract 1 (s.size - 1)).size ≤ 4398046511104 := by rw [Lib.size_eq, mid_list s h2]; unfold mid; rw [List.length_take, List.length_drop, ← Lib.size_eq]; omega
  have E := Lib.hid (fun (w : World) => elements_calls (s.extract 1 (s.size - 1)) 39 w hz (by omega))
  rw [mid_list s h2, he] at E
  clear h he hz
  have hwr : IntKind.i64.wrap ((s.size : Int) - 1) = ((s.size - 1 : Nat) : Int) := by rw [IntWalk.i64_in _ (by omega)]; omega
  have hz1 : (1 : Int) ≤ ((s.size - 1 : Nat) : Int) := by omega
  have hz2 : ((s.size - 1 : Nat) : Int) ≤ s.size := by omega
  have h0 : 0 < s.size := by omega
  have hqz : (s[0].toNat : Int) = 39 := by omega
  clear hq
  have h1z : decide ((1 : Int) < (es.length : Int)) = true := decide_eq_true (by omega)
  go_enter Tryd.func15, Tryd.ntmps15
  go_wp2_with (first
    | (go_at_call 25; refine (K.out _).mono ?_; rintro e w1 ⟨rfl, hb1⟩)
    | (go_at_call 21; refine (E.out _).mono ?_; rintro e w2 ⟨⟨v, rfl, hels⟩, hb2⟩; rcases hels.2 with ⟨rfl, hn0⟩ | ⟨g, cap, cur, rfl, hg, hblk, hcap, hmax, hcsz, hcur⟩; (first | omega | skip)))
  go_ret2
  exact ⟨rfl, hb1.trans hb2⟩
/-- what the reference's Unquote answers -/
def ansU (o : Option (List UInt8)) : Ending := match o with
  | none => .returned (.tuple #[.string ⟨#[]⟩, .bool false])
  | some o => .returned (.tuple #[.string ⟨o.toArray⟩, .bool true])
theorem kind_size {s : ByteArray} (h : kind s.data.toList ≠ 0) : 2 ≤ s.size := by
  rcases Nat.lt_or_ge s.size 2 with h2 | h2
  · exfalso
    apply h
    unfold kind
    rw [if_pos (.inl (by rw [← Lib.size_eq]; exact h2))]
  · exact h2
theorem kind_head {s : ByteArray} (h2 : 0 < s.size) (h : kind s.data.toList ≠ 0) : (kind s.data.toList = 1 ∧ s[0].toNat = 34) ∨ (kind s.data.toList = 2 ∧ s[0].toNat = 96) ∨ (kind s.data.toList = 3 ∧ s[0].toNat = 39) := by
  have g0 := list_at s 0 h2
  unfold kind at h ⊢
  rw [g0] at h ⊢
  split at h
  · exact absurd rfl h
  rename_i hn
  rw [if_neg hn]
  split at h
  · rename_i e; left; exact ⟨by rw [if_pos e], e⟩
  rename_i e1
  rw [if_neg e1]
  split at h
  · rename_i e; right; left; exact ⟨by rw [if_pos e], e⟩
  rename_i e2
  rw [if_neg e2]
  split at h
  · rename_i e; right; right; exact ⟨by rw [if_pos e], e⟩
  · exact absurd rfl h
/-- spec.Unquote -/
theorem specUnq_calls (s : ByteArray) (w : World) (hs : s.size ≤ 4398046511104) :
    Calls Tryd.prog 15 #[.string s] w fun e w' => e = ansU (specU s.data.toList) ∧ Bw w w' := by
  by_cases h0 : kind s.data.toList = 0
  · have e : specU s.data.toList = none := by unfold specU; rw [if_pos h0]
    rw [e]
    exact specUnq_zero s w (by omega) h0
  have h2 := kind_size h0
  have g0 := list_at s 0 (by omega)
  rcases kind_head (by omega) h0 with ⟨hk, hc⟩ | ⟨hk, hc⟩ | ⟨hk, hc⟩
  · have e : specU s.data.toList = (elems (mid s.data.toList) 34).map outOf := by
      unfold specU
      rw [if_neg h0, if_neg (by omega), g0, hc, hk]
      cases elems (mid s.data.toList) 34 <;> simp
    rw [e]
    cases he : elems (mid s.data.toList) 34 with
    | none => exact specUnq_bad s 34 1 w hs h2 hk (.inl rfl) hc (.inl rfl) he
    | some es => exact specUnq_good s 34 1 es w hs h2 hk (.inl rfl) hc (.inl rfl) he (by omega)
  · have e : specU s.data.toList = rawS (mid s.data.toList) := by
      unfold specU
      rw [if_neg h0, if_pos hk]
    rw [e]
    unfold rawS
    by_cases h96 : (mid s.data.toList).any (fun c => c.toNat == 96) = true
    · rw [if_pos h96]
      exact specUnq_raw s w (by omega) h2 hk ⟨#[]⟩ false (by unfold rawAns; rw [if_pos h96])
    · rw [if_neg h96]
      have := specUnq_raw s w (by omega) h2 hk ⟨((mid s.data.toList).filter fun c => c.toNat != 13).toArray⟩ (Lib.validD (mid s.data.toList)) (by unfold rawAns; rw [if_neg h96])
      cases hv : Lib.validD (mid s.data.toList) with
      | false => rw [hv] at this; exact this
      | true => rw [hv] at this; exact this
  · have e : specU s.data.toList = match elems (mid s.data.toList) 39 with | none => none | some es => if 1 < es.length then none else some (outOf es) := by
      unfold specU
      rw [if_neg h0, if_neg (by omega), g0, hc]
      cases elems (mid s.data.toList) 39 with
      | none => rfl
      | some es => simp [hk]
    rw [e]
    cases he : elems (mid s.data.toList) 39 with
    | none => exact specUnq_bad s 39 3 w hs h2 hk (.inr rfl) hc (.inr rfl) he
    | some es =>
      simp only
      by_cases h1 : 1 < es.length
      · rw [if_pos h1]
        exact specUnq_two s es w hs h2 hk hc he h1
      · rw [if_neg h1]
        exact specUnq_good s 39 3 es w hs h2 hk (.inr rfl) hc (.inr rfl) he (fun _ => by omega)
end Go.Proofs.YtbnginnbpppegaaDoor
