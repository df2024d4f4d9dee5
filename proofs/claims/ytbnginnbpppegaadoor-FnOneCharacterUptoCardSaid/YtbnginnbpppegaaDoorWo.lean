/-
  The walk over the reference's First and UnquoteChar.
-/
import Derived.Test.YtbnginnbpppegaaDoorWn
namespace Go.Proofs.YtbnginnbpppegaaDoor
open Go.RowKit Go.Uq

def PostFirst (l : List UInt8) (q : Nat) (w : World) (e : Ending) (w' : World) : Prop :=
  (match first l q with
  | none => EscBad e
  | some x => e = escGood x) ∧ Bw w w'
theorem postFirst_none {l : List UInt8} {q : Nat} {w : World} {e : Ending} {w' : World} (h : first l q = none) (he : EscBad e ∧ Bw w w') : PostFirst l q w e w' := by
  unfold PostFirst; rw [h]; exact he
theorem postFirst_some {l : List UInt8} {q : Nat} {x : El} {w : World} {e : Ending} {w' : World} (h : first l q = some x) (he : e = escGood x ∧ Bw w w') : PostFirst l q w e w' := by
  unfold PostFirst; rw [h]; exact he
/-- a block of four cells that was laid, behind a call that keeps what was there -/
theorem kept4 {w w1 : World} {a b c d : Value} {t : TypeId} (hb : Bw (w.alloc (.cells #[a, b, c, d] t)) w1) :
    w1.cell? ⟨w.heap.size, 0, none⟩ = some a ∧ w1.cell? ⟨w.heap.size, 1, none⟩ = some b ∧ w1.cell? ⟨w.heap.size, 2, none⟩ = some c ∧ w1.cell? ⟨w.heap.size, 3, none⟩ = some d ∧
    w1.frozen? ⟨w.heap.size, 0, none⟩ = false ∧ w1.frozen? ⟨w.heap.size, 1, none⟩ = false ∧ w1.frozen? ⟨w.heap.size, 2, none⟩ = false ∧ w1.frozen? ⟨w.heap.size, 3, none⟩ = false ∧ w.heap.size < w1.heap.size := by
  have hz := hb.size
  simp only [World.size_alloc] at hz
  refine ⟨?_, ?_, ?_, ?_, ?_, ?_, ?_, ?_, by omega⟩
  · rw [Below.cell hb (by simp)]; simp [go_sem]
  · rw [Below.cell hb (by simp)]; simp [go_sem]
  · rw [Below.cell hb (by simp)]; simp [go_sem]
  · rw [Below.cell hb (by simp)]; simp [go_sem]
  · rw [Below.frozen hb (by simp)]; simp [go_sem]
  · rw [Below.frozen hb (by simp)]; simp [go_sem]
  · rw [Below.frozen hb (by simp)]; simp [go_sem]
  · rw [Below.frozen hb (by simp)]; simp [go_sem]
set_option maxHeartbeats 400000 in
theorem first_empty (s : ByteArray) (q : Nat) (w : World) (h : ¬ 0 < s.size) :
    Calls Tryd.prog 30 #[.string s, .int .u8 q] w fun e w' => EscBad e ∧ Bw w w' := by
  have he := is_empty h
  go_enter Tryd.func30, Tryd.ntmps30
  go_wp2
  exact bodyPost_ret (v := .tuple #[.agg #[.int .i64 0, .bool false, .int .i64 0, .bool false], .bool false]) (by simp [results, Tryd.results30, go_sem]) rfl ⟨⟨0, false, 0, false, rfl⟩, (Bw.refl _).alloc _⟩
set_option maxHeartbeats 400000 in
theorem first_lf (s : ByteArray) (q : Nat) (w : World) (h : 0 < s.size) (hc : s[0].toNat = 10) :
    Calls Tryd.prog 30 #[.string s, .int .u8 q] w fun e w' => EscBad e ∧ Bw w w' := by
  have he := ne_empty h
  go_enter Tryd.func30, Tryd.ntmps30
  go_wp2
  exact bodyPost_ret (v := .tuple #[.agg #[.int .i64 0, .bool false, .int .i64 0, .bool false], .bool false]) (by simp [results, Tryd.results30, go_sem]) rfl ⟨⟨0, false, 0, false, rfl⟩, (Bw.refl _).alloc _⟩
set_option maxHeartbeats 400000 in
theorem first_quote (s : ByteArray) (q : Nat) (w : World) (h : 0 < s.size) (hc : s[0].toNat = q) (h10 : q ≠ 10) (hq : q ≠ 0) :
    Calls Tryd.prog 30 #[.string s, .int .u8 q] w fun e w' => EscBad e ∧ Bw w w' := by
  have he := ne_empty h
  have n1 : ((q : Int) == 10) = false := beq_eq_false_iff_ne.2 (by omega)
  have n2 : ((q : Int) != 0) = true := by rw [bne_iff_ne]; omega
  go_enter Tryd.func30, Tryd.ntmps30
  go_wp2
  exact bodyPost_ret (v := .tuple #[.agg #[.int .i64 0, .bool false, .int .i64 0, .bool false], .bool false]) (by simp [results, Tryd.results30, go_sem]) rfl ⟨⟨0, false, 0, false, rfl⟩, (Bw.refl _).alloc _⟩
set_option maxHeartbeats 1000000 in
theorem first_esc (s : ByteArray) (q : Nat) (w : World) (hz : s.size ≤ 9223372036854775807) (h : 0 < s.size) (hc : s[0].toNat = 92) (hq3 : q = 0 ∨ q = 34 ∨ q = 39) :
    Calls Tryd.prog 30 #[.string s, .int .u8 q] w (PostFirst s.data.toList q w) := by
  have he := ne_empty h
  have hE : first s.data.toList q = esc (s.data.toList.drop 1) q := by
    have hl := head_list s h
    generalize s.data.toList.drop 1 = L at hl ⊢
    rw [hl]
    unfold first
    simp only [hc, if_true]
    rw [if_neg (by omega)]
  have h1z : (1 : Int) ≤ s.size := by omega
  have h0z : (0 : Int) < s.size := by omega
  rw [← Lib.extract_to_end] at hE
  have hrs := rest_size s 1
  have htz : (s.extract 1 s.size).size ≤ 9223372036854775807 := by omega
  clear hrs
  generalize hT : s.extract 1 s.size = T at hE htz
  have c0 := fun (w : World) => esc_calls T q w htz hq3
  have C0 := Lib.hid c0
  clear c0
  have hqq : ¬ (q ≠ 0 ∧ 92 = q) := by omega
  clear hq3
  cases hx : esc T.data.toList q with
  | none =>
    rw [hx] at hE
    have HE := Lib.hid hE
    have HX := Lib.hid hx
    clear hE hx
    rcases not_quote hqq with ⟨q1, rfl⟩ | ⟨q1, q2⟩
    all_goals
      clear hqq
      go_enter Tryd.func30, Tryd.ntmps30
      go_wp2_with (go_at_call 36; refine (C0.out _).mono ?_; intro e w1 hp; unfold PostEsc at hp; rw [HX.out] at hp; obtain ⟨⟨x, y, z, u, rfl⟩, hb1⟩ := hp; obtain ⟨k0, k1, k2, k3, f0, f1, f2, f3, hlt⟩ := kept4 hb1)
      refine bodyPost_ret (v := .tuple #[.agg #[.int .i64 0, .bool false, .int .i64 0, .bool false], .bool false]) (by simp [results, Tryd.results30, go_sem, k0, k1, k2, k3, hlt]) rfl ?_
      refine postFirst_none HE.out ⟨⟨_, _, _, _, rfl⟩, ?_⟩
      have hbw : Bw w w1 := ((Bw.refl _).alloc _).trans hb1
      repeat (first | exact hbw | refine Bw.setCell ?_ (by simp) _ | refine Bw.alloc ?_ _)
  | some x =>
    rw [hx] at hE
    have HE := Lib.hid hE
    have HX := Lib.hid hx
    clear hE hx
    rcases not_quote hqq with ⟨q1, rfl⟩ | ⟨q1, q2⟩
    all_goals
      clear hqq
      go_enter Tryd.func30, Tryd.ntmps30
      go_wp2_with (go_at_call 36; refine (C0.out _).mono ?_; intro e w1 hp; unfold PostEsc at hp; rw [HX.out] at hp; unfold escGood at hp; obtain ⟨rfl, hb1⟩ := hp; obtain ⟨k0, k1, k2, k3, f0, f1, f2, f3, hlt⟩ := kept4 hb1)
      refine bodyPost_ret (v := .tuple #[.agg #[.int .i64 x.v, .bool x.b, .int .i64 x.n, .bool x.w], .bool true]) (by simp [results, Tryd.results30, go_sem, k0, k1, k2, k3, hlt]) rfl ?_
      refine postFirst_some HE.out ⟨rfl, ?_⟩
      have hbw : Bw w w1 := ((Bw.refl _).alloc _).trans hb1
      repeat (first | exact hbw | refine Bw.setCell ?_ (by simp) _ | refine Bw.alloc ?_ _)
set_option maxHeartbeats 1000000 in
theorem first_char (s : ByteArray) (q c : Nat) (w : World) (hz : s.size ≤ 9223372036854775807) (h : 0 < s.size) (hc : s[0].toNat = c) (h92 : c ≠ 92) (h10 : c ≠ 10) (hqq : ¬ (q ≠ 0 ∧ c = q)) :
    Calls Tryd.prog 30 #[.string s, .int .u8 q] w (PostFirst s.data.toList q w) := by
  have he := ne_empty h
  have hE : first s.data.toList q = if good s.data.toList then some ⟨(Lib.decodeL s.data.toList).1, false, (Lib.decodeL s.data.toList).2, false⟩ else none := by
    have hl := head_list s h
    generalize s.data.toList = L at hl ⊢
    rw [hl]
    unfold first
    simp only [hc, if_neg h92]
    rw [if_neg (fun hh => hh.elim h10 hqq)]
  have n1 : ((c : Int) == 10) = false := beq_eq_false_iff_ne.2 (by omega)
  have n2 : ((c : Int) == 92) = false := beq_eq_false_iff_ne.2 (by omega)
  cases hg : good s.data.toList with
  | true =>
    obtain ⟨r, k, hd, hsd, hk1, hk2, hr⟩ := char_at h hg
    rw [hg, hd, if_pos rfl] at hE
    have HE := Lib.hid hE
    have HS := Lib.hid hsd
    clear hE hg hd hsd
    have hk0 : decide ((0 : Int) < (k : Int)) = true := by simp; omega
    rcases not_quote hqq with ⟨q1, rfl⟩ | ⟨q1, q2⟩
    all_goals
      clear hqq
      go_enter Tryd.func30, Tryd.ntmps30
      go_wp2_with (go_at_call 29; refine (decode_at s _ r k hz HS.out).mono ?_; rintro e w1 ⟨rfl, hb1⟩; obtain ⟨k0, k1, k2, k3, f0, f1, f2, f3, hlt⟩ := kept4 hb1)
      refine bodyPost_ret (v := .tuple #[.agg #[.int .i64 r, .bool false, .int .i64 k, .bool false], .bool true]) (by simp [results, Tryd.results30, go_sem, k0, k1, k2, k3]; omega) rfl ?_
      refine postFirst_some HE.out ⟨rfl, ?_⟩
      have hbw : Bw w w1 := ((Bw.refl _).alloc _).trans hb1
      repeat (first | exact hbw | refine Bw.setCell ?_ (by simp) _ | refine Bw.alloc ?_ _)
  | false =>
    rw [hg, if_neg (by simp)] at hE
    have HE := Lib.hid hE
    have HS := Lib.hid (char_none hg)
    clear hE hg
    rcases not_quote hqq with ⟨q1, rfl⟩ | ⟨q1, q2⟩
    all_goals
      clear hqq
      go_enter Tryd.func30, Tryd.ntmps30
      go_wp2_with (go_at_call 29; refine (decode_at s _ 0 0 hz HS.out).mono ?_; rintro e w1 ⟨rfl, hb1⟩; obtain ⟨k0, k1, k2, k3, f0, f1, f2, f3, hlt⟩ := kept4 hb1)
      refine bodyPost_ret (v := .tuple #[.agg #[.int .i64 0, .bool false, .int .i64 0, .bool false], .bool false]) (by simp [results, Tryd.results30, go_sem, k0, k1, k2, k3]) rfl ?_
      refine postFirst_none HE.out ⟨⟨_, _, _, _, rfl⟩, ?_⟩
      have hbw : Bw w w1 := ((Bw.refl _).alloc _).trans hb1
      repeat (first | exact hbw | refine Bw.setCell ?_ (by simp) _ | refine Bw.alloc ?_ _)
/-- spec.First -/
theorem first_calls (s : ByteArray) (q : Nat) (w : World) (hz : s.size ≤ 9223372036854775807) (hq : q = 0 ∨ q = 34 ∨ q = 39) :
    Calls Tryd.prog 30 #[.string s, .int .u8 q] w (PostFirst s.data.toList q w) := by
  by_cases h : 0 < s.size
  · have hl := head_list s h
    obtain ⟨c, hc⟩ : ∃ c, s[0].toNat = c := ⟨_, rfl⟩
    by_cases h10 : c = 10
    · have hE : first s.data.toList q = none := by rw [hl]; unfold first; simp only [hc]; rw [if_pos (.inl h10)]
      exact (first_lf s q w h (hc.trans h10)).mono fun e w' he => postFirst_none hE he
    by_cases hcq : q ≠ 0 ∧ c = q
    · have hE : first s.data.toList q = none := by rw [hl]; unfold first; simp only [hc]; rw [if_pos (.inr hcq)]
      exact (first_quote s q w h (hc.trans hcq.2) (by omega) hcq.1).mono fun e w' he => postFirst_none hE he
    by_cases h92 : c = 92
    · exact first_esc s q w hz h (hc.trans h92) hq
    · exact first_char s q c w hz h hc h92 h10 hcq
  · exact (first_empty s q w h).mono fun e w' he => postFirst_none (by rw [empty_of_size h]; rfl) he
end Go.Proofs.YtbnginnbpppegaaDoor
