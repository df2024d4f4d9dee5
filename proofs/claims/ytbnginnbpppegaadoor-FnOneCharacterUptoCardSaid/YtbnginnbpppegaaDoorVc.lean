/-
  The walks over the reference's Corner and QuotedPrefix.
-/
import Derived.Test.YtbnginnbpppegaaDoorVb
import Derived.Test.YtbnginnbpppegaaDoorPl
namespace Go.Proofs.YtbnginnbpppegaaDoor
open Go.RowKit Go.Uq

set_option maxHeartbeats 1000000 in
set_option maxRecDepth 100000 in
theorem corner_text (s : ByteArray) (w : World) (hs : s.size ≤ 4398046511104) (hv : Lib.validD s.data.toList = false) :
    Calls Tryd.prog 12 #[.string s] w fun e w' => e = .returned (.bool true) ∧ Bw w w' := by
  have T := Lib.hid (fun (w : World) => isText_any s w (by omega))
  rw [hv] at T
  clear hv
  go_enter Tryd.func12, Tryd.ntmps12
  go_wp2_with (go_at_call 17; refine (T.out _).mono ?_; rintro e w1 ⟨rfl, hb1⟩)
  go_ret
  exact ⟨rfl, hb1⟩
set_option maxHeartbeats 1000000 in
set_option maxRecDepth 100000 in
theorem corner_kind (s : ByteArray) (w : World) (hs : s.size ≤ 4398046511104) (hv : Lib.validD s.data.toList = true) (hk : kind s.data.toList ≠ 3) :
    Calls Tryd.prog 12 #[.string s] w fun e w' => e = .returned (.bool false) ∧ Bw w w' := by
  have T := Lib.hid (fun (w : World) => isText_any s w (by omega))
  rw [hv] at T
  clear hv
  have K := Lib.hid (fun (w : World) => kind_any s w (by omega))
  generalize kind s.data.toList = k at K hk
  have hkz : ((k : Int) != 3) = true := by rw [bne_iff_ne]; omega
  go_enter Tryd.func12, Tryd.ntmps12
  go_wp2_with (first
    | (go_at_call 17; refine (T.out _).mono ?_; rintro e w1 ⟨rfl, hb1⟩)
    | (go_at_call 25; refine (K.out _).mono ?_; rintro e w2 ⟨rfl, hb2⟩))
  go_ret
  exact ⟨rfl, hb1.trans hb2⟩
set_option maxHeartbeats 1000000 in
set_option maxRecDepth 100000 in
theorem corner_none (s : ByteArray) (w : World) (hs : s.size ≤ 4398046511104) (hv : Lib.validD s.data.toList = true) (hk : kind s.data.toList = 3) (h2 : 2 ≤ s.size) (he : elems (mid s.data.toList) 39 = none) :
    Calls Tryd.prog 12 #[.string s] w fun e w' => e = .returned (.bool false) ∧ Bw w w' := by
  have T := Lib.hid (fun (w : World) => isText_any s w (by omega))
  rw [hv] at T
  clear hv
  have K := Lib.hid (fun (w : World) => kind_any s w (by omega))
  rw [hk] at K
  have hz : (s.extract 1 (s.size - 1)).size ≤ 4398046511104 := by rw [Lib.size_eq, mid_list s h2]; unfold mid; rw [List.length_take, List.length_drop, ← Lib.size_eq]; omega
  have E := Lib.hid (fun (w : World) => elements_calls (s.extract 1 (s.size - 1)) 39 w hz (by omega))
  rw [mid_list s h2, he] at E
  clear hk he hz
  have hwr : IntKind.i64.wrap ((s.size : Int) - 1) = ((s.size - 1 : Nat) : Int) := by rw [IntWalk.i64_in _ (by omega)]; omega
  have hz1 : (1 : Int) ≤ ((s.size - 1 : Nat) : Int) := by omega
  have hz2 : ((s.size - 1 : Nat) : Int) ≤ s.size := by omega
  go_enter Tryd.func12, Tryd.ntmps12
  go_wp2_with (first
    | (go_at_call 17; refine (T.out _).mono ?_; rintro e w1 ⟨rfl, hb1⟩)
    | (go_at_call 25; refine (K.out _).mono ?_; rintro e w2 ⟨rfl, hb2⟩)
    | (go_at_call 21; refine (E.out _).mono ?_; rintro e w3 ⟨rfl, hb3⟩))
  go_ret
  exact ⟨rfl, (hb1.trans hb2).trans hb3⟩
set_option maxHeartbeats 1000000 in
set_option maxRecDepth 100000 in
theorem corner_many (s : ByteArray) (es : List El) (w : World) (hs : s.size ≤ 4398046511104) (hv : Lib.validD s.data.toList = true) (hk : kind s.data.toList = 3) (h2 : 2 ≤ s.size) (he : elems (mid s.data.toList) 39 = some es) (h1 : es.length ≠ 1) :
    Calls Tryd.prog 12 #[.string s] w fun e w' => e = .returned (.bool false) ∧ Bw w w' := by
  have T := Lib.hid (fun (w : World) => isText_any s w (by omega))
  rw [hv] at T
  clear hv
  have K := Lib.hid (fun (w : World) => kind_any s w (by omega))
  rw [hk] at K
  have hz : (s.extract 1 (s.size - 1)).size ≤ 4398046511104 := by rw [Lib.size_eq, mid_list s h2]; unfold mid; rw [List.length_take, List.length_drop, ← Lib.size_eq]; omega
  have E := Lib.hid (fun (w : World) => elements_calls (s.extract 1 (s.size - 1)) 39 w hz (by omega))
  rw [mid_list s h2, he] at E
  clear hk he hz
  have hwr : IntKind.i64.wrap ((s.size : Int) - 1) = ((s.size - 1 : Nat) : Int) := by rw [IntWalk.i64_in _ (by omega)]; omega
  have hz1 : (1 : Int) ≤ ((s.size - 1 : Nat) : Int) := by omega
  have hz2 : ((s.size - 1 : Nat) : Int) ≤ s.size := by omega
  have h1z : ((es.length : Int) == 1) = false := beq_eq_false_iff_ne.2 (by omega)
  go_enter Tryd.func12, Tryd.ntmps12
  go_wp2_with (first
    | (go_at_call 17; refine (T.out _).mono ?_; rintro e w1 ⟨rfl, hb1⟩)
    | (go_at_call 25; refine (K.out _).mono ?_; rintro e w2 ⟨rfl, hb2⟩)
    | (go_at_call 21; refine (E.out _).mono ?_; rintro e w3 ⟨⟨v, rfl, hels⟩, hb3⟩; rcases hels.2 with ⟨rfl, hn0⟩ | ⟨g, cap, cur, rfl, hg, hblk, hcap, hmax, hcsz, hcur⟩))
  all_goals
    go_ret
    exact ⟨rfl, (hb1.trans hb2).trans hb3⟩
set_option maxHeartbeats 1000000 in
set_option maxRecDepth 100000 in
theorem corner_one (s : ByteArray) (x : El) (w : World) (hs : s.size ≤ 4398046511104) (hv : Lib.validD s.data.toList = true) (hk : kind s.data.toList = 3) (h2 : 2 ≤ s.size) (he : elems (mid s.data.toList) 39 = some [x]) :
    Calls Tryd.prog 12 #[.string s] w fun e w' => e = .returned (.bool (x.b && decide (127 < (x.v : Int)))) ∧ Bw w w' := by
  have T := Lib.hid (fun (w : World) => isText_any s w (by omega))
  rw [hv] at T
  clear hv
  have K := Lib.hid (fun (w : World) => kind_any s w (by omega))
  rw [hk] at K
  have hz : (s.extract 1 (s.size - 1)).size ≤ 4398046511104 := by rw [Lib.size_eq, mid_list s h2]; unfold mid; rw [List.length_take, List.length_drop, ← Lib.size_eq]; omega
  have E := Lib.hid (fun (w : World) => elements_calls (s.extract 1 (s.size - 1)) 39 w hz (by omega))
  rw [mid_list s h2, he] at E
  clear hk he hz
  have hwr : IntKind.i64.wrap ((s.size : Int) - 1) = ((s.size - 1 : Nat) : Int) := by rw [IntWalk.i64_in _ (by omega)]; omega
  have hz1 : (1 : Int) ≤ ((s.size - 1 : Nat) : Int) := by omega
  have hz2 : ((s.size - 1 : Nat) : Int) ≤ s.size := by omega
  obtain ⟨v, b, n, d⟩ := x
  simp only
  cases b
  all_goals
    go_enter Tryd.func12, Tryd.ntmps12
    go_wp2_with (first
      | (go_at_call 17; refine (T.out _).mono ?_; rintro e w1 ⟨rfl, hb1⟩)
      | (go_at_call 25; refine (K.out _).mono ?_; rintro e w2 ⟨rfl, hb2⟩)
      | (go_at_call 21; refine (E.out _).mono ?_; rintro e w3 ⟨⟨v, rfl, hels⟩, hb3⟩; rcases hels.2 with ⟨rfl, hn0⟩ | ⟨g, cap, cur, rfl, hg, hblk, hcap, hmax, hcsz, hcur⟩; (exact absurd hn0 (by simp)); have hc := World.ownsRow.cells hels (g := g) rfl; have c0 := hc 0 _ rfl; have c1 := hc 1 _ rfl; rw [add_zero_off] at c0 c1; clear hc hblk hcap hmax hcsz hcur))
    go_ret
    exact ⟨by simp, (hb1.trans hb2).trans hb3⟩
/-- spec.Corner: what is no corner is a text -/
theorem corner_any (s : ByteArray) (hs : s.size ≤ 4398046511104) : ∃ B : Bool, (B = false → Lib.validD s.data.toList = true) ∧ ∀ w : World, Calls Tryd.prog 12 #[.string s] w fun e w' => e = .returned (.bool B) ∧ Bw w w' := by
  cases hv : Lib.validD s.data.toList with
  | false => exact ⟨true, fun e => by (cases e), fun w => corner_text s w hs hv⟩
  | true =>
    by_cases hk : kind s.data.toList = 3
    rotate_left
    · exact ⟨false, fun _ => rfl, fun w => corner_kind s w hs hv hk⟩
    have h2 : 2 ≤ s.size := kind_size (by omega)
    cases he : elems (mid s.data.toList) 39 with
    | none => exact ⟨false, fun _ => rfl, fun w => corner_none s w hs hv hk h2 he⟩
    | some es =>
      by_cases h1 : es.length = 1
      · obtain ⟨x, rfl⟩ := List.length_eq_one_iff.1 h1
        exact ⟨_, fun _ => rfl, fun w => corner_one s x w hs hv hk h2 he⟩
      · exact ⟨false, fun _ => rfl, fun w => corner_many s es w hs hv hk h2 he h1⟩
theorem spqF_step {l : List UInt8} {n : Nat} (h : n ≤ l.length) : spqF l (l.length + 1 - n) = if (specU (l.take n)).isSome then some (l.take n) else spqF l (l.length + 1 - (n + 1)) := by
  rw [show l.length + 1 - n = (l.length - n) + 1 by omega, show l.length + 1 - (n + 1) = l.length - n by omega]
  conv => lhs; unfold spqF
  rw [show l.length - (l.length - n) = n by omega]
set_option maxHeartbeats 1000000 in
set_option maxRecDepth 100000 in
/-- spec.QuotedPrefix -/
theorem specQP_calls (s : ByteArray) (w : World) (hs : s.size ≤ 4398046511104) :
    Calls Tryd.prog 13 #[.string s] w fun e w' => e = ansU (spq s.data.toList) ∧ Bw w w' := by
  obtain ⟨ANS, hA⟩ : ∃ ANS, spq s.data.toList = ANS := ⟨_, rfl⟩
  rw [hA]
  have HA : Hid (spqF s.data.toList (s.data.toList.length + 1 - 2) = ANS) := Lib.hid (by rw [← hA]; rfl)
  clear hA
  have HL := Lib.hid (Lib.size_eq s)
  go_enter Tryd.func13, Tryd.ntmps13
  go_wp2
  go_loopg [4] (s.size + 1) (fun gk v wr => Bw w wr ∧ ∃ n : Nat, v = .int .i64 n ∧ 2 ≤ n ∧ n ≤ s.size + 2 ∧ s.size + 1 - n < gk ∧ Hid (spqF s.data.toList (s.data.toList.length + 1 - n) = ANS))
  case atStart => exact ⟨Bw.refl _, 2, rfl, by omega, by omega, by omega, HA⟩
  case round =>
    obtain ⟨hb, n, rfl, h2, hn, hg, hv⟩ := hrel
    clear HA
    by_cases h0 : n ≤ s.size
    · obtain ⟨g', rfl⟩ : ∃ g', gk = g' + 1 := ⟨gk - 1, by omega⟩
      have h0z : decide ((n : Int) ≤ (s.size : Int)) = true := decide_eq_true (by omega)
      have h0y : (n : Int) ≤ (s.size : Int) := by omega
      have hz : (s.extract 0 n).size ≤ 4398046511104 := by rw [Lib.size_eq, take_list, List.length_take, ← Lib.size_eq]; omega
      have U := Lib.hid (fun (w : World) => specUnq_calls (s.extract 0 n) w hz)
      rw [take_list] at U
      have HS := Lib.hid (spqF_step (l := s.data.toList) (n := n) (by rw [← Lib.size_eq]; exact h0))
      cases hx : specU (s.data.toList.take n) with
      | none =>
        rw [hx] at U HS
        simp only [ansU] at U
        have HV : Hid (spqF s.data.toList (s.data.toList.length + 1 - (n + 1)) = ANS) := Lib.hid (by
          have := HS.out
          rw [hv.out] at this
          rw [this]
          rfl)
        clear hx HS hv hz
        go_wp2_with (go_at_call 15; refine (U.out _).mono ?_; rintro e w1 ⟨rfl, hb1⟩)
        go_roundg g'
        case rel => exact ⟨hb.trans hb1, n + 1, by simp, by omega, by omega, by omega, HV⟩
        case measure => omega
      | some o =>
        rw [hx] at U HS
        simp only [ansU] at U
        have e : ANS = some (s.data.toList.take n) := by
          have := HS.out
          rw [hv.out] at this
          rw [this]
          rfl
        clear HS hv hz hx
        go_wp2_with (go_at_call 15; refine (U.out _).mono ?_; rintro e w1 ⟨rfl, hb1⟩)
        go_ret2
        rw [e]
        refine ⟨?_, hb.trans hb1⟩
        unfold ansU
        rw [ba_list (take_list s n)]
        rfl
    · have h0z : decide ((n : Int) ≤ (s.size : Int)) = false := decide_eq_false (by omega)
      have e : ANS = none := by
        rw [← hv.out, show s.data.toList.length + 1 - n = 0 by rw [← Lib.size_eq]; omega]
        rfl
      clear hv
      go_wp2
      go_ret2
      rw [e]
      exact ⟨rfl, hb⟩
/-- spec.Unquote, by what it answers -/
theorem specUnq_gen (s : ByteArray) (hs : s.size ≤ 4398046511104) : ∃ (O : ByteArray) (B : Bool), (B = true → specU s.data.toList = some O.data.toList) ∧ (B = false → specU s.data.toList = none) ∧
    ∀ w : World, Calls Tryd.prog 15 #[.string s] w fun e w' => e = .returned (.tuple #[.string O, .bool B]) ∧ Bw w w' := by
  have h := fun w => specUnq_calls s w hs
  cases hx : specU s.data.toList with
  | none =>
    rw [hx] at h
    exact ⟨⟨#[]⟩, false, fun e => by (cases e), fun _ => rfl, h⟩
  | some o =>
    rw [hx] at h
    exact ⟨⟨o.toArray⟩, true, fun _ => by simp, fun e => by (cases e), h⟩
/-- spec.QuotedPrefix, by what it answers -/
theorem specQP_gen (s : ByteArray) (hs : s.size ≤ 4398046511104) : ∃ (O : ByteArray) (B : Bool), (B = true → spq s.data.toList = some O.data.toList) ∧ (B = false → spq s.data.toList = none) ∧
    ∀ w : World, Calls Tryd.prog 13 #[.string s] w fun e w' => e = .returned (.tuple #[.string O, .bool B]) ∧ Bw w w' := by
  have h := fun w => specQP_calls s w hs
  cases hx : spq s.data.toList with
  | none =>
    rw [hx] at h
    exact ⟨⟨#[]⟩, false, fun e => by (cases e), fun _ => rfl, h⟩
  | some o =>
    rw [hx] at h
    exact ⟨⟨o.toArray⟩, true, fun _ => by simp, fun e => by (cases e), h⟩
/-- spec.Elements, by what it answers: how many elements there are -/
theorem elements_gen (s : ByteArray) (q : Nat) (es : List El) (w : World) (hs : s.size ≤ 4398046511104) (hq : q = 0 ∨ q = 34 ∨ q = 39) (h : elems s.data.toList q = some es) :
    Calls Tryd.prog 21 #[.string s, .int .u8 q] w fun e w' => (∃ p c, e = .returned (.tuple #[.slice p es.length c, .bool true])) ∧ Bw w w' := by
  have c := elements_calls s q w hs hq
  rw [h] at c
  refine c.mono ?_
  rintro e w' ⟨⟨v, rfl, hels⟩, hb⟩
  refine ⟨?_, hb⟩
  rcases hels.2 with ⟨rfl, hn0⟩ | ⟨g, cap, cur, rfl, _⟩
  · rw [hn0]
    exact ⟨_, _, rfl⟩
  · exact ⟨_, _, rfl⟩
theorem elements_none (s : ByteArray) (q : Nat) (w : World) (hs : s.size ≤ 4398046511104) (hq : q = 0 ∨ q = 34 ∨ q = 39) (h : elems s.data.toList q = none) :
    Calls Tryd.prog 21 #[.string s, .int .u8 q] w fun e w' => e = .returned (.tuple #[.slice none 0 0, .bool false]) ∧ Bw w w' := by
  have c := elements_calls s q w hs hq
  rw [h] at c
  exact c
end Go.Proofs.YtbnginnbpppegaaDoor
