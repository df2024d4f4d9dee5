/-
  The walks over the reference's UnquoteChar and the laws' isQuote.
-/
import Derived.Test.YtidjchoneopmbaaDoorWo
namespace Go.Proofs.YtidjchoneopmbaaDoor
open Go.RowKit Go.Uq

theorem first_bd {l : List UInt8} {q : Nat} {e : El} (hq : q < 128) (h : first l q = some e) : e.v ≤ 1114111 := by
  match l with
  | [] => cases h
  | c :: t =>
    unfold first at h
    simp only at h
    split at h
    · cases h
    split at h
    · rcases esc_kinds hq h with ⟨_, _, h1, _⟩ | ⟨_, _, h1, _⟩ | ⟨_, _, h1, _⟩
      · omega
      · omega
      · simp only [cp, decide_eq_true_eq] at h1; omega
    · split at h
      · cases h; exact Lib.decodeL_rune _
      · cases h
theorem first_none_at (s : ByteArray) (q : Nat) (w : World) (hz : s.size ≤ 9223372036854775807) (hq : q = 0 ∨ q = 34 ∨ q = 39) (h : first s.data.toList q = none) :
    Calls Tryd.prog 18 #[.string s, .int .u8 q] w fun e w' => EscBad e ∧ Bw w w' :=
  (first_calls s q w hz hq).mono fun e w' he => by unfold PostFirst at he; rw [h] at he; exact he
theorem first_some_at (s : ByteArray) (q : Nat) (x : El) (w : World) (hz : s.size ≤ 9223372036854775807) (hq : q = 0 ∨ q = 34 ∨ q = 39) (h : first s.data.toList q = some x) :
    Calls Tryd.prog 18 #[.string s, .int .u8 q] w fun e w' => e = .returned (.tuple #[.agg #[.int .i64 x.v, .bool x.b, .int .i64 x.n, .bool x.w], .bool true]) ∧ Bw w w' :=
  (first_calls s q w hz hq).mono fun e w' he => by unfold PostFirst at he; rw [h] at he; exact he
set_option maxHeartbeats 400000 in
theorem specUC_none (s : ByteArray) (q : Nat) (w : World) (hz : s.size ≤ 9223372036854775807) (hq : q = 0 ∨ q = 34 ∨ q = 39) (h : first s.data.toList q = none) :
    Calls Tryd.prog 16 #[.string s, .int .u8 q] w fun e w' => e = .returned (.tuple #[.int .i32 0, .bool false, .string ⟨#[]⟩, .bool false]) ∧ Bw w w' := by
  have C := Lib.hid (first_none_at s q w hz hq h)
  clear h
  go_enter Tryd.func16, Tryd.ntmps16
  go_wp2_with (go_at_call 18; refine C.out.mono ?_; rintro e w1 ⟨⟨x, y, z, u, rfl⟩, hb1⟩)
  refine bodyPost_ret (results4 rfl _ _ _) rfl ?_
  exact ⟨rfl, hb1.alloc _⟩
def several (e : El) : Bool := !e.b && decide (127 < e.v)
set_option maxHeartbeats 1000000 in
theorem specUC_some (s : ByteArray) (q : Nat) (x : El) (w : World) (hz : s.size ≤ 9223372036854775807) (hq : q = 0 ∨ q = 34 ∨ q = 39) (h : first s.data.toList q = some x) :
    Calls Tryd.prog 16 #[.string s, .int .u8 q] w fun e w' => e = .returned (.tuple #[.int .i32 x.v, .bool (several x), .string (s.extract x.n s.size), .bool true]) ∧ Bw w w' := by
  have C := Lib.hid (first_some_at s q x w hz hq h)
  have hv := first_bd (by omega) h
  have hl := (first_local h).2.1
  rw [← Lib.size_eq] at hl
  clear h
  obtain ⟨v, b, n, wd⟩ := x
  simp only at C hv hl ⊢
  have hlz : (n : Int) ≤ s.size := by omega
  cases b with
  | true =>
    have e : several ⟨v, true, n, wd⟩ = false := rfl
    rw [e]
    go_enter Tryd.func16, Tryd.ntmps16
    go_wp2_with (go_at_call 18; refine C.out.mono ?_; rintro e w1 ⟨rfl, hb1⟩)
    go_quiet (fail)
    go_wp2
    refine bodyPost_ret (results4 rfl _ _ _) rfl ?_
    exact ⟨rfl, (hb1.alloc _).drewN _⟩
  | false =>
    by_cases h127 : 127 < v
    · have e : several ⟨v, false, n, wd⟩ = true := by simp [several, h127]
      rw [e]
      clear e
      have b1 : decide ((127 : Int) < v) = true := by simp; omega
      go_enter Tryd.func16, Tryd.ntmps16
      go_wp2_with (go_at_call 18; refine C.out.mono ?_; rintro e w1 ⟨rfl, hb1⟩)
      go_quiet (fail)
      go_wp2
      refine bodyPost_ret (results4 rfl _ _ _) rfl ?_
      exact ⟨rfl, (hb1.alloc _).drewN _⟩
    · have e : several ⟨v, false, n, wd⟩ = false := by simp [several, h127]
      rw [e]
      clear e
      have b1 : decide ((127 : Int) < v) = false := by simp; omega
      go_enter Tryd.func16, Tryd.ntmps16
      go_wp2_with (go_at_call 18; refine C.out.mono ?_; rintro e w1 ⟨rfl, hb1⟩)
      go_quiet (fail)
      go_wp2
      refine bodyPost_ret (results4 rfl _ _ _) rfl ?_
      exact ⟨rfl, (hb1.alloc _).drewN _⟩
set_option maxHeartbeats 400000 in
/-- laws.isQuote -/
theorem isQuote_yes (q : Nat) (w : World) (hq : q = 0 ∨ q = 34 ∨ q = 39) :
    Calls Tryd.prog 15 #[.int .u8 q] w fun e w' => e = .returned (.bool true) ∧ w = w' := by
  rcases hq with rfl | rfl | rfl
  all_goals
    go_enter Tryd.func15, Tryd.ntmps15
    go_wp2
    go_ret
    exact ⟨rfl, rfl⟩
set_option maxHeartbeats 400000 in
theorem isQuote_no (q : Nat) (w : World) (hq : ¬ (q = 0 ∨ q = 34 ∨ q = 39)) :
    Calls Tryd.prog 15 #[.int .u8 q] w fun e w' => e = .returned (.bool false) ∧ w = w' := by
  have n1 : ((q : Int) == 0) = false := beq_eq_false_iff_ne.2 (by omega)
  have n2 : ((q : Int) == 34) = false := beq_eq_false_iff_ne.2 (by omega)
  have n3 : ((q : Int) == 39) = false := beq_eq_false_iff_ne.2 (by omega)
  clear hq
  go_enter Tryd.func15, Tryd.ntmps15
  go_wp2
  go_ret
  exact ⟨rfl, rfl⟩
end Go.Proofs.YtidjchoneopmbaaDoor
