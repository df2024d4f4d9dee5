/-
  The walk over the reference's Encode.
-/
import Derived.Test.YtbnginnbpppegaaDoorWa
namespace Go.Proofs.YtbnginnbpppegaaDoor
open Go.RowKit Go.Uq

/-- string(b), b a row of bytes in a block that is known -/
theorem conv_row (W : World) (g n : Nat) (xs : List Int) (hl : xs.length = n) (h : ∀ i, i < n → W.cell? ⟨g, i, none⟩ = some (.int .u8 (xs.getD i 0))) (cap : Nat) :
    (convert 31 9 (.slice (some ⟨g, 0, none⟩) n cap)).run Tryd.prog W = .ok (.string (strOfNums xs)) W :=
  run_convert_bytes_arg W 31 5 Tryd.underlying31 Tryd.underlying5 g 0 n cap xs hl (fun i hi => by rw [Nat.zero_add]; exact h i hi) 9 Tryd.underlying9
theorem conv1 (W : World) (a : Int) : (convert 31 9 (.slice (some ⟨W.heap.size, 0, none⟩) 1 1)).run Tryd.prog (W.alloc (.cells #[.int .u8 a] 5)) = .ok (.string (strOfNums [a])) (W.alloc (.cells #[.int .u8 a] 5)) :=
  conv_row _ _ 1 [a] rfl (fun i hi => by
    obtain rfl : i = 0 := by omega
    simp [go_sem]) 1
theorem conv2 (W : World) (a b : Int) (o : Obj) : (convert 31 9 (.slice (some ⟨W.heap.size, 0, none⟩) 2 2)).run Tryd.prog ((W.alloc (.cells #[.int .u8 a, .int .u8 b] 5)).alloc o) = .ok (.string (strOfNums [a, b])) ((W.alloc (.cells #[.int .u8 a, .int .u8 b] 5)).alloc o) :=
  conv_row _ _ 2 [a, b] rfl (fun i hi => by
    have h : i = 0 ∨ i = 1 := by omega
    rcases h with rfl | rfl <;> simp [go_sem]) 2
theorem make2 (W : World) : (Instr.makeSlice 31 (.int .i64 2) (.int .i64 2)).run Tryd.prog W = .ok (.slice (some ⟨W.heap.size, 0, none⟩) 2 2) (W.alloc (.cells #[.int .u8 0, .int .u8 0] 5)) := by kernel_rfl
theorem conv3 (W : World) (a b c : Int) (o : Obj) : (convert 31 9 (.slice (some ⟨W.heap.size, 0, none⟩) 3 3)).run Tryd.prog ((W.alloc (.cells #[.int .u8 a, .int .u8 b, .int .u8 c] 5)).alloc o) = .ok (.string (strOfNums [a, b, c])) ((W.alloc (.cells #[.int .u8 a, .int .u8 b, .int .u8 c] 5)).alloc o) :=
  conv_row _ _ 3 [a, b, c] rfl (fun i hi => by
    have h : i = 0 ∨ i = 1 ∨ i = 2 := by omega
    rcases h with rfl | rfl | rfl <;> simp [go_sem]) 3
theorem make3 (W : World) : (Instr.makeSlice 31 (.int .i64 3) (.int .i64 3)).run Tryd.prog W = .ok (.slice (some ⟨W.heap.size, 0, none⟩) 3 3) (W.alloc (.cells #[.int .u8 0, .int .u8 0, .int .u8 0] 5)) := by kernel_rfl
theorem conv4 (W : World) (a b c d : Int) (o : Obj) : (convert 31 9 (.slice (some ⟨W.heap.size, 0, none⟩) 4 4)).run Tryd.prog ((W.alloc (.cells #[.int .u8 a, .int .u8 b, .int .u8 c, .int .u8 d] 5)).alloc o) = .ok (.string (strOfNums [a, b, c, d])) ((W.alloc (.cells #[.int .u8 a, .int .u8 b, .int .u8 c, .int .u8 d] 5)).alloc o) :=
  conv_row _ _ 4 [a, b, c, d] rfl (fun i hi => by
    have h : i = 0 ∨ i = 1 ∨ i = 2 ∨ i = 3 := by omega
    rcases h with rfl | rfl | rfl | rfl <;> simp [go_sem]) 4
theorem make4 (W : World) : (Instr.makeSlice 31 (.int .i64 4) (.int .i64 4)).run Tryd.prog W = .ok (.slice (some ⟨W.heap.size, 0, none⟩) 4 4) (W.alloc (.cells #[.int .u8 0, .int .u8 0, .int .u8 0, .int .u8 0] 5)) := by kernel_rfl
set_option maxHeartbeats 400000 in
theorem encode_one (r : Int) (w : World) (h0 : 0 ≤ r) (h1 : r ≤ 127) :
    Calls Tryd.prog 24 #[.int .i64 r] w fun e w' => e = .returned (.string (strOfNums [r])) ∧ Bw w w' := by
  have hcp : 0 ≤ r ∧ r ≤ 1114111 ∧ (r < 55296 ∨ 57343 < r) := by omega
  have hcv := conv1
  go_enter Tryd.func24, Tryd.ntmps24
  go_wp2_with (go_at_call 33; refine (isCodePoint_yes _ _ hcp).mono ?_; rintro e w' ⟨rfl, rfl⟩)
  refine wp_loop_rounds 1 ?_
  rw [rounds_succ]
  go_wp2
  go_ret
  exact ⟨rfl, (Bw.refl _).alloc _⟩
set_option maxHeartbeats 400000 in
theorem encode_two (r : Int) (w : World) (h0 : 128 ≤ r) (h1 : r ≤ 2047) :
    Calls Tryd.prog 24 #[.int .i64 r] w fun e w' => e = .returned (.string (strOfNums [192 + r / 64, 128 + r % 64])) ∧ Bw w w' := by
  have hcp : 0 ≤ r ∧ r ≤ 1114111 ∧ (r < 55296 ∨ 57343 < r) := by omega
  have hcv := conv2
  have hmk := make2
  go_enter Tryd.func24, Tryd.ntmps24
  go_wp2_with (go_at_call 33; refine (isCodePoint_yes _ _ hcp).mono ?_; rintro e w' ⟨rfl, rfl⟩)
  refine wp_loop_rounds 2 ?_
  rw [rounds_succ]
  go_wp2
  rw [rounds_succ]
  go_wp2
  refine wp_loop_rounds 2 ?_
  rw [rounds_succ]
  go_wp2
  rw [rounds_succ]
  go_wp2
  go_ret
  exact ⟨rfl, ((Bw.refl _).alloc _).alloc _⟩
set_option maxHeartbeats 400000 in
theorem encode_three (r : Int) (w : World) (h0 : 2048 ≤ r) (h1 : r ≤ 65535) (h2 : r < 55296 ∨ 57343 < r) :
    Calls Tryd.prog 24 #[.int .i64 r] w fun e w' => e = .returned (.string (strOfNums [224 + r / 64 / 64, 128 + r / 64 % 64, 128 + r % 64])) ∧ Bw w w' := by
  have hcp : 0 ≤ r ∧ r ≤ 1114111 ∧ (r < 55296 ∨ 57343 < r) := by omega
  have hcv := conv3
  have hmk := make3
  go_enter Tryd.func24, Tryd.ntmps24
  go_wp2_with (go_at_call 33; refine (isCodePoint_yes _ _ hcp).mono ?_; rintro e w' ⟨rfl, rfl⟩)
  refine wp_loop_rounds 3 ?_
  rw [rounds_succ]
  go_wp2
  rw [rounds_succ]
  go_wp2
  rw [rounds_succ]
  go_wp2
  refine wp_loop_rounds 3 ?_
  rw [rounds_succ]
  go_wp2
  rw [rounds_succ]
  go_wp2
  rw [rounds_succ]
  go_wp2
  go_ret
  exact ⟨rfl, ((Bw.refl _).alloc _).alloc _⟩
set_option maxHeartbeats 400000 in
theorem encode_four (r : Int) (w : World) (h0 : 65536 ≤ r) (h1 : r ≤ 1114111) :
    Calls Tryd.prog 24 #[.int .i64 r] w fun e w' => e = .returned (.string (strOfNums [240 + r / 64 / 64 / 64, 128 + r / 64 / 64 % 64, 128 + r / 64 % 64, 128 + r % 64])) ∧ Bw w w' := by
  have hcp : 0 ≤ r ∧ r ≤ 1114111 ∧ (r < 55296 ∨ 57343 < r) := by omega
  have hcv := conv4
  have hmk := make4
  go_enter Tryd.func24, Tryd.ntmps24
  go_wp2_with (go_at_call 33; refine (isCodePoint_yes _ _ hcp).mono ?_; rintro e w' ⟨rfl, rfl⟩)
  refine wp_loop_rounds 4 ?_
  rw [rounds_succ]
  go_wp2
  rw [rounds_succ]
  go_wp2
  rw [rounds_succ]
  go_wp2
  rw [rounds_succ]
  go_wp2
  refine wp_loop_rounds 4 ?_
  rw [rounds_succ]
  go_wp2
  rw [rounds_succ]
  go_wp2
  rw [rounds_succ]
  go_wp2
  rw [rounds_succ]
  go_wp2
  go_ret
  exact ⟨rfl, ((Bw.refl _).alloc _).alloc _⟩
set_option maxHeartbeats 400000 in
theorem encode_bad (r : Int) (w : World) (h : ¬ (0 ≤ r ∧ r ≤ 1114111 ∧ (r < 55296 ∨ 57343 < r))) :
    Calls Tryd.prog 24 #[.int .i64 r] w fun e w' => e = .returned (.string ⟨#[]⟩) ∧ Bw w w' := by
  go_enter Tryd.func24, Tryd.ntmps24
  go_wp2_with (go_at_call 33; refine (isCodePoint_no _ _ h).mono ?_; rintro e w' ⟨rfl, rfl⟩)
  go_ret
  exact ⟨rfl, Bw.refl _⟩
theorem strOfNums_enc (r : Int) : strOfNums (Lib.encodeRuneZ r) = ⟨(Lib.encodeRune r).toArray⟩ := rfl
/-- spec.Encode -/
theorem encode_any (r : Int) (w : World) :
    Calls Tryd.prog 24 #[.int .i64 r] w fun e w' => e = .returned (.string ⟨(encS r).toArray⟩) ∧ Bw w w' := by
  by_cases h : 0 ≤ r ∧ r ≤ 1114111 ∧ (r < 55296 ∨ 57343 < r)
  · have e : encS r = Lib.encodeRune r := by unfold encS; rw [if_pos h]
    rw [e, ← strOfNums_enc]
    by_cases h1 : r ≤ 127
    · rw [Lib.encodeRuneZ_one h.1 h1]; exact encode_one r w h.1 h1
    by_cases h2 : r ≤ 2047
    · rw [Lib.encodeRuneZ_two (by omega) h2]; exact encode_two r w (by omega) h2
    by_cases h3 : r ≤ 65535
    · rw [Lib.encodeRuneZ_three (by omega), show r / 4096 = r / 64 / 64 by omega]; exact encode_three r w (by omega) h3 h.2.2
    · rw [Lib.encodeRuneZ_four (by omega) h.2.1, show r / 262144 = r / 64 / 64 / 64 by omega, show r / 4096 = r / 64 / 64 by omega]; exact encode_four r w (by omega) h.2.1
  · have e : encS r = [] := by unfold encS; rw [if_neg h]
    rw [e]
    exact encode_bad r w h
end Go.Proofs.YtbnginnbpppegaaDoor
