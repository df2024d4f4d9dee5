/-
  The walk over the laws' digits.
-/
import Derived.Test.YthancalojcggiaaDoorHp
namespace Go.Proofs.YthancalojcggiaaDoor
open Go.RowKit Go.Uq

def HEX : ByteArray := ⟨#[48, 49, 50, 51, 52, 53, 54, 55, 56, 57, 97, 98, 99, 100, 101, 102]⟩
def hexc (d : Nat) : UInt8 := HEX.data.toList.getD d 0
/-- a number in so many digits of a base -/
def digL (base : Nat) : Nat → Nat → List UInt8
  | 0, _ => []
  | k + 1, n => hexc (n / base ^ k % base) :: digL base k n
theorem digL_len (base : Nat) : ∀ k n, (digL base k n).length = k
  | 0, _ => rfl
  | k + 1, n => by simp [digL, digL_len base k n]
theorem hexc_at (d : Nat) (h : d < HEX.size) : HEX[d] = hexc d := (list_at HEX d h).symm
theorem hexc_toNat (d : Nat) (h : d < HEX.size) : ((HEX[d].toNat : Int).toNat.toUInt8) = hexc d := by
  rw [hexc_at d h]
  simp
theorem mk1 (W : World) : (Instr.makeSlice 33 (.int .i64 1) (.int .i64 1)).run Tryd.prog W = .ok (.slice (some ⟨W.heap.size, 0, none⟩) 1 1) (W.alloc (.cells #[.int .u8 0] 5)) := by kernel_rfl
theorem mk2 (W : World) : (Instr.makeSlice 33 (.int .i64 2) (.int .i64 2)).run Tryd.prog W = .ok (.slice (some ⟨W.heap.size, 0, none⟩) 2 2) (W.alloc (.cells #[.int .u8 0, .int .u8 0] 5)) := by kernel_rfl
theorem cv2 (W : World) (a b : Int) : (convert 33 9 (.slice (some ⟨W.heap.size, 0, none⟩) 2 2)).run Tryd.prog (W.alloc (.cells #[.int .u8 a, .int .u8 b] 5)) = .ok (.string (strOfNums [a, b])) (W.alloc (.cells #[.int .u8 a, .int .u8 b] 5)) :=
  conv_row _ _ 2 [a, b] rfl (fun i hi => by
    have h : i = 0 ∨ i = 1 := by omega
    rcases h with rfl | rfl <;> simp [go_sem]) 2
theorem mk3 (W : World) : (Instr.makeSlice 33 (.int .i64 3) (.int .i64 3)).run Tryd.prog W = .ok (.slice (some ⟨W.heap.size, 0, none⟩) 3 3) (W.alloc (.cells #[.int .u8 0, .int .u8 0, .int .u8 0] 5)) := by kernel_rfl
theorem cv3 (W : World) (a b c : Int) : (convert 33 9 (.slice (some ⟨W.heap.size, 0, none⟩) 3 3)).run Tryd.prog (W.alloc (.cells #[.int .u8 a, .int .u8 b, .int .u8 c] 5)) = .ok (.string (strOfNums [a, b, c])) (W.alloc (.cells #[.int .u8 a, .int .u8 b, .int .u8 c] 5)) :=
  conv_row _ _ 3 [a, b, c] rfl (fun i hi => by
    have h : i = 0 ∨ i = 1 ∨ i = 2 := by omega
    rcases h with rfl | rfl | rfl <;> simp [go_sem]) 3
theorem mk4 (W : World) : (Instr.makeSlice 33 (.int .i64 4) (.int .i64 4)).run Tryd.prog W = .ok (.slice (some ⟨W.heap.size, 0, none⟩) 4 4) (W.alloc (.cells #[.int .u8 0, .int .u8 0, .int .u8 0, .int .u8 0] 5)) := by kernel_rfl
theorem cv4 (W : World) (a b c d : Int) : (convert 33 9 (.slice (some ⟨W.heap.size, 0, none⟩) 4 4)).run Tryd.prog (W.alloc (.cells #[.int .u8 a, .int .u8 b, .int .u8 c, .int .u8 d] 5)) = .ok (.string (strOfNums [a, b, c, d])) (W.alloc (.cells #[.int .u8 a, .int .u8 b, .int .u8 c, .int .u8 d] 5)) :=
  conv_row _ _ 4 [a, b, c, d] rfl (fun i hi => by
    have h : i = 0 ∨ i = 1 ∨ i = 2 ∨ i = 3 := by omega
    rcases h with rfl | rfl | rfl | rfl <;> simp [go_sem]) 4
theorem mk8 (W : World) : (Instr.makeSlice 33 (.int .i64 8) (.int .i64 8)).run Tryd.prog W = .ok (.slice (some ⟨W.heap.size, 0, none⟩) 8 8) (W.alloc (.cells #[.int .u8 0, .int .u8 0, .int .u8 0, .int .u8 0, .int .u8 0, .int .u8 0, .int .u8 0, .int .u8 0] 5)) := by kernel_rfl
theorem cv8 (W : World) (a b c d e f g h : Int) : (convert 33 9 (.slice (some ⟨W.heap.size, 0, none⟩) 8 8)).run Tryd.prog (W.alloc (.cells #[.int .u8 a, .int .u8 b, .int .u8 c, .int .u8 d, .int .u8 e, .int .u8 f, .int .u8 g, .int .u8 h] 5)) = .ok (.string (strOfNums [a, b, c, d, e, f, g, h])) (W.alloc (.cells #[.int .u8 a, .int .u8 b, .int .u8 c, .int .u8 d, .int .u8 e, .int .u8 f, .int .u8 g, .int .u8 h] 5)) :=
  conv_row _ _ 8 [a, b, c, d, e, f, g, h] rfl (fun i hi => by
    have h : i = 0 ∨ i = 1 ∨ i = 2 ∨ i = 3 ∨ i = 4 ∨ i = 5 ∨ i = 6 ∨ i = 7 := by omega
    rcases h with rfl | rfl | rfl | rfl | rfl | rfl | rfl | rfl <;> simp [go_sem]) 8
set_option maxHeartbeats 1000000 in
set_option maxRecDepth 100000 in
theorem digits_16_1 (n : Nat) (w : World) (hn : n ≤ 9223372036854775807) :
    Calls Tryd.prog 11 #[.int .i64 n, .int .i64 16, .int .i64 1] w fun e w' => e = .returned (.string ⟨(digL 16 1 n).toArray⟩) ∧ Bw w w' := by
  have hmk := mk1
  have hcv := conv1
  go_enter Tryd.func11, Tryd.ntmps11
  go_wp2
  refine wp_loop_rounds 2 ?_
  rw [rounds_succ]
  go_wp2
  rw [rounds_succ]
  go_wp2
  go_ret
  refine ⟨congrArg (fun x => Ending.returned (.string x)) ?_, (Bw.refl _).alloc _⟩
  apply ba_ext
  simp only [strOfNums, digL, List.map_cons, List.map_nil]
  simp only [← show HEX = ⟨#[48, 49, 50, 51, 52, 53, 54, 55, 56, 57, 97, 98, 99, 100, 101, 102]⟩ from rfl, hexc_toNat, Nat.pow_zero, Nat.div_one]
set_option maxHeartbeats 1000000 in
set_option maxRecDepth 100000 in
theorem digits_16_2 (n : Nat) (w : World) (hn : n ≤ 9223372036854775807) :
    Calls Tryd.prog 11 #[.int .i64 n, .int .i64 16, .int .i64 2] w fun e w' => e = .returned (.string ⟨(digL 16 2 n).toArray⟩) ∧ Bw w w' := by
  have hmk := mk2
  have hcv := cv2
  go_enter Tryd.func11, Tryd.ntmps11
  go_wp2
  refine wp_loop_rounds 3 ?_
  rw [rounds_succ]
  go_wp2
  rw [rounds_succ]
  go_wp2
  rw [rounds_succ]
  go_wp2
  go_ret
  refine ⟨congrArg (fun x => Ending.returned (.string x)) ?_, (Bw.refl _).alloc _⟩
  apply ba_ext
  simp only [strOfNums, digL, List.map_cons, List.map_nil]
  simp only [← show HEX = ⟨#[48, 49, 50, 51, 52, 53, 54, 55, 56, 57, 97, 98, 99, 100, 101, 102]⟩ from rfl, hexc_toNat, Nat.reducePow, Nat.pow_zero, Nat.div_one]
set_option maxHeartbeats 1000000 in
set_option maxRecDepth 100000 in
theorem digits_8_3 (n : Nat) (w : World) (hn : n ≤ 9223372036854775807) :
    Calls Tryd.prog 11 #[.int .i64 n, .int .i64 8, .int .i64 3] w fun e w' => e = .returned (.string ⟨(digL 8 3 n).toArray⟩) ∧ Bw w w' := by
  have hmk := mk3
  have hcv := cv3
  go_enter Tryd.func11, Tryd.ntmps11
  go_wp2
  refine wp_loop_rounds 4 ?_
  rw [rounds_succ]
  go_wp2
  rw [rounds_succ]
  go_wp2
  rw [rounds_succ]
  go_wp2
  rw [rounds_succ]
  go_wp2
  go_ret
  refine ⟨congrArg (fun x => Ending.returned (.string x)) ?_, (Bw.refl _).alloc _⟩
  apply ba_ext
  simp only [strOfNums, digL, List.map_cons, List.map_nil]
  simp only [← show HEX = ⟨#[48, 49, 50, 51, 52, 53, 54, 55, 56, 57, 97, 98, 99, 100, 101, 102]⟩ from rfl, hexc_toNat, Nat.div_div_eq_div_mul, Nat.reduceMul, Nat.reducePow, Nat.pow_zero, Nat.div_one]
set_option maxHeartbeats 1000000 in
set_option maxRecDepth 100000 in
theorem digits_16_4 (n : Nat) (w : World) (hn : n ≤ 9223372036854775807) :
    Calls Tryd.prog 11 #[.int .i64 n, .int .i64 16, .int .i64 4] w fun e w' => e = .returned (.string ⟨(digL 16 4 n).toArray⟩) ∧ Bw w w' := by
  have hmk := mk4
  have hcv := cv4
  go_enter Tryd.func11, Tryd.ntmps11
  go_wp2
  refine wp_loop_rounds 5 ?_
  rw [rounds_succ]
  go_wp2
  rw [rounds_succ]
  go_wp2
  rw [rounds_succ]
  go_wp2
  rw [rounds_succ]
  go_wp2
  rw [rounds_succ]
  go_wp2
  go_ret
  refine ⟨congrArg (fun x => Ending.returned (.string x)) ?_, (Bw.refl _).alloc _⟩
  apply ba_ext
  simp only [strOfNums, digL, List.map_cons, List.map_nil]
  simp only [← show HEX = ⟨#[48, 49, 50, 51, 52, 53, 54, 55, 56, 57, 97, 98, 99, 100, 101, 102]⟩ from rfl, hexc_toNat, Nat.div_div_eq_div_mul, Nat.reduceMul, Nat.reducePow, Nat.pow_zero, Nat.div_one]
set_option maxHeartbeats 1000000 in
set_option maxRecDepth 100000 in
theorem digits_16_8 (n : Nat) (w : World) (hn : n ≤ 9223372036854775807) :
    Calls Tryd.prog 11 #[.int .i64 n, .int .i64 16, .int .i64 8] w fun e w' => e = .returned (.string ⟨(digL 16 8 n).toArray⟩) ∧ Bw w w' := by
  have hmk := mk8
  have hcv := cv8
  go_enter Tryd.func11, Tryd.ntmps11
  go_wp2
  refine wp_loop_rounds 9 ?_
  rw [rounds_succ]
  go_wp2
  rw [rounds_succ]
  go_wp2
  rw [rounds_succ]
  go_wp2
  rw [rounds_succ]
  go_wp2
  rw [rounds_succ]
  go_wp2
  rw [rounds_succ]
  go_wp2
  rw [rounds_succ]
  go_wp2
  rw [rounds_succ]
  go_wp2
  rw [rounds_succ]
  go_wp2
  go_ret
  refine ⟨congrArg (fun x => Ending.returned (.string x)) ?_, (Bw.refl _).alloc _⟩
  apply ba_ext
  simp only [strOfNums, digL, List.map_cons, List.map_nil]
  simp only [← show HEX = ⟨#[48, 49, 50, 51, 52, 53, 54, 55, 56, 57, 97, 98, 99, 100, 101, 102]⟩ from rfl, hexc_toNat, Nat.div_div_eq_div_mul, Nat.reduceMul, Nat.reducePow, Nat.pow_zero, Nat.div_one]
end Go.Proofs.YthancalojcggiaaDoor
