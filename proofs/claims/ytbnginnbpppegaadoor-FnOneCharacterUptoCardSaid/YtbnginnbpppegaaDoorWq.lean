/-
  The walks over the library's index and contains.
-/
import Derived.Test.YtbnginnbpppegaaDoorWk
import Derived.Lib.Bytealg
namespace Go.Proofs.YtbnginnbpppegaaDoor
open Go.RowKit Go.Uq

theorem indexByte_some : ∀ (a : List UInt8) (c : UInt8) (r : List UInt8), (∀ x ∈ a, x ≠ c) → Lib.indexByte (a ++ c :: r) c = (a.length : Int)
  | [], c, r, _ => by simp [Lib.indexByte]
  | b :: a, c, r, h => by
    have ih := indexByte_some a c r (fun x hx => h x (by simp [hx]))
    have hb : (b == c) = false := by simpa using h b (by simp)
    simp only [List.cons_append, Lib.indexByte, hb, ih, Bool.false_eq_true, if_false, List.length_cons]
    rw [if_neg (by simp)]
    omega
theorem indexByte_none : ∀ (l : List UInt8) (c : UInt8), (∀ x ∈ l, x ≠ c) → Lib.indexByte l c = -1
  | [], c, _ => rfl
  | b :: l, c, h => by
    have ih := indexByte_none l c (fun x hx => h x (by simp [hx]))
    have hb : (b == c) = false := by simpa using h b (by simp)
    simp [Lib.indexByte, hb, ih]
/-- a byte that occurs, occurs first somewhere -/
theorem first_at : ∀ (l : List UInt8) (c : UInt8), c ∈ l → ∃ a r, l = a ++ c :: r ∧ ∀ x ∈ a, x ≠ c
  | b :: l, c, h => by
    by_cases e : b = c
    · exact ⟨[], l, by rw [e]; rfl, by simp⟩
    · obtain ⟨a, r, rfl, ha⟩ := first_at l c (by
        rcases List.mem_cons.1 h with e' | h'
        · exact absurd e'.symm e
        · exact h')
      exact ⟨b :: a, r, rfl, fun x hx => by
        rcases List.mem_cons.1 hx with rfl | hx
        · exact e
        · exact ha x hx⟩
set_option maxHeartbeats 400000 in
set_option maxRecDepth 100000 in
theorem index_any (s : ByteArray) (c : Int) (w : World) :
    Calls Tryd.prog 40 #[.string s, .int .u8 c] w fun e w' => e = .returned (.int .i64 (Lib.indexByte s.data.toList c.toNat.toUInt8)) ∧ w = w' := by
  go_enter Tryd.func40, Tryd.ntmps40
  go_wp2
  rw [run_callFunc_extern Tryd.func47 (by kernel_rfl) (by kernel_rfl) (by kernel_rfl) (e := Extern.BytealgIndexByte.indexByte) (by kernel_rfl), Lib.run_indexByteString]
  simp only [Result.andThen]
  rw [Oper.upon_value]
  go_wp2
  go_ret
  exact ⟨rfl, rfl⟩
theorem index_yes (s : ByteArray) (c : UInt8) (a r : List UInt8) (w : World) (h : s.data.toList = a ++ c :: r) (ha : ∀ x ∈ a, x ≠ c) :
    Calls Tryd.prog 40 #[.string s, .int .u8 c.toNat] w fun e w' => e = .returned (.int .i64 a.length) ∧ w = w' := by
  have := index_any s c.toNat w
  rw [Int.toNat_natCast, show c.toNat.toUInt8 = c by simp, h, indexByte_some a c r ha] at this
  exact this
theorem index_no (s : ByteArray) (c : UInt8) (w : World) (ha : ∀ x ∈ s.data.toList, x ≠ c) :
    Calls Tryd.prog 40 #[.string s, .int .u8 c.toNat] w fun e w' => e = .returned (.int .i64 (-1)) ∧ w = w' := by
  have := index_any s c.toNat w
  rw [Int.toNat_natCast, show c.toNat.toUInt8 = c by simp, indexByte_none _ c ha] at this
  exact this
set_option maxHeartbeats 400000 in
theorem contains_no (s : ByteArray) (c : UInt8) (w : World) (ha : ∀ x ∈ s.data.toList, x ≠ c) :
    Calls Tryd.prog 41 #[.string s, .int .u8 c.toNat] w fun e w' => e = .returned (.bool false) ∧ w = w' := by
  have C := Lib.hid (index_no s c w ha)
  clear ha
  go_enter Tryd.func41, Tryd.ntmps41
  go_wp2_with (go_at_call 40; refine C.out.mono ?_; rintro e w1 ⟨rfl, rfl⟩)
  go_ret
  exact ⟨rfl, rfl⟩
set_option maxHeartbeats 400000 in
theorem contains_yes (s : ByteArray) (c : UInt8) (w : World) (ha : c ∈ s.data.toList) :
    Calls Tryd.prog 41 #[.string s, .int .u8 c.toNat] w fun e w' => e = .returned (.bool true) ∧ w = w' := by
  obtain ⟨a, r, h, hx⟩ := first_at _ _ ha
  have C := Lib.hid (index_yes s c a r w h hx)
  have hn : ((a.length : Int) != -1) = true := by rw [bne_iff_ne]; omega
  clear ha h hx
  generalize a.length = n at C hn
  go_enter Tryd.func41, Tryd.ntmps41
  go_wp2_with (go_at_call 40; refine C.out.mono ?_; rintro e w1 ⟨rfl, rfl⟩)
  go_ret
  exact ⟨rfl, rfl⟩
end Go.Proofs.YtbnginnbpppegaaDoor
