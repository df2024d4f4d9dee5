/-
  The walk over the library's UnquoteChar: escapes.
-/
import Derived.Test.YtbnginnbpppegaaDoorWg
namespace Go.Proofs.YtbnginnbpppegaaDoor
open Go.RowKit Go.Uq

set_option maxHeartbeats 800000 in
set_option maxRecDepth 100000 in
theorem uc_letter (s : ByteArray) (q d r : Nat) (w : World) (h : 1 < s.size) (hc : (s[0]'(by omega)).toNat = 92) (hd : (s[1]'h).toNat = d) (hs : simp1 d = some r) (hq : q = 0 ∨ q = 34 ∨ q = 39) :
    Calls Tryd.prog 32 #[.string s, .int .u8 q] w fun e w' => e = ucGood s r 2 false ∧ Bw w w' := by
  have hz : ((s.size : Int) == 0) = false := beq_eq_false_iff_ne.2 (by omega)
  have hcq : ((92 : Int) == q) = false := by simp; omega
  have hle : decide ((s.size : Int) ≤ 1) = false := by simp; omega
  have h2z : (2 : Int) ≤ s.size := by omega
  have h1z : (1 : Int) < s.size := by omega
  have h0z : (0 : Int) < s.size := by omega
  clear hq
  have hcase : (d = 97 ∧ r = 7) ∨ (d = 98 ∧ r = 8) ∨ (d = 102 ∧ r = 12) ∨ (d = 110 ∧ r = 10) ∨ (d = 114 ∧ r = 13) ∨ (d = 116 ∧ r = 9) ∨ (d = 118 ∧ r = 11) ∨ (d = 92 ∧ r = 92) := by
    unfold simp1 at hs
    repeat' split at hs
    all_goals first | (cases hs; omega) | cases hs
  clear hs
  rcases hcase with ⟨rfl, rfl⟩ | ⟨rfl, rfl⟩ | ⟨rfl, rfl⟩ | ⟨rfl, rfl⟩ | ⟨rfl, rfl⟩ | ⟨rfl, rfl⟩ | ⟨rfl, rfl⟩ | ⟨rfl, rfl⟩
  all_goals
    go_enter Tryd.func32, Tryd.ntmps32
    go_wp2
    refine bodyPost_ret (results4 rfl _ _ _) rfl ?_
    exact ⟨rfl, Bw.refl _⟩
set_option maxHeartbeats 800000 in
set_option maxRecDepth 100000 in
theorem uc_quoted (s : ByteArray) (q : Nat) (w : World) (h : 1 < s.size) (hc : (s[0]'(by omega)).toNat = 92) (hd : (s[1]'h).toNat = q) (hq : q = 34 ∨ q = 39) :
    Calls Tryd.prog 32 #[.string s, .int .u8 q] w fun e w' => e = ucGood s q 2 false ∧ Bw w w' := by
  have hz : ((s.size : Int) == 0) = false := beq_eq_false_iff_ne.2 (by omega)
  have hle : decide ((s.size : Int) ≤ 1) = false := by simp; omega
  have h2z : (2 : Int) ≤ s.size := by omega
  have h1z : (1 : Int) < s.size := by omega
  have h0z : (0 : Int) < s.size := by omega
  rcases hq with rfl | rfl
  all_goals
    go_enter Tryd.func32, Tryd.ntmps32
    go_wp2
    refine bodyPost_ret (results4 rfl _ _ _) rfl ?_
    exact ⟨rfl, Bw.refl _⟩
set_option maxHeartbeats 800000 in
set_option maxRecDepth 100000 in
theorem uc_other (s : ByteArray) (q d : Nat) (w : World) (t : TypeId) (v : Value) (hE : w.cell? ⟨0, 0, none⟩ = some (.iface t v)) (h : 1 < s.size) (hc : (s[0]'(by omega)).toNat = 92) (hd : (s[1]'h).toNat = d)
    (hs : simp1 d = none) (hx : d ≠ 120 ∧ d ≠ 117 ∧ d ≠ 85) (ho : ¬ (48 ≤ d ∧ d ≤ 55)) (hdq : ¬ (q ≠ 0 ∧ d = q)) (hq : q = 0 ∨ q = 34 ∨ q = 39) :
    Calls Tryd.prog 32 #[.string s, .int .u8 q] w fun e w' => e = ucBad t v ∧ Bw w w' := by
  have hz : ((s.size : Int) == 0) = false := beq_eq_false_iff_ne.2 (by omega)
  have hcq : ((92 : Int) == q) = false := by simp; omega
  have hle : decide ((s.size : Int) ≤ 1) = false := by simp; omega
  have h2z : (2 : Int) ≤ s.size := by omega
  have h1z : (1 : Int) < s.size := by omega
  have h0z : (0 : Int) < s.size := by omega
  have hne : d ≠ 97 ∧ d ≠ 98 ∧ d ≠ 102 ∧ d ≠ 110 ∧ d ≠ 114 ∧ d ≠ 116 ∧ d ≠ 118 ∧ d ≠ 92 := by
    unfold simp1 at hs
    repeat' split at hs
    all_goals first | omega | cases hs
  clear hs
  have n1 : ((d : Int) == 97) = false := beq_eq_false_iff_ne.2 (by omega)
  have n2 : ((d : Int) == 98) = false := beq_eq_false_iff_ne.2 (by omega)
  have n3 : ((d : Int) == 102) = false := beq_eq_false_iff_ne.2 (by omega)
  have n4 : ((d : Int) == 110) = false := beq_eq_false_iff_ne.2 (by omega)
  have n5 : ((d : Int) == 114) = false := beq_eq_false_iff_ne.2 (by omega)
  have n6 : ((d : Int) == 116) = false := beq_eq_false_iff_ne.2 (by omega)
  have n7 : ((d : Int) == 118) = false := beq_eq_false_iff_ne.2 (by omega)
  have n8 : ((d : Int) == 92) = false := beq_eq_false_iff_ne.2 (by omega)
  have n9 : ((d : Int) == 120) = false := beq_eq_false_iff_ne.2 (by omega)
  have n10 : ((d : Int) == 117) = false := beq_eq_false_iff_ne.2 (by omega)
  have n11 : ((d : Int) == 85) = false := beq_eq_false_iff_ne.2 (by omega)
  have o0 : ((d : Int) == 48) = false := beq_eq_false_iff_ne.2 (by omega)
  have o1 : ((d : Int) == 49) = false := beq_eq_false_iff_ne.2 (by omega)
  have o2 : ((d : Int) == 50) = false := beq_eq_false_iff_ne.2 (by omega)
  have o3 : ((d : Int) == 51) = false := beq_eq_false_iff_ne.2 (by omega)
  have o4 : ((d : Int) == 52) = false := beq_eq_false_iff_ne.2 (by omega)
  have o5 : ((d : Int) == 53) = false := beq_eq_false_iff_ne.2 (by omega)
  have o6 : ((d : Int) == 54) = false := beq_eq_false_iff_ne.2 (by omega)
  have o7 : ((d : Int) == 55) = false := beq_eq_false_iff_ne.2 (by omega)
  clear hne hx ho
  by_cases h39 : d = 39
  · subst h39
    have hnq : ((39 : Int) != q) = true := by rw [bne_iff_ne]; omega
    clear hdq hq
    go_enter Tryd.func32, Tryd.ntmps32
    go_wp2
    refine bodyPost_ret (results4 rfl _ _ _) rfl ?_
    exact ⟨rfl, Bw.refl _⟩
  by_cases h34 : d = 34
  · subst h34
    have hnq : ((34 : Int) != q) = true := by rw [bne_iff_ne]; omega
    clear hdq hq
    go_enter Tryd.func32, Tryd.ntmps32
    go_wp2
    refine bodyPost_ret (results4 rfl _ _ _) rfl ?_
    exact ⟨rfl, Bw.refl _⟩
  · have n12 : ((d : Int) == 39) = false := beq_eq_false_iff_ne.2 (by omega)
    have n13 : ((d : Int) == 34) = false := beq_eq_false_iff_ne.2 (by omega)
    clear hdq hq
    go_enter Tryd.func32, Tryd.ntmps32
    go_wp2
    refine bodyPost_ret (results4 rfl _ _ _) rfl ?_
    exact ⟨rfl, Bw.refl _⟩
end Go.Proofs.YtbnginnbpppegaaDoor
