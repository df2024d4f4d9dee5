/-
  The walk over the library's UnquoteChar: what is no escape.
-/
import Derived.Test.YtbnginnbpppegaaDoorWf
import Derived.Deep.QuietTactic
import Derived.BigQuiet
namespace Go.Proofs.YtbnginnbpppegaaDoor
open Go.RowKit Go.Uq

theorem results4 {fn : Func} {t u v x : Tmp} (h : fn.results = #[.tmp t, .tmp u, .tmp v, .tmp x]) (tmps : Array Value) (P : Program) (w : World) :
    (results fn tmps).run P w = .ok (.tuple #[tmps.getD t undef, tmps.getD u undef, tmps.getD v undef, tmps.getD x undef]) w := by simp [results, h]
/-- the answer with the error -/
def ucBad (t : TypeId) (v : Value) : Ending := .returned (.tuple #[.int .i32 0, .bool false, .string ⟨#[]⟩, .iface t v])
/-- the answer without -/
def ucGood (s : ByteArray) (r k : Nat) (m : Bool) : Ending := .returned (.tuple #[.int .i32 r, .bool m, .string (s.extract k s.size), .nilIface])

set_option maxHeartbeats 400000 in
set_option maxRecDepth 100000 in
theorem uc_empty (s : ByteArray) (q : Nat) (w : World) (t : TypeId) (v : Value) (hE : w.cell? ⟨0, 0, none⟩ = some (.iface t v)) (h : s.size = 0) :
    Calls Tryd.prog 32 #[.string s, .int .u8 q] w fun e w' => e = ucBad t v ∧ Bw w w' := by
  have hz : ((s.size : Int) == 0) = true := by simp [h]
  clear h
  go_enter Tryd.func32, Tryd.ntmps32
  go_wp2
  refine bodyPost_ret (results4 rfl _ _ _) rfl ?_
  exact ⟨rfl, Bw.refl _⟩
set_option maxHeartbeats 400000 in
set_option maxRecDepth 100000 in
theorem uc_quote (s : ByteArray) (q : Nat) (w : World) (t : TypeId) (v : Value) (hE : w.cell? ⟨0, 0, none⟩ = some (.iface t v)) (h : 0 < s.size) (hc : s[0].toNat = q) (hq : q = 34 ∨ q = 39) :
    Calls Tryd.prog 32 #[.string s, .int .u8 q] w fun e w' => e = ucBad t v ∧ Bw w w' := by
  have hz : ((s.size : Int) == 0) = false := beq_eq_false_iff_ne.2 (by omega)
  rcases hq with rfl | rfl
  all_goals
    go_enter Tryd.func32, Tryd.ntmps32
    go_wp2
    refine bodyPost_ret (results4 rfl _ _ _) rfl ?_
    exact ⟨rfl, Bw.refl _⟩
set_option maxHeartbeats 400000 in
set_option maxRecDepth 100000 in
theorem uc_high (s : ByteArray) (q r k : Nat) (w : World) (hT : Tabs w) (h : 0 < s.size) (hc : 128 ≤ s[0].toNat) (hq : q = 0 ∨ q = 34 ∨ q = 39) (hd : Lib.decodeL s.data.toList = (r, k)) (hk : k ≤ s.size) :
    Calls Tryd.prog 32 #[.string s, .int .u8 q] w fun e w' => e = ucGood s r k true ∧ Bw w w' := by
  have hz : ((s.size : Int) == 0) = false := beq_eq_false_iff_ne.2 (by omega)
  have hx := s[0].toNat_lt
  have hcq : ((s[0].toNat : Int) == q) = false := by simp; omega
  have h128 : decide ((128 : Int) ≤ (s[0].toNat : Int)) = true := by simp; omega
  have hkz : (k : Int) ≤ s.size := by omega
  have HD := Lib.hid hd
  clear hd hc hq
  go_enter Tryd.func32, Tryd.ntmps32
  go_wp2_with (go_at_call 37; refine (decodeRune_at s _ r k h hT HD.out).mono ?_; rintro e w1 ⟨rfl, hb1⟩)
  go_quiet (fail)
  go_wp2
  refine bodyPost_ret (results4 rfl _ _ _) rfl ?_
  exact ⟨rfl, hb1.drewN _⟩
set_option maxHeartbeats 400000 in
set_option maxRecDepth 100000 in
theorem uc_plain (s : ByteArray) (q c : Nat) (w : World) (h : 0 < s.size) (hc : s[0].toNat = c) (h1 : c < 128) (h2 : c ≠ 92) (hq : q = 0 ∨ q = 34 ∨ q = 39) (hn : ¬ (q ≠ 0 ∧ c = q)) :
    Calls Tryd.prog 32 #[.string s, .int .u8 q] w fun e w' => e = ucGood s c 1 false ∧ Bw w w' := by
  have hz : ((s.size : Int) == 0) = false := beq_eq_false_iff_ne.2 (by omega)
  have h128 : decide ((128 : Int) ≤ (c : Int)) = false := by simp; omega
  have h92 : ((c : Int) != 92) = true := by rw [bne_iff_ne]; omega
  have h1z : (1 : Int) ≤ s.size := by omega
  have h0z : (0 : Int) < s.size := by omega
  by_cases hcq : c = q
  · obtain rfl : q = 0 := by omega
    subst hcq
    have hc0 : ((s[0].toNat : Int) == 0) = true := by simp [hc]
    go_enter Tryd.func32, Tryd.ntmps32
    go_wp2
    go_quiet (fail)
    go_wp2
    refine bodyPost_ret (results4 rfl _ _ _) rfl ?_
    exact ⟨rfl, (Bw.refl _).drewN _⟩
  · have hcq' : ((c : Int) == q) = false := by simp; omega
    clear hcq hn hq
    go_enter Tryd.func32, Tryd.ntmps32
    go_wp2
    go_quiet (fail)
    go_wp2
    refine bodyPost_ret (results4 rfl _ _ _) rfl ?_
    exact ⟨rfl, (Bw.refl _).drewN _⟩
set_option maxHeartbeats 400000 in
set_option maxRecDepth 100000 in
theorem uc_alone (s : ByteArray) (q : Nat) (w : World) (t : TypeId) (v : Value) (hE : w.cell? ⟨0, 0, none⟩ = some (.iface t v)) (h0 : 0 < s.size) (h : s.size ≤ 1) (hc : s[0].toNat = 92) (hq : q = 0 ∨ q = 34 ∨ q = 39) :
    Calls Tryd.prog 32 #[.string s, .int .u8 q] w fun e w' => e = ucBad t v ∧ Bw w w' := by
  have hz : ((s.size : Int) == 0) = false := beq_eq_false_iff_ne.2 (by omega)
  have hcq : ((92 : Int) == q) = false := by simp; omega
  have hle : decide ((s.size : Int) ≤ 1) = true := by simp; omega
  clear hq
  go_enter Tryd.func32, Tryd.ntmps32
  go_wp2
  refine bodyPost_ret (results4 rfl _ _ _) rfl ?_
  exact ⟨rfl, Bw.refl _⟩
end Go.Proofs.YtbnginnbpppegaaDoor
