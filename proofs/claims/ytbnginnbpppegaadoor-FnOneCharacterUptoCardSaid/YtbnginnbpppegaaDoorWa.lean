/-
  The walks over the reference's small functions: IsCodePoint, ranges.
-/
import Derived.Test.YtbnginnbpppegaaDoorProg
import Derived.Test.YtbnginnbpppegaaDoorCan
import Derived.WalkKit
import Derived.WalkSpells
import Derived.WalkLawsBesides
import Derived.Lib.Hide
import Derived.Lib.QuietBelow
import Derived.Lib.Strings
import Derived.Lib.IndexBytes
namespace Go.Proofs.YtbnginnbpppegaaDoor
open Go.RowKit Go.Uq

/-- what was there is there, as it was -/
def Bw (w w' : World) : Prop := Below w.heap.size w w'
theorem Bw.refl (w : World) : Bw w w := Below.refl _ _
theorem Bw.trans {a b c : World} (h : Bw a b) (k : Bw b c) : Bw a c := Below.trans h (Below.mono k h.size)
theorem Bw.alloc {a w : World} (h : Bw a w) (o : Obj) : Bw a (w.alloc o) := Below.alloc h h.size o
theorem Bw.drew {a w : World} (h : Bw a w) : Bw a w.drew := Below.drew h
theorem Bw.drewN {a w : World} (h : Bw a w) (n : Nat) : Bw a (w.drewN n) := ⟨h.os, h.tape, h.output, h.size, h.block⟩
theorem Bw.regrown {a w : World} (h : Bw a w) (d : Nat) (os : Array Obj) : Bw a (Go.Sort.grow (redrawn w d) os) := h.trans (below_regrown w d os)
theorem Bw.size {a w : World} (h : Bw a w) : a.heap.size ≤ w.heap.size := Below.size h
theorem Bw.setCell {a w : World} (h : Bw a w) {p : Addr} (hp : a.heap.size ≤ p.block) (u : Value) : Bw a (w.setCell p u) := Below.setCell h hp u
theorem Bw.grown {a w w' : World} {row : Option Nat} (h : Bw a w) (hg : w.grownBy w' row) (hr : ∀ k, row = some k → a.heap.size ≤ k) : Bw a w' := Below.grown h hg h.size hr
/-- a callee inside a region that draws its order -/
theorem quiet_bw {f : FuncId} {args : Array Value} {w : World} {d : Nat} {os : Array Obj} {v : Value}
    (h : Calls Tryd.prog f args (Go.Sort.grow (redrawn w d) os) fun e w' => e = .returned v ∧ Bw (Go.Sort.grow (redrawn w d) os) w') :
    Calls Tryd.prog f args (Go.Sort.grow (redrawn w d) os) fun e w'' => e = .returned v ∧ ∃ p : Regrown, w'' = Go.Sort.grow (redrawn w p.d) p.os := Calls.regrown_of h
theorem byte_at (s : ByteArray) (i : Nat) (h : i < s.size) : byteZ s.data.toList i = (s[i].toNat : Int) := by
  unfold byteZ
  rw [Lib.getD_get!']
  cases s with
  | mk d => rw [show (ByteArray.mk d).get! i = d[i]! from rfl, getElem!_pos d i h]; rfl
theorem take_list (s : ByteArray) (k : Nat) : (s.extract 0 k).data.toList = s.data.toList.take k := by rw [Lib.extract_data]; simp
theorem rest_size (s : ByteArray) (k : Nat) : (s.extract k s.size).size = s.size - k := by
  rw [Lib.size_eq, Lib.extract_to_end, List.length_drop, ← Lib.size_eq]

set_option maxHeartbeats 400000 in
theorem isCodePoint_yes (r : Int) (w : World) (h : 0 ≤ r ∧ r ≤ 1114111 ∧ (r < 55296 ∨ 57343 < r)) :
    Calls Tryd.prog 33 #[.int .i64 r] w fun e w' => e = .returned (.bool true) ∧ w = w' := by
  obtain ⟨h0, h1, h2⟩ := h
  by_cases h3 : r < 55296
  · go_enter Tryd.func33, Tryd.ntmps33
    go_wp2
    go_ret
    exact ⟨rfl, rfl⟩
  · have h4 : 57343 < r := by omega
    go_enter Tryd.func33, Tryd.ntmps33
    go_wp2
    go_ret
    exact ⟨rfl, rfl⟩
set_option maxHeartbeats 400000 in
theorem isCodePoint_no (r : Int) (w : World) (h : ¬ (0 ≤ r ∧ r ≤ 1114111 ∧ (r < 55296 ∨ 57343 < r))) :
    Calls Tryd.prog 33 #[.int .i64 r] w fun e w' => e = .returned (.bool false) ∧ w = w' := by
  by_cases h0 : 0 ≤ r
  · by_cases h1 : r ≤ 1114111
    · have h3 : ¬ r < 55296 := by omega
      have h4 : ¬ 57343 < r := by omega
      clear h
      go_enter Tryd.func33, Tryd.ntmps33
      go_wp2
      go_ret
      exact ⟨rfl, rfl⟩
    · clear h
      go_enter Tryd.func33, Tryd.ntmps33
      go_wp2
      go_ret
      exact ⟨rfl, rfl⟩
  · clear h
    go_enter Tryd.func33, Tryd.ntmps33
    go_wp2
    go_ret
    exact ⟨rfl, rfl⟩
def mostZ (k : Int) : Int := if k = 1 then 127 else if k = 2 then 2047 else if k = 3 then 65535 else 1114111
def leastZ (k : Int) : Int := if k = 1 then 0 else if k = 2 then 128 else if k = 3 then 2048 else 65536
set_option maxHeartbeats 400000 in
theorem ranges_any (k : Int) (w : World) :
    Calls Tryd.prog 34 #[.int .i64 k] w fun e w' => e = .returned (.tuple #[.int .i64 (leastZ k), .int .i64 (mostZ k)]) ∧ w = w' := by
  by_cases h1 : k = 1
  · subst h1
    go_enter Tryd.func34, Tryd.ntmps34
    go_wp2
    go_ret2
    exact ⟨rfl, rfl⟩
  by_cases h2 : k = 2
  · subst h2
    go_enter Tryd.func34, Tryd.ntmps34
    go_wp2
    go_ret2
    exact ⟨rfl, rfl⟩
  by_cases h3 : k = 3
  · subst h3
    go_enter Tryd.func34, Tryd.ntmps34
    go_wp2
    go_ret2
    exact ⟨rfl, rfl⟩
  · have e1 : leastZ k = 65536 := by simp [leastZ, h1, h2, h3]
    have e2 : mostZ k = 1114111 := by simp [mostZ, h1, h2, h3]
    rw [e1, e2]
    clear e1 e2
    have b1 : (k == 1) = false := by simpa using h1
    have b2 : (k == 2) = false := by simpa using h2
    have b3 : (k == 3) = false := by simpa using h3
    clear h1 h2 h3
    go_enter Tryd.func34, Tryd.ntmps34
    go_wp2
    go_ret2
    exact ⟨rfl, rfl⟩
end Go.Proofs.YtbnginnbpppegaaDoor
