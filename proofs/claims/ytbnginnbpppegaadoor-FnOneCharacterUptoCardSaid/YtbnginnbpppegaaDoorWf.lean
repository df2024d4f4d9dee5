/-
  The walks over the library's unhex and UnquoteChar.
-/
import Derived.Test.YtbnginnbpppegaaDoorWe
namespace Go.Proofs.YtbnginnbpppegaaDoor
open Go.RowKit Go.Uq

/-- the library's sentinel is an error -/
def Sent (w : World) : Prop := ∃ (t : TypeId) (v : Value), w.cell? ⟨0, 0, none⟩ = some (.iface t v)
theorem Sent.bw {w w' : World} (h : Sent w) (hb : Bw w w') : Sent w' := by
  obtain ⟨t, v, hc⟩ := h
  exact ⟨t, v, by rw [Below.cell hb (block_lt_of_cell hc)]; exact hc⟩

set_option maxHeartbeats 400000 in
/-- strconv.unhex of a digit -/
theorem unhex_yes (c d : Nat) (w : World) (hc : c < 256) (h : digN c 16 = some d) :
    Calls Tryd.prog 38 #[.int .u8 c] w fun e w' => e = .returned (.tuple #[.int .i32 d, .bool true]) ∧ w = w' := by
  unfold digN at h
  by_cases h1 : 48 ≤ c ∧ c ≤ 57
  · rw [if_pos h1, if_pos (by omega)] at h
    obtain rfl : c - 48 = d := by simpa using h
    obtain ⟨a, b⟩ := h1
    have e : ((c - 48 : Nat) : Int) = (c : Int) - 48 := by omega
    rw [e]
    clear h e
    have b1 : decide ((48 : Int) ≤ c) = true := by simp; omega
    have b2 : decide ((c : Int) ≤ 57) = true := by simp; omega
    go_enter Tryd.func38, Tryd.ntmps38
    go_wp2
    go_ret2
    exact ⟨rfl, rfl⟩
  rw [if_neg h1] at h
  by_cases h2 : 97 ≤ c ∧ c ≤ 102
  · rw [if_pos h2, if_pos (by omega)] at h
    obtain rfl : c - 87 = d := by simpa using h
    obtain ⟨a, b⟩ := h2
    have e : ((c - 87 : Nat) : Int) = (c : Int) - 97 + 10 := by omega
    rw [e]
    clear h e h1
    have b1 : decide ((48 : Int) ≤ c) = true := by simp; omega
    have b2 : decide ((c : Int) ≤ 57) = false := by simp; omega
    have b3 : decide ((97 : Int) ≤ c) = true := by simp; omega
    have b4 : decide ((c : Int) ≤ 102) = true := by simp; omega
    go_enter Tryd.func38, Tryd.ntmps38
    go_wp2
    go_ret2
    exact ⟨rfl, rfl⟩
  rw [if_neg h2] at h
  by_cases h3 : 65 ≤ c ∧ c ≤ 70
  · rw [if_pos h3, if_pos (by omega)] at h
    obtain rfl : c - 55 = d := by simpa using h
    obtain ⟨a, b⟩ := h3
    have e : ((c - 55 : Nat) : Int) = (c : Int) - 65 + 10 := by omega
    rw [e]
    clear h e h1 h2
    have b1 : decide ((48 : Int) ≤ c) = true := by simp; omega
    have b2 : decide ((c : Int) ≤ 57) = false := by simp; omega
    have b3 : decide ((97 : Int) ≤ c) = false := by simp; omega
    have b5 : decide ((65 : Int) ≤ c) = true := by simp; omega
    have b6 : decide ((c : Int) ≤ 70) = true := by simp; omega
    go_enter Tryd.func38, Tryd.ntmps38
    go_wp2
    go_ret2
    exact ⟨rfl, rfl⟩
  rw [if_neg h3] at h
  cases h
set_option maxHeartbeats 800000 in
/-- strconv.unhex of no digit -/
theorem unhex_no (c : Nat) (w : World) (hc : c < 256) (h : digN c 16 = none) :
    Calls Tryd.prog 38 #[.int .u8 c] w fun e w' => e = .returned (.tuple #[.int .i32 0, .bool false]) ∧ w = w' := by
  have h1 : ¬ (48 ≤ c ∧ c ≤ 57) := fun hh => by unfold digN at h; rw [if_pos hh, if_pos (by omega)] at h; cases h
  have h2 : ¬ (97 ≤ c ∧ c ≤ 102) := fun hh => by unfold digN at h; rw [if_neg h1, if_pos hh, if_pos (by omega)] at h; cases h
  have h3 : ¬ (65 ≤ c ∧ c ≤ 70) := fun hh => by unfold digN at h; rw [if_neg h1, if_neg h2, if_pos hh, if_pos (by omega)] at h; cases h
  clear h
  by_cases a1 : 48 ≤ c
  · have b1 : decide ((48 : Int) ≤ c) = true := by simp; omega
    have b2 : decide ((c : Int) ≤ 57) = false := by simp; omega
    by_cases a3 : 97 ≤ c
    · have b3 : decide ((97 : Int) ≤ c) = true := by simp; omega
      have b4 : decide ((c : Int) ≤ 102) = false := by simp; omega
      have b5 : decide ((65 : Int) ≤ c) = true := by simp; omega
      have b6 : decide ((c : Int) ≤ 70) = false := by simp; omega
      clear h1 h2 h3
      go_enter Tryd.func38, Tryd.ntmps38
      go_wp2
      go_ret2
      exact ⟨rfl, rfl⟩
    · have b3 : decide ((97 : Int) ≤ c) = false := by simp; omega
      by_cases a5 : 65 ≤ c
      · have b5 : decide ((65 : Int) ≤ c) = true := by simp; omega
        have b6 : decide ((c : Int) ≤ 70) = false := by simp; omega
        clear h1 h2 h3
        go_enter Tryd.func38, Tryd.ntmps38
        go_wp2
        go_ret2
        exact ⟨rfl, rfl⟩
      · have b5 : decide ((65 : Int) ≤ c) = false := by simp; omega
        clear h1 h2 h3
        go_enter Tryd.func38, Tryd.ntmps38
        go_wp2
        go_ret2
        exact ⟨rfl, rfl⟩
  · have b1 : decide ((48 : Int) ≤ c) = false := by simp; omega
    have b3 : decide ((97 : Int) ≤ c) = false := by simp; omega
    have b5 : decide ((65 : Int) ≤ c) = false := by simp; omega
    clear h1 h2 h3
    go_enter Tryd.func38, Tryd.ntmps38
    go_wp2
    go_ret2
    exact ⟨rfl, rfl⟩
end Go.Proofs.YtbnginnbpppegaaDoor
