/-
  What the walks over the slow road of the library's unquote need.
-/
import Derived.Test.YtbnginnbpppegaaDoorWt
namespace Go.Proofs.YtbnginnbpppegaaDoor
open Go.RowKit Go.Uq

theorem uc_bd {l : List UInt8} {q v k : Nat} {m : Bool} (hq : q < 128) (h : uc l q = some (v, m, k)) : v ≤ 1114111 ∧ (m = false → v ≤ 255) := by
  match l with
  | [] => cases h
  | c :: t =>
    unfold uc at h
    simp only at h
    split at h
    · cases h
    split at h
    · split at h
      · cases h
      · rename_i e he
        cases h
        rcases esc_kinds hq he with ⟨_, _, h1, _⟩ | ⟨_, hw, h1, _⟩ | ⟨_, hw, h1, _⟩
        · exact ⟨by omega, fun _ => h1⟩
        · exact ⟨by omega, fun _ => by omega⟩
        · refine ⟨?_, fun e => by rw [hw] at e; cases e⟩
          simp only [cp, decide_eq_true_eq] at h1; omega
    split at h
    · cases h
      exact ⟨Lib.decodeL_rune _, fun e => by cases e⟩
    · cases h
      have := c.toNat_lt
      exact ⟨by omega, fun _ => by omega⟩
theorem put_len (v : Nat) (m : Bool) : (put v m).length ≤ 4 := by
  unfold put
  split
  · simp
  · unfold Lib.encodeRune
    rw [List.length_map]
    exact (Lib.encodeRuneZ_length _).2
/-- what a round puts behind is at most three times what it takes -/
theorem put_three {l : List UInt8} {q v k : Nat} {m : Bool} (_hq : q < 128) (h : uc l q = some (v, m, k)) : (put v m).length ≤ 3 * k := by
  have hp := uc_pos h
  by_cases h2 : 2 ≤ k
  · have := put_len v m
    omega
  · have hk : k = 1 := by omega
    unfold put
    split
    · simp; omega
    · rename_i hvm
      match l with
      | [] => cases h
      | c :: t =>
        unfold uc at h
        simp only at h
        split at h
        · cases h
        split at h
        · split at h
          · cases h
          · rename_i e he
            have := (esc_local he).1
            cases h
            omega
        split at h
        · cases h
          have hv : (Lib.decodeL (c :: t)).1 ≤ 65535 := by
            rcases Lib.decodeN_shape (c :: t).length ((c :: t).getD 0 0).toNat ((c :: t).getD 1 0).toNat ((c :: t).getD 2 0).toNat ((c :: t).getD 3 0).toNat with ⟨c0, e⟩ | ⟨c1, c2, c3, cv, e⟩ | ⟨c1, c2, c3, c4, cv, cs, e⟩ | ⟨c1, c2, c3, c4, c5, cv, cw, e⟩ | e
            all_goals rw [← Lib.decodeL_N] at e
            all_goals rw [e] at hk ⊢
            all_goals dsimp only at hk ⊢
            · omega
            · omega
            · omega
            · omega
            · omega
          unfold Lib.encodeRune
          rw [List.length_map]
          have hne : ∀ R : Int, R ≤ 65535 → (Lib.encodeRuneZ R).length ≤ 3 := fun R hR => by
            unfold Lib.encodeRuneZ
            split
            · simp
            split
            · simp
            split
            · simp
            split
            · omega
            · simp
          have := hne ((Lib.decodeL (c :: t)).1 : Int) (by omega)
          omega
        · cases h
          exact absurd (.inr rfl) hvm
/-- utf8.AppendRune onto a row of bytes of the call's own -/
theorem appendRune_buf (B : Nat) (v : Value) (O : List UInt8) (r : Nat) (w : World) (hr : r ≤ 1114111) (hb : Buf B w v O) (hlen : O.length + 4 ≤ 140737488355328) (hB : B ≤ w.heap.size) :
    Calls Tryd.prog 43 #[v, .int .i32 r] w fun e w' => ∃ v', e = .returned v' ∧ Buf B w' v' (O ++ Lib.encodeRune r) ∧ ∀ w0 : World, w0.heap.size = B → Bw w0 w → Bw w0 w' := by
  refine (Tryd.utf8_AppendRune_plain B v O.length (Lib.byteCells O) r (by omega) (by omega) w hb hlen hB).mono ?_
  rintro e w' ⟨v', rfl, ho, o, hg⟩
  refine ⟨v', rfl, ?_, fun w0 h0 hb0 => (hb0.alloc o).grown hg (fun k hk => by rw [h0]; exact hb.row k hk)⟩
  unfold Buf
  have e : Lib.byteCells (O ++ Lib.encodeRune (r : Int)) = Lib.byteCells O ++ Lib.runeCells (r : Int) := by
    rw [← Lib.byteCells_encodeRune]; simp [Lib.byteCells]
  have e2 : (O ++ Lib.encodeRune (r : Int)).length = O.length + (Lib.runeCells (r : Int)).length := by
    rw [← Lib.byteCells_encodeRune]; simp [Lib.byteCells]
  rw [e, e2]
  exact ho
theorem u8_nat {v : Nat} (h : v ≤ 255) : v.toUInt8.toNat = v := by
  simp only [Nat.toUInt8_eq, UInt8.toNat_ofNat']
  omega
/-- the answer without unescaping, by the text itself -/
theorem pre_ret {s : ByteArray} {o r : List UInt8} {t : ByteArray} {n : Nat} (hr : t.data.toList = r) (hn : s.size - n = s.data.toList.length - r.length) :
    Ending.returned (.tuple #[.string (s.extract 0 (s.size - n)), .string t, .nilIface]) = uqGood s.data.toList o r false := by
  unfold uqGood
  refine ret_three ?_ (ba_list hr)
  rw [hn]
  exact ba_list (take_list s _)
theorem full_ret {s : ByteArray} {o r O : List UInt8} {t : ByteArray} (hr : t.data.toList = r) (ho : O = o) :
    Ending.returned (.tuple #[.string ⟨O.toArray⟩, .string t, .nilIface]) = uqGood s.data.toList o r true := by
  unfold uqGood
  exact ret_three (by rw [ho]; rfl) (ba_list hr)
/-- the fast road is not taken -/
def slow34 (a : List UInt8) : Prop := (92 : UInt8) ∈ a ∨ ((∀ x ∈ a, x.toNat ≠ 92) ∧ (10 : UInt8) ∈ a) ∨ ((∀ x ∈ a, x.toNat ≠ 92) ∧ (∀ x ∈ a, x.toNat ≠ 10) ∧ Lib.validD a = false)
def slow39 (a : List UInt8) : Prop := (92 : UInt8) ∈ a ∨ ((∀ x ∈ a, x.toNat ≠ 92) ∧ (10 : UInt8) ∈ a) ∨ ((∀ x ∈ a, x.toNat ≠ 92) ∧ (∀ x ∈ a, x.toNat ≠ 10) ∧ a ≠ [] ∧ ¬ (good a = true ∧ (Lib.decodeL a).2 = a.length))
theorem mem_or (a : List UInt8) (d : UInt8) : d ∈ a ∨ ∀ x ∈ a, x.toNat ≠ d.toNat := by
  by_cases h : d ∈ a
  · exact .inl h
  · exact .inr fun x hx e => h (UInt8.toNat_inj.1 e ▸ hx)
end Go.Proofs.YtbnginnbpppegaaDoor
