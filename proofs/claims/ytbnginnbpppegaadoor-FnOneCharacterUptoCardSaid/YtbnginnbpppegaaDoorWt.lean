/-
  The walks over the library's unquote: literals without escapes, by the fast road.
-/
import Derived.Test.YtbnginnbpppegaaDoorWs
namespace Go.Proofs.YtbnginnbpppegaaDoor
open Go.RowKit Go.Uq

theorem validString_is (t : ByteArray) (b : Bool) (w : World) (hs : t.size ≤ 9223372036854775807) (hT : Tabs w) (h : Lib.validD t.data.toList = b) :
    Calls Tryd.prog 42 #[.string t] w fun e w' => e = .returned (.bool b) ∧ Bw w w' := by
  have c := Tryd.utf8_ValidString t w hs hT
  rw [h] at c
  exact c
theorem decodeRune_empty (t : ByteArray) (w : World) (h0 : ¬ 0 < t.size) (hT : Tabs w) :
    Calls Tryd.prog 37 #[.string t] w fun e w' => e = .returned (.tuple #[.int .i32 65533, .int .i64 0]) ∧ Bw w w' := by
  have c := Tryd.utf8_DecodeRuneInString t w hT
  rw [show Lib.decodeGo t = (65533, 0) by unfold Lib.decodeGo; rw [if_pos (by omega)]] at c
  exact c
/-- what a walk needs of a text that begins with a quote: the look for the closing one, the looks for a backslash and a line feed -/
theorem no_byte {a : List UInt8} {d : UInt8} (h : ∀ x ∈ a, x.toNat ≠ d.toNat) : ∀ x ∈ a, x ≠ d := fun x hx e => h x hx (by rw [e])
theorem libU_fast34 {s : ByteArray} {c : UInt8} {a r : List UInt8} (h : Quoted s c a r) (hc : c.toNat = 34) (ha : ∀ x ∈ a, x ≠ c) (h92 : ∀ x ∈ a, x.toNat ≠ 92) (h10 : ∀ x ∈ a, x.toNat ≠ 10) (hv : Lib.validD a = true) :
    libU s.data.toList = some (a, r) := by
  rw [h.list]
  unfold libU
  simp only [hc, Nat.reduceEqDiff, if_false, if_true]
  exact body_plain (by decide) (by decide) hc hv (fun x hx => ⟨fun e => ha x hx (UInt8.toNat_inj.1 (e.trans hc.symm)), h92 x hx, h10 x hx⟩)
theorem libU_fast39 {s : ByteArray} {c : UInt8} {a r : List UInt8} (h : Quoted s c a r) (hc : c.toNat = 39) (ha : ∀ x ∈ a, x ≠ c) (h92 : ∀ x ∈ a, x.toNat ≠ 92) (h10 : ∀ x ∈ a, x.toNat ≠ 10) (hv : a = [] ∨ (good a = true ∧ (Lib.decodeL a).2 = a.length)) :
    libU s.data.toList = some (a, r) := by
  rw [h.list]
  unfold libU
  simp only [hc, Nat.reduceEqDiff, if_false, if_true]
  by_cases hne : a = []
  · subst hne
    simp [charB, hc]
  · obtain ⟨hg, hl⟩ := hv.resolve_left hne
    exact char_plain hc hne hg hl (fun x hx => ⟨fun e => ha x hx (UInt8.toNat_inj.1 (e.trans hc.symm)), h92 x hx, h10 x hx⟩)
set_option maxHeartbeats 1000000 in
set_option maxRecDepth 100000 in
theorem uq_fast34 (s : ByteArray) (un : Bool) (c : UInt8) (a r : List UInt8) (w : World) (hT : Tabs w) (hs : s.size ≤ 4611686018427387904) (h : 0 < s.size) (hc : s[0] = c) (hc34 : c.toNat = 34) (Q : Quoted s c a r) (ha : ∀ x ∈ a, x ≠ c)
    (h92 : ∀ x ∈ a, x.toNat ≠ 92) (h10 : ∀ x ∈ a, x.toNat ≠ 10) (hv : Lib.validD a = true) :
    Calls Tryd.prog 35 #[.string s, .bool un] w fun e w' => e = uqGood s.data.toList a r un ∧ Bw w w' := by
  rw [Q.ret]
  have hsz := Q.size
  have C := Lib.hid (index_yes (s.extract 1 s.size) c a r w Q.tail ha)
  rw [hc34] at C
  have C1 := Lib.hid (contains_no (s.extract 0 (a.length + 2)) 92 w (mem_pre Q (fun e => by rw [← e] at hc34; exact absurd hc34 (by decide)) (no_byte (d := 92) h92)))
  rw [show ((92 : UInt8).toNat : Int) = 92 from rfl] at C1
  have C2 := Lib.hid (contains_no (s.extract 0 (a.length + 2)) 10 w (mem_pre Q (fun e => by rw [← e] at hc34; exact absurd hc34 (by decide)) (no_byte (d := 10) h10)))
  rw [show ((10 : UInt8).toNat : Int) = 10 from rfl] at C2
  have C3 := Lib.hid (validString_is (s.extract 1 (a.length + 1)) true w (by rw [Q.mid, show (ByteArray.mk a.toArray).size = a.length by rw [Lib.size_eq]]; omega) hT (by rw [Q.mid]; exact hv))
  have hz : decide ((s.size : Int) < 2) = false := by simp; omega
  have h1z : (1 : Int) ≤ s.size := by omega
  have h0z : (0 : Int) < s.size := by omega
  have nl : decide ((a.length : Int) < 0) = false := by simp
  have hcn : s[0].toNat = 34 := by rw [hc]; exact hc34
  have hla : a.length + 2 ≤ s.size := by omega
  rw [← Q.mid]
  have HE : Hid ((s.extract 0 (a.length + 2)).extract 1 (a.length + 1) = s.extract 1 (a.length + 1)) := Lib.hid (by
    apply ba_ext
    rw [Lib.extract_data, Q.pre, Q.mid]
    simp)
  have hps : (s.extract 0 (a.length + 2)).size = a.length + 2 := by rw [Q.pre, Lib.size_eq]; simp
  clear hsz Q ha hc hc34 hv h92 h10 hT
  generalize a.length = n at C C1 C2 C3 nl hla HE hps ⊢
  have hlz : (n : Int) + 2 ≤ s.size := by omega
  have hlz2 : (n : Int) + 1 ≤ s.size := by omega
  cases un with
  | false =>
    clear hps
    go_enter Tryd.func35, Tryd.ntmps35
    go_wp2_with fail
    refine C.out.mono ?_
    rintro e w1 ⟨rfl, rfl⟩
    go_wp2_with fail
    refine C1.out.mono ?_
    rintro e w1 ⟨rfl, rfl⟩
    go_wp2_with fail
    refine C2.out.mono ?_
    rintro e w1 ⟨rfl, rfl⟩
    go_wp2_with fail
    refine C3.out.mono ?_
    rintro e w1 ⟨rfl, hb1⟩
    go_wp2_with fail
    go_quiet (fail)
    go_wp2
    go_ret3
    exact ⟨rfl, hb1.drewN _⟩
  | true =>
    go_enter Tryd.func35, Tryd.ntmps35
    go_wp2_with fail
    refine C.out.mono ?_
    rintro e w1 ⟨rfl, rfl⟩
    go_wp2_with fail
    refine C1.out.mono ?_
    rintro e w1 ⟨rfl, rfl⟩
    go_wp2_with fail
    refine C2.out.mono ?_
    rintro e w1 ⟨rfl, rfl⟩
    go_wp2_with fail
    refine C3.out.mono ?_
    rintro e w1 ⟨rfl, hb1⟩
    go_wp2_with fail
    go_quiet (fail)
    go_wp2
    go_ret3
    exact ⟨ret_three HE.out rfl, hb1.drewN _⟩
set_option maxHeartbeats 1000000 in
set_option maxRecDepth 100000 in
theorem uq_fast39 (s : ByteArray) (un : Bool) (c : UInt8) (a r : List UInt8) (w : World) (hT : Tabs w) (hs : s.size ≤ 4611686018427387904) (h : 0 < s.size) (hc : s[0] = c) (hc39 : c.toNat = 39) (Q : Quoted s c a r) (ha : ∀ x ∈ a, x ≠ c)
    (h92 : ∀ x ∈ a, x.toNat ≠ 92) (h10 : ∀ x ∈ a, x.toNat ≠ 10) (hv : a = [] ∨ (good a = true ∧ (Lib.decodeL a).2 = a.length)) :
    Calls Tryd.prog 35 #[.string s, .bool un] w fun e w' => e = uqGood s.data.toList a r un ∧ Bw w w' := by
  rw [Q.ret]
  have hsz := Q.size
  have C := Lib.hid (index_yes (s.extract 1 s.size) c a r w Q.tail ha)
  rw [hc39] at C
  have C1 := Lib.hid (contains_no (s.extract 0 (a.length + 2)) 92 w (mem_pre Q (fun e => by rw [← e] at hc39; exact absurd hc39 (by decide)) (no_byte (d := 92) h92)))
  rw [show ((92 : UInt8).toNat : Int) = 92 from rfl] at C1
  have C2 := Lib.hid (contains_no (s.extract 0 (a.length + 2)) 10 w (mem_pre Q (fun e => by rw [← e] at hc39; exact absurd hc39 (by decide)) (no_byte (d := 10) h10)))
  rw [show ((10 : UInt8).toNat : Int) = 10 from rfl] at C2
  have hms : (s.extract 1 (a.length + 1)).size = a.length := by rw [Q.mid, Lib.size_eq]
  have c3 : ∃ rn : Nat, (((rn : Int) != 65533) = true ∨ (((rn : Int) != 65533) = false ∧ ((a.length : Int) != 1) = true)) ∧ Calls Tryd.prog 37 #[.string (s.extract 1 (a.length + 1))] w fun e w' => e = .returned (.tuple #[.int .i32 rn, .int .i64 a.length]) ∧ Bw w w' := by
    by_cases hne : a = []
    · refine ⟨65533, .inr ⟨by decide, by rw [hne]; decide⟩, ?_⟩
      rw [show ((a.length : Nat) : Int) = 0 by rw [hne]; rfl]
      exact decodeRune_empty _ w (by rw [hms, hne]; decide) hT
    · obtain ⟨hg, hl⟩ := hv.resolve_left hne
      refine ⟨(Lib.decodeL a).1, ?_, decodeRune_at _ w _ _ (by rw [hms]; exact List.length_pos_iff.2 hne) hT (by rw [Q.mid]; exact Prod.ext rfl hl)⟩
      by_cases h1 : (Lib.decodeL a).1 = 65533
      · right
        rw [good_iff] at hg
        refine ⟨by simp [h1], ?_⟩
        rw [bne_iff_ne]
        omega
      · left
        rw [bne_iff_ne]
        omega
  obtain ⟨rn, hrn, c3⟩ := c3
  have C3 := Lib.hid c3
  clear c3
  have hz : decide ((s.size : Int) < 2) = false := by simp; omega
  have h1z : (1 : Int) ≤ s.size := by omega
  have h0z : (0 : Int) < s.size := by omega
  have nl : decide ((a.length : Int) < 0) = false := by simp
  have hcn : s[0].toNat = 39 := by rw [hc]; exact hc39
  have hla : a.length + 2 ≤ s.size := by omega
  rw [← Q.mid]
  have HE : Hid ((s.extract 0 (a.length + 2)).extract 1 (a.length + 1) = s.extract 1 (a.length + 1)) := Lib.hid (by
    apply ba_ext
    rw [Lib.extract_data, Q.pre, Q.mid]
    simp)
  have hps : (s.extract 0 (a.length + 2)).size = a.length + 2 := by rw [Q.pre, Lib.size_eq]; simp
  clear hsz Q ha hc hc39 hv h92 h10 hT hms
  generalize a.length = n at C C1 C2 C3 nl hla HE hps hrn ⊢
  have hlz : (n : Int) + 2 ≤ s.size := by omega
  have hlz2 : (n : Int) + 1 ≤ s.size := by omega
  have heq : ((1 : Int) + n + 1 == (n : Int) + 2) = true := by simp; omega
  rcases hrn with b1 | ⟨b1, b2⟩
  all_goals cases un
  all_goals
    go_enter Tryd.func35, Tryd.ntmps35
    go_wp2_with fail
    refine C.out.mono ?_
    rintro e w1 ⟨rfl, rfl⟩
    go_wp2_with fail
    refine C1.out.mono ?_
    rintro e w1 ⟨rfl, rfl⟩
    go_wp2_with fail
    refine C2.out.mono ?_
    rintro e w1 ⟨rfl, rfl⟩
    go_wp2_with fail
    refine C3.out.mono ?_
    rintro e w1 ⟨rfl, hb1⟩
    go_wp2_with fail
    go_quiet (fail)
    go_wp2
    go_ret3
    exact ⟨ret_three (by first | exact HE.out | rfl) rfl, hb1.drewN _⟩
end Go.Proofs.YtbnginnbpppegaaDoor
