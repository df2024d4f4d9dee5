/-
  The walk over the library's unquote with escapes: quote 34, unescape false.
-/
import Derived.Test.YtbnginnbpppegaaDoorWu
namespace Go.Proofs.YtbnginnbpppegaaDoor
open Go.RowKit Go.Uq

set_option maxHeartbeats 8000000 in
set_option maxRecDepth 100000 in
theorem uq_slow34f (s : ByteArray) (c : UInt8) (a r : List UInt8) (w : World) (hE : Sent w) (hT : Tabs w) (hs : s.size ≤ 4611686018427387904) (h : 0 < s.size) (hc : s[0] = c) (hcq : c.toNat = 34) (Q : Quoted s c a r) (ha : ∀ x ∈ a, x ≠ c) (hslow : slow34 a) :
    ∃ (t : TypeId) (v : Value), Calls Tryd.prog 35 #[.string s, .bool false] w (PostU s false t v w) := by
  obtain ⟨te, ve, hcell⟩ := hE
  refine ⟨te, ve, ?_⟩
  have hsz := Q.size
  have C := Lib.hid (index_yes (s.extract 1 s.size) c a r w Q.tail ha)
  rw [hcq] at C
  have hLl : (s.extract 1 s.size).size = s.size - 1 := rest_size s 1
  have HLU : Hid (libU s.data.toList = body 34 (s.extract 1 s.size).data.toList) := Lib.hid (by
    rw [Q.list, Q.tail]
    unfold libU
    simp only [hcq, Nat.reduceEqDiff, if_false, if_true])
  have hz : decide ((s.size : Int) < 2) = false := by simp; omega
  have h1z : (1 : Int) ≤ s.size := by omega
  have h0z : (0 : Int) < s.size := by omega
  have nl : decide ((a.length : Int) < 0) = false := by simp
  have hcn : s[0].toNat = 34 := by rw [hc]; exact hcq
  have hla : a.length + 2 ≤ s.size := by omega
  have HEN : ∀ w' : World, Bw w w' → w'.cell? ⟨0, 0, none⟩ = some (.iface te ve) ∧ Tabs w' := fun w' hb => ⟨by rw [Below.cell hb (block_lt_of_cell hcell)]; exact hcell, hT.bw hb⟩
  have HEN := Lib.hid HEN
  unfold slow34 at hslow
  have hms : (s.extract 1 (a.length + 1)).size = a.length := by rw [Q.mid, Lib.size_eq]
  have c1 : ∀ w' : World, ((92 : UInt8) ∈ a → Calls Tryd.prog 41 #[.string (s.extract 0 (a.length + 2)), .int .u8 92] w' fun e w'' => e = .returned (.bool true) ∧ w' = w'') := fun w' hm => contains_yes (s.extract 0 (a.length + 2)) 92 w' (mem_pre' Q hm)
  have c1n : ∀ w' : World, ((∀ x ∈ a, x.toNat ≠ 92) → Calls Tryd.prog 41 #[.string (s.extract 0 (a.length + 2)), .int .u8 92] w' fun e w'' => e = .returned (.bool false) ∧ w' = w'') := fun w' hm => contains_no (s.extract 0 (a.length + 2)) 92 w' (mem_pre Q (fun e => by rw [← e] at hcq; exact absurd hcq (by decide)) (no_byte (d := 92) hm))
  have c2 : ∀ w' : World, ((10 : UInt8) ∈ a → Calls Tryd.prog 41 #[.string (s.extract 0 (a.length + 2)), .int .u8 10] w' fun e w'' => e = .returned (.bool true) ∧ w' = w'') := fun w' hm => contains_yes (s.extract 0 (a.length + 2)) 10 w' (mem_pre' Q hm)
  have c2n : ∀ w' : World, ((∀ x ∈ a, x.toNat ≠ 10) → Calls Tryd.prog 41 #[.string (s.extract 0 (a.length + 2)), .int .u8 10] w' fun e w'' => e = .returned (.bool false) ∧ w' = w'') := fun w' hm => contains_no (s.extract 0 (a.length + 2)) 10 w' (mem_pre Q (fun e => by rw [← e] at hcq; exact absurd hcq (by decide)) (no_byte (d := 10) hm))
  have c3 : Lib.validD a = false → ∀ w' : World, Tabs w' → Calls Tryd.prog 42 #[.string (s.extract 1 (a.length + 1))] w' fun e w'' => e = .returned (.bool false) ∧ Bw w' w'' := fun hv w' ht => validString_is _ false w' (by rw [hms]; omega) ht (by rw [Q.mid]; exact hv)
  have C1 := Lib.hid c1
  have C1n := Lib.hid c1n
  have C2 := Lib.hid c2
  have C2n := Lib.hid c2n
  have C3 := Lib.hid c3
  clear c1 c1n c2 c2n c3 hsz Q hms hc hcq ha hcell hT
  generalize hn : a.length = n at C C1 C1n C2 C2n C3 nl hla
  clear hn
  have hlz : (n : Int) + 2 ≤ s.size := by omega
  have hlz2 : (n : Int) + 1 ≤ s.size := by omega
  rcases hslow with m92 | ⟨m92, m10⟩ | ⟨m92, m10, mv⟩
  · go_enter Tryd.func35, Tryd.ntmps35
    go_wp2_with fail
    refine C.out.mono ?_
    rintro e w1 ⟨rfl, rfl⟩
    go_wp2_with fail
    refine (C1.out _ m92).mono ?_
    rintro e w1 ⟨rfl, rfl⟩
    have hbs := Bw.refl w
    go_wp2_with fail
    go_loopg [0, 14] (s.size + 1) (fun gk v b wr => Bw w wr ∧ b = .slice none 0 0 ∧ ∃ (t : ByteArray) (O : List UInt8), v = .string t ∧ Hid (body 34 (s.extract 1 s.size).data.toList = (body 34 t.data.toList).map fun p => (O ++ p.1, p.2)) ∧ t.size < gk ∧ t.size + 1 ≤ s.size)
    case atStart => exact ⟨hbs, rfl, s.extract 1 s.size, [], rfl, Lib.hid (by cases body 34 (s.extract 1 s.size).data.toList <;> rfl), by rw [hLl]; omega, by rw [hLl]; omega⟩
    case round =>
      obtain ⟨hb, rfl, t, O, rfl, hB, hg, hts⟩ := hrel
      clear hbs
      obtain ⟨hce, hTr⟩ := HEN.out wr hb
      by_cases h0 : 0 < t.size
      · obtain ⟨g', rfl⟩ : ∃ g', gk = g' + 1 := ⟨gk - 1, by omega⟩
        have h0t : (0 : Int) < (t.size : Int) := by omega
        have h1t : (1 : Int) ≤ (t.size : Int) := by omega
        have HH := Lib.hid (head_list t h0)
        by_cases hq : t[0].toNat = 34
        · have HR : Hid (libU s.data.toList = some (O, t.data.toList.drop 1)) := Lib.hid (by
            rw [HLU.out, hB.out, HH.out, body_end _ hq]
            simp)
          have hrt := rest_size t 1
          have HZ := Lib.hid hrt
          have hzz : ¬ ((s.size : Int) - ((t.size - 1 : Nat) : Int) < 0) := by omega
          go_wp2
          go_ret3
          refine postU_some HR.out ⟨?_, hb⟩
          refine pre_ret (Lib.extract_to_end t 1) ?_
          rw [← Lib.size_eq, List.length_drop, ← Lib.size_eq]
        have bq : ((t[0].toNat : Int) != 34) = true := by rw [bne_iff_ne]; omega
        by_cases h10 : t[0].toNat = 10
        · have HN : Hid (libU s.data.toList = none) := Lib.hid (by
            rw [HLU.out, hB.out, HH.out, body_lf _ hq h10]
            rfl)
          have hu : uc t.data.toList 34 = some (10, false, 1) := by
            rw [HH.out]
            unfold uc
            simp only [h10, Nat.reduceEqDiff, and_false, if_false]
            rfl
          have CU := Lib.hid (uc_some_at t 34 10 1 false wr ⟨_, _, hce⟩ hTr (by omega) hu)
          clear hu
          go_wp2_with (go_at_call 32; refine CU.out.mono ?_; rintro e w2 ⟨rfl, hb2⟩)
          have hce2 := (HEN.out w2 (hb.trans hb2)).1
          go_wp2
          go_quiet (fail)
          go_wp2
          go_ret3
          exact postU_none HN.out ⟨rfl, (hb.trans hb2).drewN _⟩
        have b10 : ((t[0].toNat : Int) == 10) = false := beq_eq_false_iff_ne.2 (by omega)
        cases hu : uc t.data.toList 34 with
        | none =>
          have HN : Hid (libU s.data.toList = none) := Lib.hid (by
            rw [HLU.out, hB.out, HH.out, body_bad _ hq (by rw [← HH.out]; exact hu)]
            rfl)
          have CU := Lib.hid (uc_none_at t 34 wr te ve hce hTr (by omega) hu)
          clear hu
          go_wp2_with (go_at_call 32; refine CU.out.mono ?_; rintro e w2 ⟨rfl, hb2⟩)
          have hce2 := (HEN.out w2 (hb.trans hb2)).1
          go_wp2
          go_quiet (fail)
          go_wp2
          go_ret3
          exact postU_none HN.out ⟨rfl, (hb.trans hb2).drewN _⟩
        | some y =>
          obtain ⟨v, m, k⟩ := y
          have hp := uc_pos hu
          rw [← Lib.size_eq] at hp
          have hbd := uc_bd (by decide) hu
          have CU := Lib.hid (uc_some_at t 34 v k m wr ⟨_, _, hce⟩ hTr (by omega) hu)
          have HST : Hid (body 34 t.data.toList = (body 34 (t.extract k t.size).data.toList).map fun p => (put v m ++ p.1, p.2)) := Lib.hid (by
            rw [Lib.extract_to_end]
            have := body_step (t.data.toList.drop 1) hq h10 (by rw [← HH.out]; exact hu)
            rwa [← HH.out] at this)
          have HRL : Hid (body 34 (s.extract 1 s.size).data.toList = (body 34 (t.extract k t.size).data.toList).map fun p => ((O ++ put v m) ++ p.1, p.2)) := Lib.hid (by
            rw [hB.out, HST.out]
            cases body 34 (t.extract k t.size).data.toList <;> simp)
          clear hu hbd
          go_wp2_with (go_at_call 32; refine CU.out.mono ?_; rintro e w2 ⟨rfl, hb2⟩)
          go_roundg g'
          case rel =>
            refine ⟨hb.trans hb2, rfl, t.extract k t.size, O ++ put v m, rfl, HRL, ?_, ?_⟩
            · rw [rest_size]; omega
            · rw [rest_size]; omega
          case measure => omega
      · have HN : Hid (libU s.data.toList = none) := Lib.hid (by
          rw [HLU.out, hB.out, empty_of_size h0]
          rfl)
        have h0f : decide ((0 : Int) < (t.size : Int)) = false := decide_eq_false (by omega)
        go_wp2
        go_quiet (fail)
        go_wp2
        go_ret3
        exact postU_none HN.out ⟨rfl, hb.drewN _⟩
  · go_enter Tryd.func35, Tryd.ntmps35
    go_wp2_with fail
    refine C.out.mono ?_
    rintro e w1 ⟨rfl, rfl⟩
    go_wp2_with fail
    refine (C1n.out _ m92).mono ?_
    rintro e w1 ⟨rfl, rfl⟩
    go_wp2_with fail
    refine (C2.out _ m10).mono ?_
    rintro e w1 ⟨rfl, rfl⟩
    have hbs := Bw.refl w
    go_wp2_with fail
    go_loopg [0, 14] (s.size + 1) (fun gk v b wr => Bw w wr ∧ b = .slice none 0 0 ∧ ∃ (t : ByteArray) (O : List UInt8), v = .string t ∧ Hid (body 34 (s.extract 1 s.size).data.toList = (body 34 t.data.toList).map fun p => (O ++ p.1, p.2)) ∧ t.size < gk ∧ t.size + 1 ≤ s.size)
    case atStart => exact ⟨hbs, rfl, s.extract 1 s.size, [], rfl, Lib.hid (by cases body 34 (s.extract 1 s.size).data.toList <;> rfl), by rw [hLl]; omega, by rw [hLl]; omega⟩
    case round =>
      obtain ⟨hb, rfl, t, O, rfl, hB, hg, hts⟩ := hrel
      clear hbs
      obtain ⟨hce, hTr⟩ := HEN.out wr hb
      by_cases h0 : 0 < t.size
      · obtain ⟨g', rfl⟩ : ∃ g', gk = g' + 1 := ⟨gk - 1, by omega⟩
        have h0t : (0 : Int) < (t.size : Int) := by omega
        have h1t : (1 : Int) ≤ (t.size : Int) := by omega
        have HH := Lib.hid (head_list t h0)
        by_cases hq : t[0].toNat = 34
        · have HR : Hid (libU s.data.toList = some (O, t.data.toList.drop 1)) := Lib.hid (by
            rw [HLU.out, hB.out, HH.out, body_end _ hq]
            simp)
          have hrt := rest_size t 1
          have HZ := Lib.hid hrt
          have hzz : ¬ ((s.size : Int) - ((t.size - 1 : Nat) : Int) < 0) := by omega
          go_wp2
          go_ret3
          refine postU_some HR.out ⟨?_, hb⟩
          refine pre_ret (Lib.extract_to_end t 1) ?_
          rw [← Lib.size_eq, List.length_drop, ← Lib.size_eq]
        have bq : ((t[0].toNat : Int) != 34) = true := by rw [bne_iff_ne]; omega
        by_cases h10 : t[0].toNat = 10
        · have HN : Hid (libU s.data.toList = none) := Lib.hid (by
            rw [HLU.out, hB.out, HH.out, body_lf _ hq h10]
            rfl)
          have hu : uc t.data.toList 34 = some (10, false, 1) := by
            rw [HH.out]
            unfold uc
            simp only [h10, Nat.reduceEqDiff, and_false, if_false]
            rfl
          have CU := Lib.hid (uc_some_at t 34 10 1 false wr ⟨_, _, hce⟩ hTr (by omega) hu)
          clear hu
          go_wp2_with (go_at_call 32; refine CU.out.mono ?_; rintro e w2 ⟨rfl, hb2⟩)
          have hce2 := (HEN.out w2 (hb.trans hb2)).1
          go_wp2
          go_quiet (fail)
          go_wp2
          go_ret3
          exact postU_none HN.out ⟨rfl, (hb.trans hb2).drewN _⟩
        have b10 : ((t[0].toNat : Int) == 10) = false := beq_eq_false_iff_ne.2 (by omega)
        cases hu : uc t.data.toList 34 with
        | none =>
          have HN : Hid (libU s.data.toList = none) := Lib.hid (by
            rw [HLU.out, hB.out, HH.out, body_bad _ hq (by rw [← HH.out]; exact hu)]
            rfl)
          have CU := Lib.hid (uc_none_at t 34 wr te ve hce hTr (by omega) hu)
          clear hu
          go_wp2_with (go_at_call 32; refine CU.out.mono ?_; rintro e w2 ⟨rfl, hb2⟩)
          have hce2 := (HEN.out w2 (hb.trans hb2)).1
          go_wp2
          go_quiet (fail)
          go_wp2
          go_ret3
          exact postU_none HN.out ⟨rfl, (hb.trans hb2).drewN _⟩
        | some y =>
          obtain ⟨v, m, k⟩ := y
          have hp := uc_pos hu
          rw [← Lib.size_eq] at hp
          have hbd := uc_bd (by decide) hu
          have CU := Lib.hid (uc_some_at t 34 v k m wr ⟨_, _, hce⟩ hTr (by omega) hu)
          have HST : Hid (body 34 t.data.toList = (body 34 (t.extract k t.size).data.toList).map fun p => (put v m ++ p.1, p.2)) := Lib.hid (by
            rw [Lib.extract_to_end]
            have := body_step (t.data.toList.drop 1) hq h10 (by rw [← HH.out]; exact hu)
            rwa [← HH.out] at this)
          have HRL : Hid (body 34 (s.extract 1 s.size).data.toList = (body 34 (t.extract k t.size).data.toList).map fun p => ((O ++ put v m) ++ p.1, p.2)) := Lib.hid (by
            rw [hB.out, HST.out]
            cases body 34 (t.extract k t.size).data.toList <;> simp)
          clear hu hbd
          go_wp2_with (go_at_call 32; refine CU.out.mono ?_; rintro e w2 ⟨rfl, hb2⟩)
          go_roundg g'
          case rel =>
            refine ⟨hb.trans hb2, rfl, t.extract k t.size, O ++ put v m, rfl, HRL, ?_, ?_⟩
            · rw [rest_size]; omega
            · rw [rest_size]; omega
          case measure => omega
      · have HN : Hid (libU s.data.toList = none) := Lib.hid (by
          rw [HLU.out, hB.out, empty_of_size h0]
          rfl)
        have h0f : decide ((0 : Int) < (t.size : Int)) = false := decide_eq_false (by omega)
        go_wp2
        go_quiet (fail)
        go_wp2
        go_ret3
        exact postU_none HN.out ⟨rfl, hb.drewN _⟩
  · go_enter Tryd.func35, Tryd.ntmps35
    go_wp2_with fail
    refine C.out.mono ?_
    rintro e w1 ⟨rfl, rfl⟩
    go_wp2_with fail
    refine (C1n.out _ m92).mono ?_
    rintro e w1 ⟨rfl, rfl⟩
    go_wp2_with fail
    refine (C2n.out _ m10).mono ?_
    rintro e w1 ⟨rfl, rfl⟩
    go_wp2_with fail
    refine (C3.out mv _ (HEN.out w (Bw.refl w)).2).mono ?_
    rintro e w1 ⟨rfl, hbs⟩
    go_wp2_with fail
    go_loopg [0, 14] (s.size + 1) (fun gk v b wr => Bw w wr ∧ b = .slice none 0 0 ∧ ∃ (t : ByteArray) (O : List UInt8), v = .string t ∧ Hid (body 34 (s.extract 1 s.size).data.toList = (body 34 t.data.toList).map fun p => (O ++ p.1, p.2)) ∧ t.size < gk ∧ t.size + 1 ≤ s.size)
    case atStart => exact ⟨hbs, rfl, s.extract 1 s.size, [], rfl, Lib.hid (by cases body 34 (s.extract 1 s.size).data.toList <;> rfl), by rw [hLl]; omega, by rw [hLl]; omega⟩
    case round =>
      obtain ⟨hb, rfl, t, O, rfl, hB, hg, hts⟩ := hrel
      clear hbs
      obtain ⟨hce, hTr⟩ := HEN.out wr hb
      by_cases h0 : 0 < t.size
      · obtain ⟨g', rfl⟩ : ∃ g', gk = g' + 1 := ⟨gk - 1, by omega⟩
        have h0t : (0 : Int) < (t.size : Int) := by omega
        have h1t : (1 : Int) ≤ (t.size : Int) := by omega
        have HH := Lib.hid (head_list t h0)
        by_cases hq : t[0].toNat = 34
        · have HR : Hid (libU s.data.toList = some (O, t.data.toList.drop 1)) := Lib.hid (by
            rw [HLU.out, hB.out, HH.out, body_end _ hq]
            simp)
          have hrt := rest_size t 1
          have HZ := Lib.hid hrt
          have hzz : ¬ ((s.size : Int) - ((t.size - 1 : Nat) : Int) < 0) := by omega
          go_wp2
          go_ret3
          refine postU_some HR.out ⟨?_, hb⟩
          refine pre_ret (Lib.extract_to_end t 1) ?_
          rw [← Lib.size_eq, List.length_drop, ← Lib.size_eq]
        have bq : ((t[0].toNat : Int) != 34) = true := by rw [bne_iff_ne]; omega
        by_cases h10 : t[0].toNat = 10
        · have HN : Hid (libU s.data.toList = none) := Lib.hid (by
            rw [HLU.out, hB.out, HH.out, body_lf _ hq h10]
            rfl)
          have hu : uc t.data.toList 34 = some (10, false, 1) := by
            rw [HH.out]
            unfold uc
            simp only [h10, Nat.reduceEqDiff, and_false, if_false]
            rfl
          have CU := Lib.hid (uc_some_at t 34 10 1 false wr ⟨_, _, hce⟩ hTr (by omega) hu)
          clear hu
          go_wp2_with (go_at_call 32; refine CU.out.mono ?_; rintro e w2 ⟨rfl, hb2⟩)
          have hce2 := (HEN.out w2 (hb.trans hb2)).1
          go_wp2
          go_quiet (fail)
          go_wp2
          go_ret3
          exact postU_none HN.out ⟨rfl, (hb.trans hb2).drewN _⟩
        have b10 : ((t[0].toNat : Int) == 10) = false := beq_eq_false_iff_ne.2 (by omega)
        cases hu : uc t.data.toList 34 with
        | none =>
          have HN : Hid (libU s.data.toList = none) := Lib.hid (by
            rw [HLU.out, hB.out, HH.out, body_bad _ hq (by rw [← HH.out]; exact hu)]
            rfl)
          have CU := Lib.hid (uc_none_at t 34 wr te ve hce hTr (by omega) hu)
          clear hu
          go_wp2_with (go_at_call 32; refine CU.out.mono ?_; rintro e w2 ⟨rfl, hb2⟩)
          have hce2 := (HEN.out w2 (hb.trans hb2)).1
          go_wp2
          go_quiet (fail)
          go_wp2
          go_ret3
          exact postU_none HN.out ⟨rfl, (hb.trans hb2).drewN _⟩
        | some y =>
          obtain ⟨v, m, k⟩ := y
          have hp := uc_pos hu
          rw [← Lib.size_eq] at hp
          have hbd := uc_bd (by decide) hu
          have CU := Lib.hid (uc_some_at t 34 v k m wr ⟨_, _, hce⟩ hTr (by omega) hu)
          have HST : Hid (body 34 t.data.toList = (body 34 (t.extract k t.size).data.toList).map fun p => (put v m ++ p.1, p.2)) := Lib.hid (by
            rw [Lib.extract_to_end]
            have := body_step (t.data.toList.drop 1) hq h10 (by rw [← HH.out]; exact hu)
            rwa [← HH.out] at this)
          have HRL : Hid (body 34 (s.extract 1 s.size).data.toList = (body 34 (t.extract k t.size).data.toList).map fun p => ((O ++ put v m) ++ p.1, p.2)) := Lib.hid (by
            rw [hB.out, HST.out]
            cases body 34 (t.extract k t.size).data.toList <;> simp)
          clear hu hbd
          go_wp2_with (go_at_call 32; refine CU.out.mono ?_; rintro e w2 ⟨rfl, hb2⟩)
          go_roundg g'
          case rel =>
            refine ⟨hb.trans hb2, rfl, t.extract k t.size, O ++ put v m, rfl, HRL, ?_, ?_⟩
            · rw [rest_size]; omega
            · rw [rest_size]; omega
          case measure => omega
      · have HN : Hid (libU s.data.toList = none) := Lib.hid (by
          rw [HLU.out, hB.out, empty_of_size h0]
          rfl)
        have h0f : decide ((0 : Int) < (t.size : Int)) = false := decide_eq_false (by omega)
        go_wp2
        go_quiet (fail)
        go_wp2
        go_ret3
        exact postU_none HN.out ⟨rfl, hb.drewN _⟩
end Go.Proofs.YtbnginnbpppegaaDoor
