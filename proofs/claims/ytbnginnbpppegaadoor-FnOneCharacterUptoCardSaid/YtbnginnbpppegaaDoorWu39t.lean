/-
  The walk over the library's unquote with escapes: quote 39, unescape true.
-/
import Derived.Test.YtbnginnbpppegaaDoorWu
namespace Go.Proofs.YtbnginnbpppegaaDoor
open Go.RowKit Go.Uq

set_option maxHeartbeats 8000000 in
set_option maxRecDepth 100000 in
theorem uq_slow39t (s : ByteArray) (c : UInt8) (a r : List UInt8) (w : World) (hE : Sent w) (hT : Tabs w) (hs : 3 * s.size + 16 ≤ 140737488355328) (h : 0 < s.size) (hc : s[0] = c) (hcq : c.toNat = 39) (Q : Quoted s c a r) (ha : ∀ x ∈ a, x ≠ c) (hslow : slow39 a) :
    ∃ (t : TypeId) (v : Value), Calls Tryd.prog 35 #[.string s, .bool true] w (PostU s true t v w) := by
  obtain ⟨te, ve, hcell⟩ := hE
  refine ⟨te, ve, ?_⟩
  have hsz := Q.size
  have C := Lib.hid (index_yes (s.extract 1 s.size) c a r w Q.tail ha)
  rw [hcq] at C
  have hLl : (s.extract 1 s.size).size = s.size - 1 := rest_size s 1
  have HLU : Hid (libU s.data.toList = charB (s.extract 1 s.size).data.toList) := Lib.hid (by
    rw [Q.list, Q.tail]
    unfold libU
    simp only [hcq, Nat.reduceEqDiff, if_false, if_true])
  have hz : decide ((s.size : Int) < 2) = false := by simp; omega
  have h1z : (1 : Int) ≤ s.size := by omega
  have h0z : (0 : Int) < s.size := by omega
  have nl : decide ((a.length : Int) < 0) = false := by simp
  have hcn : s[0].toNat = 39 := by rw [hc]; exact hcq
  have hla : a.length + 2 ≤ s.size := by omega
  have HEN : ∀ w' : World, Bw w w' → w'.cell? ⟨0, 0, none⟩ = some (.iface te ve) ∧ Tabs w' := fun w' hb => ⟨by rw [Below.cell hb (block_lt_of_cell hcell)]; exact hcell, hT.bw hb⟩
  have HEN := Lib.hid HEN
  unfold slow39 at hslow
  have hms : (s.extract 1 (a.length + 1)).size = a.length := by rw [Q.mid, Lib.size_eq]
  have c1 : ∀ w' : World, ((92 : UInt8) ∈ a → Calls Tryd.prog 41 #[.string (s.extract 0 (a.length + 2)), .int .u8 92] w' fun e w'' => e = .returned (.bool true) ∧ w' = w'') := fun w' hm => contains_yes (s.extract 0 (a.length + 2)) 92 w' (mem_pre' Q hm)
  have c1n : ∀ w' : World, ((∀ x ∈ a, x.toNat ≠ 92) → Calls Tryd.prog 41 #[.string (s.extract 0 (a.length + 2)), .int .u8 92] w' fun e w'' => e = .returned (.bool false) ∧ w' = w'') := fun w' hm => contains_no (s.extract 0 (a.length + 2)) 92 w' (mem_pre Q (fun e => by rw [← e] at hcq; exact absurd hcq (by decide)) (no_byte (d := 92) hm))
  have c2 : ∀ w' : World, ((10 : UInt8) ∈ a → Calls Tryd.prog 41 #[.string (s.extract 0 (a.length + 2)), .int .u8 10] w' fun e w'' => e = .returned (.bool true) ∧ w' = w'') := fun w' hm => contains_yes (s.extract 0 (a.length + 2)) 10 w' (mem_pre' Q hm)
  have c2n : ∀ w' : World, ((∀ x ∈ a, x.toNat ≠ 10) → Calls Tryd.prog 41 #[.string (s.extract 0 (a.length + 2)), .int .u8 10] w' fun e w'' => e = .returned (.bool false) ∧ w' = w'') := fun w' hm => contains_no (s.extract 0 (a.length + 2)) 10 w' (mem_pre Q (fun e => by rw [← e] at hcq; exact absurd hcq (by decide)) (no_byte (d := 10) hm))
  have c3 : a ≠ [] → ¬ (good a = true ∧ (Lib.decodeL a).2 = a.length) → ∃ rn k : Nat, ((((1 : Int) + k + 1 == (a.length : Int) + 2) = false) ∨ ((((1 : Int) + k + 1 == (a.length : Int) + 2) = true) ∧ ((rn : Int) != 65533) = false ∧ ((k : Int) != 1) = false)) ∧ k ≤ 4 ∧ ∀ w' : World, Tabs w' → Calls Tryd.prog 37 #[.string (s.extract 1 (a.length + 1))] w' fun e w'' => e = .returned (.tuple #[.int .i32 rn, .int .i64 k]) ∧ Bw w' w'' := fun hne hb => by
    refine ⟨(Lib.decodeL a).1, (Lib.decodeL a).2, ?_, ?_, fun w' ht => decodeRune_at _ w' _ _ (by rw [hms]; exact List.length_pos_iff.2 hne) ht (by rw [Q.mid])⟩
    · by_cases hl : (Lib.decodeL a).2 = a.length
      · right
        have hg : good a = false := by
          cases hg : good a with
          | false => rfl
          | true => exact absurd ⟨hg, hl⟩ hb
        obtain ⟨e1, e2⟩ := (good_neg a).1 hg
        refine ⟨by simp; omega, by simp [e1], by simp [e2]⟩
      · left
        exact beq_eq_false_iff_ne.2 (by omega)
    · rcases Lib.decodeN_shape a.length (a.getD 0 0).toNat (a.getD 1 0).toNat (a.getD 2 0).toNat (a.getD 3 0).toNat with ⟨c0, e⟩ | ⟨c1, c2, c3, cv, e⟩ | ⟨c1, c2, c3, c4, cv, cs, e⟩ | ⟨c1, c2, c3, c4, c5, cv, cw, e⟩ | e
      all_goals rw [← Lib.decodeL_N] at e
      all_goals rw [e]
      all_goals simp
  have C1 := Lib.hid c1
  have C1n := Lib.hid c1n
  have C2 := Lib.hid c2
  have C2n := Lib.hid c2n
  have C3 := Lib.hid c3
  clear c1 c1n c2 c2n c3 hsz Q hms hc hcq ha hcell hT
  generalize hn : a.length = n at C C1 C1n C2 C2n C3 nl hla hslow
  clear hn
  have hlz : (n : Int) + 2 ≤ s.size := by omega
  have hlz2 : (n : Int) + 1 ≤ s.size := by omega
  rcases hslow with m92 | ⟨m92, m10⟩ | ⟨m92, m10, mne, mv⟩
  · go_enter Tryd.func35, Tryd.ntmps35
    go_wp2_with fail
    refine C.out.mono ?_
    rintro e w1 ⟨rfl, rfl⟩
    go_wp2_with fail
    refine (C1.out _ m92).mono ?_
    rintro e w1 ⟨rfl, rfl⟩
    have hbs := Bw.refl w
    go_wp2_with (at_make; refine make_buf _ rfl _ _ rfl w.heap.size _ (3 * (n + 2) / 2) rfl rfl (by omega) (by omega) (by have := hbs.size; omega) ?_; intro v0 w0 hbuf0 hg0)
    have hbw0 := hbs.trans (grown_bw hg0)
    clear hg0 hbs
    have hb := hbw0
    obtain ⟨hce, hTr⟩ := HEN.out _ hb
    refine wp_loop_rounds 1 ?_
    rw [rounds_succ]
    generalize hgt : s.extract 1 s.size = t at HLU hLl ⊢
    clear hgt
    have hlt1 : t.size + 1 ≤ s.size := by omega
    clear hLl
    by_cases h0 : 0 < t.size
    rotate_left
    · have HN : Hid (libU s.data.toList = none) := Lib.hid (by
        rw [HLU.out, empty_of_size h0]
        rfl)
      have h0f : decide ((0 : Int) < (t.size : Int)) = false := decide_eq_false (by omega)
      go_wp2
      go_quiet (fail)
      go_wp2
      go_ret3
      exact postU_none HN.out ⟨rfl, hb.drewN _⟩
    have h0t : (0 : Int) < (t.size : Int) := by omega
    have h1t : (1 : Int) ≤ (t.size : Int) := by omega
    have HH := Lib.hid (head_list t h0)
    by_cases hq : t[0].toNat = 39
    · have HR : Hid (libU s.data.toList = some ([], t.data.toList.drop 1)) := Lib.hid (by
        rw [HLU.out, HH.out]
        unfold charB
        simp only [hq, if_true, List.drop_one, List.tail_cons])
      have hcv := hbuf0.conv
      go_wp2
      go_ret3
      exact postU_some HR.out ⟨full_ret (Lib.extract_to_end t 1) rfl, hb⟩
    have bq : ((t[0].toNat : Int) != 39) = true := by rw [bne_iff_ne]; omega
    by_cases h10 : t[0].toNat = 10
    · have HN : Hid (libU s.data.toList = none) := Lib.hid (by
        rw [HLU.out, HH.out]
        unfold charB
        simp only [h10, Nat.reduceEqDiff, if_false, if_true])
      have hu : uc t.data.toList 39 = some (10, false, 1) := by
        rw [HH.out]
        unfold uc
        simp only [h10, Nat.reduceEqDiff, and_false, if_false]
        rfl
      have CU := Lib.hid (uc_some_at t 39 10 1 false _ ⟨_, _, hce⟩ hTr (by omega) hu)
      clear hu
      go_wp2_with (go_at_call 32; refine CU.out.mono ?_; rintro e w2 ⟨rfl, hb2⟩)
      have hce2 := (HEN.out w2 (hb.trans hb2)).1
      go_wp2
      go_quiet (fail)
      go_wp2
      go_ret3
      exact postU_none HN.out ⟨rfl, (hb.trans hb2).drewN _⟩
    have b10 : ((t[0].toNat : Int) == 10) = false := beq_eq_false_iff_ne.2 (by omega)
    cases hu : uc t.data.toList 39 with
    | none =>
      have HN : Hid (libU s.data.toList = none) := Lib.hid (by
        have hu' := hu
        rw [HLU.out, HH.out]
        rw [HH.out] at hu'
        unfold charB
        simp only [if_neg hq, if_neg h10, hu'])
      have CU := Lib.hid (uc_none_at t 39 _ te ve hce hTr (by omega) hu)
      clear hu
      go_wp2_with (go_at_call 32; refine CU.out.mono ?_; rintro e w2 ⟨rfl, hb2⟩)
      have hce2 := (HEN.out w2 (hb.trans hb2)).1
      go_wp2
      go_quiet (fail)
      go_wp2
      go_ret3
      exact postU_none HN.out ⟨rfl, (hb.trans hb2).drewN _⟩
    | some y =>
      obtain ⟨v, m, k⟩ := y
      have hp := uc_pos hu
      rw [← Lib.size_eq] at hp
      have hbd := uc_bd (by decide) hu
      have CU := Lib.hid (uc_some_at t 39 v k m _ ⟨_, _, hce⟩ hTr (by omega) hu)
      have HLX : Hid (libU s.data.toList = match (t.extract k t.size).data.toList with | [] => none | d :: r' => if d.toNat = 39 then some (put v m, r') else none) := Lib.hid (by
        have hu' := hu
        rw [HLU.out, Lib.extract_to_end]
        rw [HH.out] at hu' ⊢
        unfold charB
        simp only [if_neg hq, if_neg h10, hu']
        cases (t[0] :: List.drop 1 t.data.toList).drop k <;> rfl)
      clear hu
      obtain ⟨PV, hPV⟩ : ∃ PV, put v m = PV := ⟨_, rfl⟩
      rw [hPV] at HLX
      have HPV := Lib.hid hPV
      clear hPV
      have hus := rest_size t k
      generalize t.extract k t.size = u at CU HLX hus
      have HUZ := Lib.hid hus
      have huz : u.size + 1 ≤ s.size := by omega
      clear hus
      by_cases hvm : v < 128 ∨ m = false
      · have hv255 : v ≤ 255 := by
          rcases hvm with hh | hh
          · omega
          · exact hbd.2 hh
        have HP : Hid (PV = [v.toUInt8]) := Lib.hid (by rw [← HPV.out]; unfold put; rw [if_pos hvm])
        have bvm : (decide ((v : Int) < 128) = true) ∨ (decide ((v : Int) < 128) = false ∧ m = false) := by
          by_cases hh : v < 128
          · left; simp; omega
          · right; exact ⟨by simp; omega, hvm.resolve_left hh⟩
        clear hvm hbd HPV
        rcases bvm with bv | ⟨bv, rfl⟩
        all_goals
          by_cases hu0 : 0 < u.size
          rotate_left
          · have HN : Hid (libU s.data.toList = none) := Lib.hid (by rw [HLX.out, empty_of_size hu0])
            have h0f : decide ((0 : Int) < (u.size : Int)) = false := decide_eq_false (by omega)
            go_wp2_with (first
              | (go_at_call 32; refine CU.out.mono ?_; rintro e w2 ⟨rfl, hb2⟩)
              | (at_builtin; refine app_byte _ rfl _ _ rfl w.heap.size _ [] rfl ((hbuf0.bw hb2).alloc _) ⟨w2.heap.size, 0, none⟩ v.toUInt8 rfl ?_ (by decide) (by simp only [World.size_alloc]; have := (hb.trans hb2).size; omega) ?_; (rw [u8_nat hv255]; simp [go_sem]); intro v1 w3 hbuf1 hg1; have hcv := hbuf1.conv))
            have HB3 : Bw w w3 := ((hb.trans hb2).alloc _).grown hg1 (fun j hj => hbuf0.row j hj)
            clear hg1
            have hce2 := (HEN.out _ HB3).1
            go_wp2
            go_quiet (fail)
            go_wp2
            go_ret3
            exact postU_none HN.out ⟨rfl, Bw.drewN HB3 _⟩
          have hu0z : (0 : Int) < (u.size : Int) := by omega
          have hu1z : (1 : Int) ≤ (u.size : Int) := by omega
          by_cases hu39 : u[0].toNat = 39
          · have HR : Hid (libU s.data.toList = some (PV, u.data.toList.drop 1)) := Lib.hid (by rw [HLX.out, head_list u hu0]; simp [hu39])
            go_wp2_with (first
              | (go_at_call 32; refine CU.out.mono ?_; rintro e w2 ⟨rfl, hb2⟩)
              | (at_builtin; refine app_byte _ rfl _ _ rfl w.heap.size _ [] rfl ((hbuf0.bw hb2).alloc _) ⟨w2.heap.size, 0, none⟩ v.toUInt8 rfl ?_ (by decide) (by simp only [World.size_alloc]; have := (hb.trans hb2).size; omega) ?_; (rw [u8_nat hv255]; simp [go_sem]); intro v1 w3 hbuf1 hg1; have hcv := hbuf1.conv))
            have HB3 : Bw w w3 := ((hb.trans hb2).alloc _).grown hg1 (fun j hj => hbuf0.row j hj)
            clear hg1
            go_wp2
            go_ret3
            exact postU_some HR.out ⟨full_ret (Lib.extract_to_end u 1) (by first | exact HP.out.symm | (rw [HP.out]; rfl)), HB3⟩
          · have HN : Hid (libU s.data.toList = none) := Lib.hid (by rw [HLX.out, head_list u hu0]; simp [hu39])
            have bu : ((u[0].toNat : Int) == 39) = false := beq_eq_false_iff_ne.2 (by omega)
            go_wp2_with (first
              | (go_at_call 32; refine CU.out.mono ?_; rintro e w2 ⟨rfl, hb2⟩)
              | (at_builtin; refine app_byte _ rfl _ _ rfl w.heap.size _ [] rfl ((hbuf0.bw hb2).alloc _) ⟨w2.heap.size, 0, none⟩ v.toUInt8 rfl ?_ (by decide) (by simp only [World.size_alloc]; have := (hb.trans hb2).size; omega) ?_; (rw [u8_nat hv255]; simp [go_sem]); intro v1 w3 hbuf1 hg1; have hcv := hbuf1.conv))
            have HB3 : Bw w w3 := ((hb.trans hb2).alloc _).grown hg1 (fun j hj => hbuf0.row j hj)
            clear hg1
            have hce2 := (HEN.out _ HB3).1
            go_wp2
            go_quiet (fail)
            go_wp2
            go_ret3
            exact postU_none HN.out ⟨rfl, Bw.drewN HB3 _⟩
      · have hv : ¬ v < 128 := fun hh => hvm (.inl hh)
        have hm : m = true := by
          cases m with
          | true => rfl
          | false => exact absurd (.inr rfl) hvm
        have HP : Hid (PV = Lib.encodeRune v) := Lib.hid (by rw [← HPV.out]; unfold put; rw [if_neg hvm])
        have bv : decide ((v : Int) < 128) = false := by simp; omega
        have hv1 := hbd.1
        clear HPV
        subst hm
        clear hvm hbd
        by_cases hu0 : 0 < u.size
        rotate_left
        · have HN : Hid (libU s.data.toList = none) := Lib.hid (by rw [HLX.out, empty_of_size hu0])
          have h0f : decide ((0 : Int) < (u.size : Int)) = false := decide_eq_false (by omega)
          go_wp2_with (first
            | (go_at_call 32; refine CU.out.mono ?_; rintro e w2 ⟨rfl, hb2⟩)
            | (go_at_call 43; refine (appendRune_buf w.heap.size _ [] v _ hv1 (hbuf0.bw hb2) (by decide) (hb.trans hb2).size).mono ?_; rintro e w3 ⟨v1, rfl, hbuf1, hg1⟩; have hcv := hbuf1.conv))
          have HB3 : Bw w w3 := hg1 w rfl (hb.trans hb2)
          clear hg1
          have hce2 := (HEN.out _ HB3).1
          go_wp2
          go_quiet (fail)
          go_wp2
          go_ret3
          exact postU_none HN.out ⟨rfl, Bw.drewN HB3 _⟩
        have hu0z : (0 : Int) < (u.size : Int) := by omega
        have hu1z : (1 : Int) ≤ (u.size : Int) := by omega
        by_cases hu39 : u[0].toNat = 39
        · have HR : Hid (libU s.data.toList = some (PV, u.data.toList.drop 1)) := Lib.hid (by rw [HLX.out, head_list u hu0]; simp [hu39])
          go_wp2_with (first
            | (go_at_call 32; refine CU.out.mono ?_; rintro e w2 ⟨rfl, hb2⟩)
            | (go_at_call 43; refine (appendRune_buf w.heap.size _ [] v _ hv1 (hbuf0.bw hb2) (by decide) (hb.trans hb2).size).mono ?_; rintro e w3 ⟨v1, rfl, hbuf1, hg1⟩; have hcv := hbuf1.conv))
          have HB3 : Bw w w3 := hg1 w rfl (hb.trans hb2)
          clear hg1
          go_wp2
          go_ret3
          exact postU_some HR.out ⟨full_ret (Lib.extract_to_end u 1) (by first | exact HP.out.symm | (rw [HP.out]; rfl)), HB3⟩
        · have HN : Hid (libU s.data.toList = none) := Lib.hid (by rw [HLX.out, head_list u hu0]; simp [hu39])
          have bu : ((u[0].toNat : Int) == 39) = false := beq_eq_false_iff_ne.2 (by omega)
          go_wp2_with (first
            | (go_at_call 32; refine CU.out.mono ?_; rintro e w2 ⟨rfl, hb2⟩)
            | (go_at_call 43; refine (appendRune_buf w.heap.size _ [] v _ hv1 (hbuf0.bw hb2) (by decide) (hb.trans hb2).size).mono ?_; rintro e w3 ⟨v1, rfl, hbuf1, hg1⟩; have hcv := hbuf1.conv))
          have HB3 : Bw w w3 := hg1 w rfl (hb.trans hb2)
          clear hg1
          have hce2 := (HEN.out _ HB3).1
          go_wp2
          go_quiet (fail)
          go_wp2
          go_ret3
          exact postU_none HN.out ⟨rfl, Bw.drewN HB3 _⟩
  · go_enter Tryd.func35, Tryd.ntmps35
    go_wp2_with fail
    refine C.out.mono ?_
    rintro e w1 ⟨rfl, rfl⟩
    go_wp2_with fail
    refine (C1n.out _ m92).mono ?_
    rintro e w1 ⟨rfl, rfl⟩
    go_wp2_with fail
    refine (C2.out _ m10).mono ?_
    rintro e w1 ⟨rfl, rfl⟩
    have hbs := Bw.refl w
    go_wp2_with (at_make; refine make_buf _ rfl _ _ rfl w.heap.size _ (3 * (n + 2) / 2) rfl rfl (by omega) (by omega) (by have := hbs.size; omega) ?_; intro v0 w0 hbuf0 hg0)
    have hbw0 := hbs.trans (grown_bw hg0)
    clear hg0 hbs
    have hb := hbw0
    obtain ⟨hce, hTr⟩ := HEN.out _ hb
    refine wp_loop_rounds 1 ?_
    rw [rounds_succ]
    generalize hgt : s.extract 1 s.size = t at HLU hLl ⊢
    clear hgt
    have hlt1 : t.size + 1 ≤ s.size := by omega
    clear hLl
    by_cases h0 : 0 < t.size
    rotate_left
    · have HN : Hid (libU s.data.toList = none) := Lib.hid (by
        rw [HLU.out, empty_of_size h0]
        rfl)
      have h0f : decide ((0 : Int) < (t.size : Int)) = false := decide_eq_false (by omega)
      go_wp2
      go_quiet (fail)
      go_wp2
      go_ret3
      exact postU_none HN.out ⟨rfl, hb.drewN _⟩
    have h0t : (0 : Int) < (t.size : Int) := by omega
    have h1t : (1 : Int) ≤ (t.size : Int) := by omega
    have HH := Lib.hid (head_list t h0)
    by_cases hq : t[0].toNat = 39
    · have HR : Hid (libU s.data.toList = some ([], t.data.toList.drop 1)) := Lib.hid (by
        rw [HLU.out, HH.out]
        unfold charB
        simp only [hq, if_true, List.drop_one, List.tail_cons])
      have hcv := hbuf0.conv
      go_wp2
      go_ret3
      exact postU_some HR.out ⟨full_ret (Lib.extract_to_end t 1) rfl, hb⟩
    have bq : ((t[0].toNat : Int) != 39) = true := by rw [bne_iff_ne]; omega
    by_cases h10 : t[0].toNat = 10
    · have HN : Hid (libU s.data.toList = none) := Lib.hid (by
        rw [HLU.out, HH.out]
        unfold charB
        simp only [h10, Nat.reduceEqDiff, if_false, if_true])
      have hu : uc t.data.toList 39 = some (10, false, 1) := by
        rw [HH.out]
        unfold uc
        simp only [h10, Nat.reduceEqDiff, and_false, if_false]
        rfl
      have CU := Lib.hid (uc_some_at t 39 10 1 false _ ⟨_, _, hce⟩ hTr (by omega) hu)
      clear hu
      go_wp2_with (go_at_call 32; refine CU.out.mono ?_; rintro e w2 ⟨rfl, hb2⟩)
      have hce2 := (HEN.out w2 (hb.trans hb2)).1
      go_wp2
      go_quiet (fail)
      go_wp2
      go_ret3
      exact postU_none HN.out ⟨rfl, (hb.trans hb2).drewN _⟩
    have b10 : ((t[0].toNat : Int) == 10) = false := beq_eq_false_iff_ne.2 (by omega)
    cases hu : uc t.data.toList 39 with
    | none =>
      have HN : Hid (libU s.data.toList = none) := Lib.hid (by
        have hu' := hu
        rw [HLU.out, HH.out]
        rw [HH.out] at hu'
        unfold charB
        simp only [if_neg hq, if_neg h10, hu'])
      have CU := Lib.hid (uc_none_at t 39 _ te ve hce hTr (by omega) hu)
      clear hu
      go_wp2_with (go_at_call 32; refine CU.out.mono ?_; rintro e w2 ⟨rfl, hb2⟩)
      have hce2 := (HEN.out w2 (hb.trans hb2)).1
      go_wp2
      go_quiet (fail)
      go_wp2
      go_ret3
      exact postU_none HN.out ⟨rfl, (hb.trans hb2).drewN _⟩
    | some y =>
      obtain ⟨v, m, k⟩ := y
      have hp := uc_pos hu
      rw [← Lib.size_eq] at hp
      have hbd := uc_bd (by decide) hu
      have CU := Lib.hid (uc_some_at t 39 v k m _ ⟨_, _, hce⟩ hTr (by omega) hu)
      have HLX : Hid (libU s.data.toList = match (t.extract k t.size).data.toList with | [] => none | d :: r' => if d.toNat = 39 then some (put v m, r') else none) := Lib.hid (by
        have hu' := hu
        rw [HLU.out, Lib.extract_to_end]
        rw [HH.out] at hu' ⊢
        unfold charB
        simp only [if_neg hq, if_neg h10, hu']
        cases (t[0] :: List.drop 1 t.data.toList).drop k <;> rfl)
      clear hu
      obtain ⟨PV, hPV⟩ : ∃ PV, put v m = PV := ⟨_, rfl⟩
      rw [hPV] at HLX
      have HPV := Lib.hid hPV
      clear hPV
      have hus := rest_size t k
      generalize t.extract k t.size = u at CU HLX hus
      have HUZ := Lib.hid hus
      have huz : u.size + 1 ≤ s.size := by omega
      clear hus
      by_cases hvm : v < 128 ∨ m = false
      · have hv255 : v ≤ 255 := by
          rcases hvm with hh | hh
          · omega
          · exact hbd.2 hh
        have HP : Hid (PV = [v.toUInt8]) := Lib.hid (by rw [← HPV.out]; unfold put; rw [if_pos hvm])
        have bvm : (decide ((v : Int) < 128) = true) ∨ (decide ((v : Int) < 128) = false ∧ m = false) := by
          by_cases hh : v < 128
          · left; simp; omega
          · right; exact ⟨by simp; omega, hvm.resolve_left hh⟩
        clear hvm hbd HPV
        rcases bvm with bv | ⟨bv, rfl⟩
        all_goals
          by_cases hu0 : 0 < u.size
          rotate_left
          · have HN : Hid (libU s.data.toList = none) := Lib.hid (by rw [HLX.out, empty_of_size hu0])
            have h0f : decide ((0 : Int) < (u.size : Int)) = false := decide_eq_false (by omega)
            go_wp2_with (first
              | (go_at_call 32; refine CU.out.mono ?_; rintro e w2 ⟨rfl, hb2⟩)
              | (at_builtin; refine app_byte _ rfl _ _ rfl w.heap.size _ [] rfl ((hbuf0.bw hb2).alloc _) ⟨w2.heap.size, 0, none⟩ v.toUInt8 rfl ?_ (by decide) (by simp only [World.size_alloc]; have := (hb.trans hb2).size; omega) ?_; (rw [u8_nat hv255]; simp [go_sem]); intro v1 w3 hbuf1 hg1; have hcv := hbuf1.conv))
            have HB3 : Bw w w3 := ((hb.trans hb2).alloc _).grown hg1 (fun j hj => hbuf0.row j hj)
            clear hg1
            have hce2 := (HEN.out _ HB3).1
            go_wp2
            go_quiet (fail)
            go_wp2
            go_ret3
            exact postU_none HN.out ⟨rfl, Bw.drewN HB3 _⟩
          have hu0z : (0 : Int) < (u.size : Int) := by omega
          have hu1z : (1 : Int) ≤ (u.size : Int) := by omega
          by_cases hu39 : u[0].toNat = 39
          · have HR : Hid (libU s.data.toList = some (PV, u.data.toList.drop 1)) := Lib.hid (by rw [HLX.out, head_list u hu0]; simp [hu39])
            go_wp2_with (first
              | (go_at_call 32; refine CU.out.mono ?_; rintro e w2 ⟨rfl, hb2⟩)
              | (at_builtin; refine app_byte _ rfl _ _ rfl w.heap.size _ [] rfl ((hbuf0.bw hb2).alloc _) ⟨w2.heap.size, 0, none⟩ v.toUInt8 rfl ?_ (by decide) (by simp only [World.size_alloc]; have := (hb.trans hb2).size; omega) ?_; (rw [u8_nat hv255]; simp [go_sem]); intro v1 w3 hbuf1 hg1; have hcv := hbuf1.conv))
            have HB3 : Bw w w3 := ((hb.trans hb2).alloc _).grown hg1 (fun j hj => hbuf0.row j hj)
            clear hg1
            go_wp2
            go_ret3
            exact postU_some HR.out ⟨full_ret (Lib.extract_to_end u 1) (by first | exact HP.out.symm | (rw [HP.out]; rfl)), HB3⟩
          · have HN : Hid (libU s.data.toList = none) := Lib.hid (by rw [HLX.out, head_list u hu0]; simp [hu39])
            have bu : ((u[0].toNat : Int) == 39) = false := beq_eq_false_iff_ne.2 (by omega)
            go_wp2_with (first
              | (go_at_call 32; refine CU.out.mono ?_; rintro e w2 ⟨rfl, hb2⟩)
              | (at_builtin; refine app_byte _ rfl _ _ rfl w.heap.size _ [] rfl ((hbuf0.bw hb2).alloc _) ⟨w2.heap.size, 0, none⟩ v.toUInt8 rfl ?_ (by decide) (by simp only [World.size_alloc]; have := (hb.trans hb2).size; omega) ?_; (rw [u8_nat hv255]; simp [go_sem]); intro v1 w3 hbuf1 hg1; have hcv := hbuf1.conv))
            have HB3 : Bw w w3 := ((hb.trans hb2).alloc _).grown hg1 (fun j hj => hbuf0.row j hj)
            clear hg1
            have hce2 := (HEN.out _ HB3).1
            go_wp2
            go_quiet (fail)
            go_wp2
            go_ret3
            exact postU_none HN.out ⟨rfl, Bw.drewN HB3 _⟩
      · have hv : ¬ v < 128 := fun hh => hvm (.inl hh)
        have hm : m = true := by
          cases m with
          | true => rfl
          | false => exact absurd (.inr rfl) hvm
        have HP : Hid (PV = Lib.encodeRune v) := Lib.hid (by rw [← HPV.out]; unfold put; rw [if_neg hvm])
        have bv : decide ((v : Int) < 128) = false := by simp; omega
        have hv1 := hbd.1
        clear HPV
        subst hm
        clear hvm hbd
        by_cases hu0 : 0 < u.size
        rotate_left
        · have HN : Hid (libU s.data.toList = none) := Lib.hid (by rw [HLX.out, empty_of_size hu0])
          have h0f : decide ((0 : Int) < (u.size : Int)) = false := decide_eq_false (by omega)
          go_wp2_with (first
            | (go_at_call 32; refine CU.out.mono ?_; rintro e w2 ⟨rfl, hb2⟩)
            | (go_at_call 43; refine (appendRune_buf w.heap.size _ [] v _ hv1 (hbuf0.bw hb2) (by decide) (hb.trans hb2).size).mono ?_; rintro e w3 ⟨v1, rfl, hbuf1, hg1⟩; have hcv := hbuf1.conv))
          have HB3 : Bw w w3 := hg1 w rfl (hb.trans hb2)
          clear hg1
          have hce2 := (HEN.out _ HB3).1
          go_wp2
          go_quiet (fail)
          go_wp2
          go_ret3
          exact postU_none HN.out ⟨rfl, Bw.drewN HB3 _⟩
        have hu0z : (0 : Int) < (u.size : Int) := by omega
        have hu1z : (1 : Int) ≤ (u.size : Int) := by omega
        by_cases hu39 : u[0].toNat = 39
        · have HR : Hid (libU s.data.toList = some (PV, u.data.toList.drop 1)) := Lib.hid (by rw [HLX.out, head_list u hu0]; simp [hu39])
          go_wp2_with (first
            | (go_at_call 32; refine CU.out.mono ?_; rintro e w2 ⟨rfl, hb2⟩)
            | (go_at_call 43; refine (appendRune_buf w.heap.size _ [] v _ hv1 (hbuf0.bw hb2) (by decide) (hb.trans hb2).size).mono ?_; rintro e w3 ⟨v1, rfl, hbuf1, hg1⟩; have hcv := hbuf1.conv))
          have HB3 : Bw w w3 := hg1 w rfl (hb.trans hb2)
          clear hg1
          go_wp2
          go_ret3
          exact postU_some HR.out ⟨full_ret (Lib.extract_to_end u 1) (by first | exact HP.out.symm | (rw [HP.out]; rfl)), HB3⟩
        · have HN : Hid (libU s.data.toList = none) := Lib.hid (by rw [HLX.out, head_list u hu0]; simp [hu39])
          have bu : ((u[0].toNat : Int) == 39) = false := beq_eq_false_iff_ne.2 (by omega)
          go_wp2_with (first
            | (go_at_call 32; refine CU.out.mono ?_; rintro e w2 ⟨rfl, hb2⟩)
            | (go_at_call 43; refine (appendRune_buf w.heap.size _ [] v _ hv1 (hbuf0.bw hb2) (by decide) (hb.trans hb2).size).mono ?_; rintro e w3 ⟨v1, rfl, hbuf1, hg1⟩; have hcv := hbuf1.conv))
          have HB3 : Bw w w3 := hg1 w rfl (hb.trans hb2)
          clear hg1
          have hce2 := (HEN.out _ HB3).1
          go_wp2
          go_quiet (fail)
          go_wp2
          go_ret3
          exact postU_none HN.out ⟨rfl, Bw.drewN HB3 _⟩
  · obtain ⟨rn, kk, hcase, hk4, c4⟩ := C3.out mne mv
    have C4 := Lib.hid c4
    clear c4
    rcases hcase with b1 | ⟨b1, b2, b3⟩
    all_goals
      go_enter Tryd.func35, Tryd.ntmps35
      go_wp2_with fail
      refine C.out.mono ?_
      rintro e w1 ⟨rfl, rfl⟩
      go_wp2_with fail
      refine (C1n.out _ m92).mono ?_
      rintro e w1 ⟨rfl, rfl⟩
      go_wp2_with fail
      refine (C2n.out _ m10).mono ?_
      rintro e w1 ⟨rfl, rfl⟩
      go_wp2_with fail
      refine (C4.out _ (HEN.out w (Bw.refl w)).2).mono ?_
      rintro e w1 ⟨rfl, hbs⟩
      go_wp2_with (at_make; refine make_buf _ rfl _ _ rfl w.heap.size _ (3 * (n + 2) / 2) rfl rfl (by omega) (by omega) (by have := hbs.size; omega) ?_; intro v0 w0 hbuf0 hg0)
      have hbw0 := hbs.trans (grown_bw hg0)
      clear hg0 hbs
      have hb := hbw0
      obtain ⟨hce, hTr⟩ := HEN.out _ hb
      refine wp_loop_rounds 1 ?_
      rw [rounds_succ]
      generalize hgt : s.extract 1 s.size = t at HLU hLl ⊢
      clear hgt
      have hlt1 : t.size + 1 ≤ s.size := by omega
      clear hLl
      by_cases h0 : 0 < t.size
      rotate_left
      · have HN : Hid (libU s.data.toList = none) := Lib.hid (by
          rw [HLU.out, empty_of_size h0]
          rfl)
        have h0f : decide ((0 : Int) < (t.size : Int)) = false := decide_eq_false (by omega)
        go_wp2
        go_quiet (fail)
        go_wp2
        go_ret3
        exact postU_none HN.out ⟨rfl, hb.drewN _⟩
      have h0t : (0 : Int) < (t.size : Int) := by omega
      have h1t : (1 : Int) ≤ (t.size : Int) := by omega
      have HH := Lib.hid (head_list t h0)
      by_cases hq : t[0].toNat = 39
      · have HR : Hid (libU s.data.toList = some ([], t.data.toList.drop 1)) := Lib.hid (by
          rw [HLU.out, HH.out]
          unfold charB
          simp only [hq, if_true, List.drop_one, List.tail_cons])
        have hcv := hbuf0.conv
        go_wp2
        go_ret3
        exact postU_some HR.out ⟨full_ret (Lib.extract_to_end t 1) rfl, hb⟩
      have bq : ((t[0].toNat : Int) != 39) = true := by rw [bne_iff_ne]; omega
      by_cases h10 : t[0].toNat = 10
      · have HN : Hid (libU s.data.toList = none) := Lib.hid (by
          rw [HLU.out, HH.out]
          unfold charB
          simp only [h10, Nat.reduceEqDiff, if_false, if_true])
        have hu : uc t.data.toList 39 = some (10, false, 1) := by
          rw [HH.out]
          unfold uc
          simp only [h10, Nat.reduceEqDiff, and_false, if_false]
          rfl
        have CU := Lib.hid (uc_some_at t 39 10 1 false _ ⟨_, _, hce⟩ hTr (by omega) hu)
        clear hu
        go_wp2_with (go_at_call 32; refine CU.out.mono ?_; rintro e w2 ⟨rfl, hb2⟩)
        have hce2 := (HEN.out w2 (hb.trans hb2)).1
        go_wp2
        go_quiet (fail)
        go_wp2
        go_ret3
        exact postU_none HN.out ⟨rfl, (hb.trans hb2).drewN _⟩
      have b10 : ((t[0].toNat : Int) == 10) = false := beq_eq_false_iff_ne.2 (by omega)
      cases hu : uc t.data.toList 39 with
      | none =>
        have HN : Hid (libU s.data.toList = none) := Lib.hid (by
          have hu' := hu
          rw [HLU.out, HH.out]
          rw [HH.out] at hu'
          unfold charB
          simp only [if_neg hq, if_neg h10, hu'])
        have CU := Lib.hid (uc_none_at t 39 _ te ve hce hTr (by omega) hu)
        clear hu
        go_wp2_with (go_at_call 32; refine CU.out.mono ?_; rintro e w2 ⟨rfl, hb2⟩)
        have hce2 := (HEN.out w2 (hb.trans hb2)).1
        go_wp2
        go_quiet (fail)
        go_wp2
        go_ret3
        exact postU_none HN.out ⟨rfl, (hb.trans hb2).drewN _⟩
      | some y =>
        obtain ⟨v, m, k⟩ := y
        have hp := uc_pos hu
        rw [← Lib.size_eq] at hp
        have hbd := uc_bd (by decide) hu
        have CU := Lib.hid (uc_some_at t 39 v k m _ ⟨_, _, hce⟩ hTr (by omega) hu)
        have HLX : Hid (libU s.data.toList = match (t.extract k t.size).data.toList with | [] => none | d :: r' => if d.toNat = 39 then some (put v m, r') else none) := Lib.hid (by
          have hu' := hu
          rw [HLU.out, Lib.extract_to_end]
          rw [HH.out] at hu' ⊢
          unfold charB
          simp only [if_neg hq, if_neg h10, hu']
          cases (t[0] :: List.drop 1 t.data.toList).drop k <;> rfl)
        clear hu
        obtain ⟨PV, hPV⟩ : ∃ PV, put v m = PV := ⟨_, rfl⟩
        rw [hPV] at HLX
        have HPV := Lib.hid hPV
        clear hPV
        have hus := rest_size t k
        generalize t.extract k t.size = u at CU HLX hus
        have HUZ := Lib.hid hus
        have huz : u.size + 1 ≤ s.size := by omega
        clear hus
        by_cases hvm : v < 128 ∨ m = false
        · have hv255 : v ≤ 255 := by
            rcases hvm with hh | hh
            · omega
            · exact hbd.2 hh
          have HP : Hid (PV = [v.toUInt8]) := Lib.hid (by rw [← HPV.out]; unfold put; rw [if_pos hvm])
          have bvm : (decide ((v : Int) < 128) = true) ∨ (decide ((v : Int) < 128) = false ∧ m = false) := by
            by_cases hh : v < 128
            · left; simp; omega
            · right; exact ⟨by simp; omega, hvm.resolve_left hh⟩
          clear hvm hbd HPV
          rcases bvm with bv | ⟨bv, rfl⟩
          all_goals
            by_cases hu0 : 0 < u.size
            rotate_left
            · have HN : Hid (libU s.data.toList = none) := Lib.hid (by rw [HLX.out, empty_of_size hu0])
              have h0f : decide ((0 : Int) < (u.size : Int)) = false := decide_eq_false (by omega)
              go_wp2_with (first
                | (go_at_call 32; refine CU.out.mono ?_; rintro e w2 ⟨rfl, hb2⟩)
                | (at_builtin; refine app_byte _ rfl _ _ rfl w.heap.size _ [] rfl ((hbuf0.bw hb2).alloc _) ⟨w2.heap.size, 0, none⟩ v.toUInt8 rfl ?_ (by decide) (by simp only [World.size_alloc]; have := (hb.trans hb2).size; omega) ?_; (rw [u8_nat hv255]; simp [go_sem]); intro v1 w3 hbuf1 hg1; have hcv := hbuf1.conv))
              have HB3 : Bw w w3 := ((hb.trans hb2).alloc _).grown hg1 (fun j hj => hbuf0.row j hj)
              clear hg1
              have hce2 := (HEN.out _ HB3).1
              go_wp2
              go_quiet (fail)
              go_wp2
              go_ret3
              exact postU_none HN.out ⟨rfl, Bw.drewN HB3 _⟩
            have hu0z : (0 : Int) < (u.size : Int) := by omega
            have hu1z : (1 : Int) ≤ (u.size : Int) := by omega
            by_cases hu39 : u[0].toNat = 39
            · have HR : Hid (libU s.data.toList = some (PV, u.data.toList.drop 1)) := Lib.hid (by rw [HLX.out, head_list u hu0]; simp [hu39])
              go_wp2_with (first
                | (go_at_call 32; refine CU.out.mono ?_; rintro e w2 ⟨rfl, hb2⟩)
                | (at_builtin; refine app_byte _ rfl _ _ rfl w.heap.size _ [] rfl ((hbuf0.bw hb2).alloc _) ⟨w2.heap.size, 0, none⟩ v.toUInt8 rfl ?_ (by decide) (by simp only [World.size_alloc]; have := (hb.trans hb2).size; omega) ?_; (rw [u8_nat hv255]; simp [go_sem]); intro v1 w3 hbuf1 hg1; have hcv := hbuf1.conv))
              have HB3 : Bw w w3 := ((hb.trans hb2).alloc _).grown hg1 (fun j hj => hbuf0.row j hj)
              clear hg1
              go_wp2
              go_ret3
              exact postU_some HR.out ⟨full_ret (Lib.extract_to_end u 1) (by first | exact HP.out.symm | (rw [HP.out]; rfl)), HB3⟩
            · have HN : Hid (libU s.data.toList = none) := Lib.hid (by rw [HLX.out, head_list u hu0]; simp [hu39])
              have bu : ((u[0].toNat : Int) == 39) = false := beq_eq_false_iff_ne.2 (by omega)
              go_wp2_with (first
                | (go_at_call 32; refine CU.out.mono ?_; rintro e w2 ⟨rfl, hb2⟩)
                | (at_builtin; refine app_byte _ rfl _ _ rfl w.heap.size _ [] rfl ((hbuf0.bw hb2).alloc _) ⟨w2.heap.size, 0, none⟩ v.toUInt8 rfl ?_ (by decide) (by simp only [World.size_alloc]; have := (hb.trans hb2).size; omega) ?_; (rw [u8_nat hv255]; simp [go_sem]); intro v1 w3 hbuf1 hg1; have hcv := hbuf1.conv))
              have HB3 : Bw w w3 := ((hb.trans hb2).alloc _).grown hg1 (fun j hj => hbuf0.row j hj)
              clear hg1
              have hce2 := (HEN.out _ HB3).1
              go_wp2
              go_quiet (fail)
              go_wp2
              go_ret3
              exact postU_none HN.out ⟨rfl, Bw.drewN HB3 _⟩
        · have hv : ¬ v < 128 := fun hh => hvm (.inl hh)
          have hm : m = true := by
            cases m with
            | true => rfl
            | false => exact absurd (.inr rfl) hvm
          have HP : Hid (PV = Lib.encodeRune v) := Lib.hid (by rw [← HPV.out]; unfold put; rw [if_neg hvm])
          have bv : decide ((v : Int) < 128) = false := by simp; omega
          have hv1 := hbd.1
          clear HPV
          subst hm
          clear hvm hbd
          by_cases hu0 : 0 < u.size
          rotate_left
          · have HN : Hid (libU s.data.toList = none) := Lib.hid (by rw [HLX.out, empty_of_size hu0])
            have h0f : decide ((0 : Int) < (u.size : Int)) = false := decide_eq_false (by omega)
            go_wp2_with (first
              | (go_at_call 32; refine CU.out.mono ?_; rintro e w2 ⟨rfl, hb2⟩)
              | (go_at_call 43; refine (appendRune_buf w.heap.size _ [] v _ hv1 (hbuf0.bw hb2) (by decide) (hb.trans hb2).size).mono ?_; rintro e w3 ⟨v1, rfl, hbuf1, hg1⟩; have hcv := hbuf1.conv))
            have HB3 : Bw w w3 := hg1 w rfl (hb.trans hb2)
            clear hg1
            have hce2 := (HEN.out _ HB3).1
            go_wp2
            go_quiet (fail)
            go_wp2
            go_ret3
            exact postU_none HN.out ⟨rfl, Bw.drewN HB3 _⟩
          have hu0z : (0 : Int) < (u.size : Int) := by omega
          have hu1z : (1 : Int) ≤ (u.size : Int) := by omega
          by_cases hu39 : u[0].toNat = 39
          · have HR : Hid (libU s.data.toList = some (PV, u.data.toList.drop 1)) := Lib.hid (by rw [HLX.out, head_list u hu0]; simp [hu39])
            go_wp2_with (first
              | (go_at_call 32; refine CU.out.mono ?_; rintro e w2 ⟨rfl, hb2⟩)
              | (go_at_call 43; refine (appendRune_buf w.heap.size _ [] v _ hv1 (hbuf0.bw hb2) (by decide) (hb.trans hb2).size).mono ?_; rintro e w3 ⟨v1, rfl, hbuf1, hg1⟩; have hcv := hbuf1.conv))
            have HB3 : Bw w w3 := hg1 w rfl (hb.trans hb2)
            clear hg1
            go_wp2
            go_ret3
            exact postU_some HR.out ⟨full_ret (Lib.extract_to_end u 1) (by first | exact HP.out.symm | (rw [HP.out]; rfl)), HB3⟩
          · have HN : Hid (libU s.data.toList = none) := Lib.hid (by rw [HLX.out, head_list u hu0]; simp [hu39])
            have bu : ((u[0].toNat : Int) == 39) = false := beq_eq_false_iff_ne.2 (by omega)
            go_wp2_with (first
              | (go_at_call 32; refine CU.out.mono ?_; rintro e w2 ⟨rfl, hb2⟩)
              | (go_at_call 43; refine (appendRune_buf w.heap.size _ [] v _ hv1 (hbuf0.bw hb2) (by decide) (hb.trans hb2).size).mono ?_; rintro e w3 ⟨v1, rfl, hbuf1, hg1⟩; have hcv := hbuf1.conv))
            have HB3 : Bw w w3 := hg1 w rfl (hb.trans hb2)
            clear hg1
            have hce2 := (HEN.out _ HB3).1
            go_wp2
            go_quiet (fail)
            go_wp2
            go_ret3
            exact postU_none HN.out ⟨rfl, Bw.drewN HB3 _⟩
end Go.Proofs.YtbnginnbpppegaaDoor
