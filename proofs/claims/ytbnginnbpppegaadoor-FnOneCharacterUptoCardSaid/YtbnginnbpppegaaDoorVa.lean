/-
  The walks over the reference's Bytes, Kind and raw.
-/
import Derived.Test.YtbnginnbpppegaaDoorWy
namespace Go.Proofs.YtbnginnbpppegaaDoor
open Go.RowKit Go.Uq

/-- what an element holds: a byte, or a character -/
def okEl (e : El) : Prop := (e.b = true ∧ e.v ≤ 255) ∨ (e.b = false ∧ cp e.v = true)
theorem good_cp {l : List UInt8} (hne : l ≠ []) (hg : good l = true) : cp (Lib.decodeL l).1 = true := by
  obtain ⟨h1, h4, hl, hf⟩ := dec_fits hne hg
  have hd := (fits_dec h1 h4 hl hf).1
  unfold specDec at hd
  rw [if_neg hne, if_pos hg] at hd
  have hv := congrArg Prod.fst hd
  simp only at hv
  unfold fits at hf
  rw [decide_eq_true_eq] at hf
  obtain ⟨ha, hb, hc⟩ := hf
  have hne' : encS (cand l (Lib.decodeL l).2) ≠ [] := by
    rw [hc]
    exact take_ne l _ h1 hl
  have := (encS_len _ hne').2
  unfold cp
  rw [decide_eq_true_eq, hv]
  omega
theorem first_ok {l : List UInt8} {q : Nat} {e : El} (hq : q < 128) (h : first l q = some e) : okEl e := by
  match l with
  | [] => cases h
  | c :: t =>
    unfold first at h
    simp only at h
    split at h
    · cases h
    split at h
    · rcases esc_kinds hq h with ⟨h0, _, h1, _⟩ | ⟨h0, _, h1, _⟩ | ⟨h0, _, h1, _⟩
      · exact .inl ⟨h0, h1⟩
      · refine .inr ⟨h0, ?_⟩
        unfold cp
        rw [decide_eq_true_eq]
        omega
      · exact .inr ⟨h0, h1⟩
    · split at h
      · rename_i hg; cases h; exact .inr ⟨rfl, good_cp (by simp) hg⟩
      · cases h
theorem elems_ok {q : Nat} (hq : q < 128) : ∀ (n : Nat) (l : List UInt8) (es : List El), l.length ≤ n → elems l q = some es → ∀ e ∈ es, okEl e
  | 0, l, es, hn, h => by
    obtain rfl : l = [] := List.eq_nil_of_length_eq_zero (by omega)
    rw [elems_nil] at h
    cases h
    intro e he
    cases he
  | n + 1, l, es, hn, h => by
    rcases elems_inv h with ⟨_, rfl⟩ | ⟨e, es', hf, he, rfl⟩
    · intro e he
      cases he
    · intro x hx
      rw [List.mem_cons] at hx
      rcases hx with rfl | hx
      · exact first_ok hq hf
      · have hl := first_local hf
        refine elems_ok hq n _ _ ?_ he x hx
        rw [List.length_drop]
        omega
set_option maxHeartbeats 400000 in
/-- spec.Bytes -/
theorem bytes_any (x : El) (w : World) (h : okEl x) :
    Calls Tryd.prog 28 #[.agg #[.int .i64 x.v, .bool x.b, .int .i64 x.n, .bool x.w]] w fun e w' => e = .returned (.string ⟨(bytesOf x).toArray⟩) ∧ Bw w w' := by
  obtain ⟨v, b, n, d⟩ := x
  rcases h with ⟨hb, hv⟩ | ⟨hb, hc⟩
  · simp only at hb hv ⊢
    subst hb
    have e : (⟨(bytesOf ⟨v, true, n, d⟩).toArray⟩ : ByteArray) = strOfNums [(v : Int)] := by
      apply ba_ext
      simp [bytesOf, strOfNums]
    rw [e]
    clear e
    have hcv := conv1
    have hcv2 : ∀ (W : World) (o : Obj) (a : Int), (convert 31 9 (.slice (some ⟨W.heap.size + 1, 0, none⟩) 1 1)).run Tryd.prog ((W.alloc o).alloc (.cells #[.int .u8 a] 5)) = .ok (.string (strOfNums [a])) ((W.alloc o).alloc (.cells #[.int .u8 a] 5)) := fun W o a => by
      have := conv1 (W.alloc o) a
      rwa [show (W.alloc o).heap.size = W.heap.size + 1 by simp] at this
    go_enter Tryd.func28, Tryd.ntmps28
    go_wp2
    go_ret
    exact ⟨rfl, by first | exact (Bw.refl _).alloc _ | exact ((Bw.refl _).alloc _).alloc _⟩
  · simp only at hb hc ⊢
    subst hb
    have e : bytesOf ⟨v, false, n, d⟩ = encS (v : Int) := by
      have h2 : encS (v : Int) = Lib.encodeRune (v : Int) := by
        unfold cp at hc
        rw [decide_eq_true_eq] at hc
        unfold encS
        rw [if_pos (by omega)]
      rw [h2]
      simp [bytesOf]
    rw [e]
    clear e hc
    have EN := Lib.hid (fun (w : World) => encode_any (v : Int) w)
    generalize ByteArray.mk (encS (v : Int)).toArray = O at EN ⊢
    go_enter Tryd.func28, Tryd.ntmps28
    go_wp2_with (go_at_call 24; refine (EN.out _).mono ?_; rintro e w1 ⟨rfl, hb1⟩)
    go_ret
    exact ⟨rfl, by first | exact hb1 | exact ((Bw.refl _).alloc _).trans hb1⟩
set_option maxHeartbeats 400000 in
/-- spec.Kind -/
theorem kind_any (s : ByteArray) (w : World) (hs : s.size ≤ 9223372036854775807) :
    Calls Tryd.prog 25 #[.string s] w fun e w' => e = .returned (.int .i64 (kind s.data.toList)) ∧ Bw w w' := by
  have hlen : s.data.toList.length = s.size := (Lib.size_eq s).symm
  by_cases h2 : s.size < 2
  · have e : kind s.data.toList = 0 := by unfold kind; rw [if_pos (.inl (by omega))]
    rw [e]
    have b1 : decide ((s.size : Int) < 2) = true := decide_eq_true (by omega)
    clear e hlen
    go_enter Tryd.func25, Tryd.ntmps25
    go_wp2
    go_quiet (fail)
    go_wp2
    go_ret
    exact ⟨rfl, (Bw.refl _).drewN _⟩
  have b1 : decide ((s.size : Int) < 2) = false := decide_eq_false (by omega)
  have h0 : 0 < s.size := by omega
  have hL : s.size - 1 < s.size := by omega
  have hwr : IntKind.i64.wrap ((s.size : Int) - 1) = ((s.size - 1 : Nat) : Int) := by rw [IntWalk.i64_in _ (by omega)]; omega
  have g0 := list_at s 0 h0
  have gL := list_at s (s.size - 1) hL
  by_cases hne : s[0] = s[s.size - 1]
  rotate_left
  · have e : kind s.data.toList = 0 := by unfold kind; rw [if_pos (.inr (by rw [hlen, g0, gL]; exact hne))]
    rw [e]
    have b2 : ((s[0].toNat : Int) != (s[s.size - 1].toNat : Int)) = true := by
      rw [bne_iff_ne]
      intro e
      exact hne (UInt8.toNat_inj.1 (by omega))
    clear e hlen g0 gL hne
    go_enter Tryd.func25, Tryd.ntmps25
    go_wp2
    go_quiet (fail)
    go_wp2
    go_ret
    exact ⟨rfl, (Bw.refl _).drewN _⟩
  have b2 : ((s[0].toNat : Int) != (s[s.size - 1].toNat : Int)) = false := by rw [← hne]; simp
  have ek : kind s.data.toList = if s[0].toNat = 34 then 1 else if s[0].toNat = 96 then 2 else if s[0].toNat = 39 then 3 else 0 := by
    unfold kind
    rw [if_neg (by rw [hlen, g0, gL]; exact fun h => h.elim (fun h => h2 h) (fun h => h hne)), g0]
  rw [ek]
  clear ek hlen g0 gL hne
  by_cases h34 : s[0].toNat = 34
  · rw [if_pos h34]
    go_enter Tryd.func25, Tryd.ntmps25
    go_wp2
    go_quiet (fail)
    go_wp2
    go_ret
    exact ⟨rfl, (Bw.refl _).drewN _⟩
  by_cases h96 : s[0].toNat = 96
  · rw [if_neg h34, if_pos h96]
    clear h34
    go_enter Tryd.func25, Tryd.ntmps25
    go_wp2
    go_quiet (fail)
    go_wp2
    go_ret
    exact ⟨rfl, (Bw.refl _).drewN _⟩
  by_cases h39 : s[0].toNat = 39
  · rw [if_neg h34, if_neg h96, if_pos h39]
    clear h34 h96
    go_enter Tryd.func25, Tryd.ntmps25
    go_wp2
    go_quiet (fail)
    go_wp2
    go_ret
    exact ⟨rfl, (Bw.refl _).drewN _⟩
  · rw [if_neg h34, if_neg h96, if_neg h39]
    have c1 : ((s[0].toNat : Int) == 34) = false := beq_eq_false_iff_ne.2 (by omega)
    have c2 : ((s[0].toNat : Int) == 96) = false := beq_eq_false_iff_ne.2 (by omega)
    have c3 : ((s[0].toNat : Int) == 39) = false := beq_eq_false_iff_ne.2 (by omega)
    go_enter Tryd.func25, Tryd.ntmps25
    go_wp2
    go_quiet (fail)
    go_wp2
    go_ret
    exact ⟨rfl, (Bw.refl _).drewN _⟩
/-- what raw answers -/
def rawAns (l : List UInt8) : Ending := if l.any (fun c => c.toNat == 96) then .returned (.tuple #[.string ⟨#[]⟩, .bool false]) else .returned (.tuple #[.string ⟨(l.filter fun c => c.toNat != 13).toArray⟩, .bool (Lib.validD l)])
set_option maxHeartbeats 1000000 in
set_option maxRecDepth 100000 in
/-- spec.raw -/
theorem raw_calls (s : ByteArray) (w : World) (hs : s.size ≤ 140737488355328) :
    Calls Tryd.prog 27 #[.string s] w fun e w' => e = rawAns s.data.toList ∧ Bw w w' := by
  have hb0 := empty_buf w
  have T := Lib.hid (fun (w : World) => isText_any s w (by omega))
  generalize hV : Lib.validD s.data.toList = V at T
  have HV := Lib.hid hV
  clear hV
  go_enter Tryd.func27, Tryd.ntmps27
  go_wp2
  go_loopw [4, 5] (fun b i wr => ∃ (k : Nat) (O : List UInt8), k ≤ s.size ∧ i = .int .i64 k ∧ Buf w.heap.size wr b O ∧ Hid (O = (s.data.toList.take k).filter (fun x => x.toNat != 13)) ∧ Hid (∀ x ∈ s.data.toList.take k, x.toNat ≠ 96) ∧ O.length ≤ k ∧ Bw w wr) (fun _ i _ => s.size - (intOf i).toNat)
  case atStart => exact ⟨0, [], by omega, rfl, hb0, Lib.hid rfl, Lib.hid (by simp), by simp, (Bw.refl w).alloc _⟩
  case round =>
    obtain ⟨k, O, hk2, rfl, hbuf, hO, hN, hOl, hb⟩ := hrel
    clear hb0
    by_cases hlt : k < s.size
    · have hltz : decide ((k : Int) < (s.size : Int)) = true := decide_eq_true (by omega)
      have HSN : Hid (s.data.toList.take (k + 1) = s.data.toList.take k ++ [s[k]]) := Lib.hid (by
        have hl : k < s.data.toList.length := by rw [← Lib.size_eq]; exact hlt
        rw [List.take_succ_eq_append_getElem hl]
        rfl)
      by_cases h96 : s[k].toNat = 96
      · have b96 : ((s[k].toNat : Int) == 96) = true := by simp [h96]
        have HA : Hid (s.data.toList.any (fun c => c.toNat == 96) = true) := Lib.hid (by
          rw [List.any_eq_true]
          refine ⟨s[k], ?_, by simp [h96]⟩
          have hm : s[k] ∈ s.data.toList.take (k + 1) := by rw [HSN.out]; simp
          exact List.mem_of_mem_take hm)
        go_wp2
        go_ret2
        refine ⟨?_, hb⟩
        unfold rawAns
        rw [if_pos HA.out]
        rfl
      have HN : Hid (∀ x ∈ s.data.toList.take (k + 1), x.toNat ≠ 96) := Lib.hid (by
        rw [HSN.out]
        intro x hx
        rw [List.mem_append] at hx
        rcases hx with hx | hx
        · exact hN.out x hx
        · simp at hx; subst hx; exact h96)
      have b96 : ((s[k].toNat : Int) == 96) = false := beq_eq_false_iff_ne.2 (by omega)
      by_cases h13 : s[k].toNat = 13
      · have b13 : ((s[k].toNat : Int) != 13) = false := by simp [h13]
        go_wp2
        go_roundw
        case rel =>
          refine ⟨k + 1, O, by omega, by go_num, hbuf, Lib.hid ?_, HN, by omega, hb⟩
          rw [HSN.out, List.filter_append, ← hO.out]
          simp [h13]
        case measure => simp [intOf]; omega
      · have b13 : ((s[k].toNat : Int) != 13) = true := by rw [bne_iff_ne]; omega
        go_wp2_with (at_builtin; refine app_byte _ rfl _ _ rfl w.heap.size _ O rfl (hbuf.alloc _) ⟨wr.heap.size, 0, none⟩ s[k] rfl ?_ (by omega) (by simp only [World.size_alloc]; have := hb.size; omega) ?_; (simp [go_sem]); intro v1 w1 hbuf1 hg1)
        have hb1 : Bw w w1 := (hb.alloc _).grown hg1 (fun j hj => hbuf.row j hj)
        clear hg1
        go_wp2
        go_roundw
        case rel =>
          refine ⟨k + 1, O ++ [s[k]], by omega, by go_num, hbuf1, Lib.hid ?_, HN, by simp; omega, hb1⟩
          rw [HSN.out, List.filter_append, ← hO.out]
          simp [h13]
        case measure => simp [intOf]; omega
    · obtain rfl : k = s.size := by omega
      have hltz : decide ((s.size : Int) < (s.size : Int)) = false := by simp
      have HF : Hid (O = s.data.toList.filter (fun x => x.toNat != 13)) := Lib.hid (by
        rw [hO.out, List.take_of_length_le (Nat.le_of_eq (Lib.size_eq s).symm)])
      have HA : Hid (s.data.toList.any (fun c => c.toNat == 96) = false) := Lib.hid (by
        rw [List.any_eq_false]
        intro x hx e
        have := hN.out x (by rw [List.take_of_length_le (Nat.le_of_eq (Lib.size_eq s).symm)]; exact hx)
        simp at e
        exact this e)
      have hcv := hbuf.conv
      have hcvq := fun (d : Nat) (os : Array Obj) => (hbuf.bw (below_regrown wr d os)).conv
      go_wp2
      refine wp_region_quiet_below (by kernel_rfl) (by kernel_rfl) ?_
      repeat (first | go_big_quiet_step (exact quiet_bw (T.out _)) | quiet_step (exact quiet_bw (T.out _)))
      refine wpQuiet_nil ?_
      intro _ hw'
      obtain ⟨⟨dq, osq⟩, hw''⟩ := hw'
      subst hw''
      go_wp2
      go_ret2
      refine ⟨?_, hb.regrown _ _⟩
      unfold rawAns
      rw [HA.out, HF.out, HV.out]
      rfl
end Go.Proofs.YtbnginnbpppegaaDoor
