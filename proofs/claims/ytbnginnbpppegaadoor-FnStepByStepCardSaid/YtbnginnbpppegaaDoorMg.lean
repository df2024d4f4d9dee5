/-
  The walk over the law FnStepByStep.
-/
import Derived.Test.YtbnginnbpppegaaDoorVc
import Derived.Lib.AppendStr
namespace Go.Proofs.YtbnginnbpppegaaDoor
open Go.RowKit Go.Uq

theorem Buf.low {B B' : Nat} {w : World} {v : Value} {o : List UInt8} (h : Buf B w v o) (hle : B' ≤ B) : Buf B' w v o := by
  refine ⟨h.1, ?_⟩
  rcases h.2 with h0 | ⟨g, cap, cur, h1, h2, h3⟩
  · exact .inl h0
  · exact .inr ⟨g, cap, cur, h1, by omega, h3⟩
/-- append(buf, text...) -/
theorem app_str (w : World) {ops : Array Oper} {rest : List Oper} {o : Oper} {a : Act} {Q : Exit → Act → World → Prop} (hgd : o.guard = none) (s x : Operand)
    (ho : o.op = .call { callee := .builtin .append, args := #[s, x], argTypes := #[31, 9] }) (B : Nat) (v : Value) (O : List UInt8) (hs : a.eval s = v) (hb : Buf B w v O)
    (P : ByteArray) (hx : a.eval x = .string P) (hlen : O.length + P.size ≤ 140737488355328) (hB : B ≤ w.heap.size)
    (h : ∀ v' w', Buf B w' v' (O ++ P.data.toList) → w.grownBy w' v.ownBlock → wpList Tryd.prog ops Q rest (a.put o.dst v') w') : wpList Tryd.prog ops Q (o :: rest) a w := by
  obtain ⟨i0, hi, hz0, hz1, hz2⟩ := info_parts byte_info
  refine Lib.wpList_append_own_string w hgd s x 31 9 ho B 5 i0 Tryd.underlying31 Tryd.underlying9 hi hz0 hz1 hz2 v O.length (Lib.byteCells O) hs hb P hx (by unfold maxLen; omega) hlen hB (fun v' w' h1 h2 _ => h v' w' ?_ h2)
  unfold Buf
  have e : Lib.byteCells (O ++ P.data.toList) = Lib.byteCells O ++ Lib.strCells P := by simp [Lib.byteCells, Lib.strCells]
  rw [List.length_append, ← Lib.size_eq, e]
  exact h1
theorem step_none {t : List UInt8} (hne : t ≠ []) (hv : Lib.validD t = true) (h10 : ∀ x ∈ t, x.toNat ≠ 10) (hf : first t 34 = none) : uc t 34 = none := by
  cases hu : uc t 34 with
  | none => rfl
  | some y =>
    obtain ⟨v, m, k⟩ := y
    obtain ⟨e, he, _⟩ := first_of_uc (q := 34) (by
      match t, hne with
      | c :: t', _ => exact h10 c (by simp)) (fun _ => (valid_good hne hv).1) hu
    rw [hf] at he
    cases he
theorem ok_cp {e : El} (h : okEl e) : cp e.v = true := by
  rcases h with ⟨_, h⟩ | ⟨_, h⟩
  · unfold cp
    rw [decide_eq_true_eq]
    omega
  · exact h
theorem step_multi {t : List UInt8} {e : El} (h : first t 34 = some e) (hm : multi t e = true) : encS (e.v : Int) = bytesOf e := by
  have hc := ok_cp (first_ok (by decide) h)
  have hp := first_put (by decide) h
  rw [hm] at hp
  have h2 : encS (e.v : Int) = Lib.encodeRune (e.v : Int) := by
    unfold cp at hc
    rw [decide_eq_true_eq] at hc
    unfold encS
    rw [if_pos (by omega)]
  rw [h2, ← hp]
  unfold put
  split
  · rename_i hv
    rcases hv with hv | hv
    · exact encode_small _ hv
    · cases hv
  · rfl
theorem step_single {t : List UInt8} {e : El} (h : first t 34 = some e) (hm : multi t e = false) : bytesOf e = [e.v.toUInt8] ∧ e.v ≤ 255 := by
  have hp := first_put (by decide) h
  have hb := uc_bd (by decide) (uc_of_first h)
  rw [hm] at hp
  refine ⟨?_, hb.2 hm⟩
  rw [← hp]
  unfold put
  rw [if_pos (.inr rfl)]
theorem step_next {t O : List UInt8} {e : El} {ANS : Option (List UInt8)} (h : first t 34 = some e) (hv : Lib.validD t = true) (h10 : ∀ x ∈ t, x.toNat ≠ 10) (ha : (elems t 34).map (fun es => O ++ outOf es) = ANS) :
    Lib.validD (t.drop e.n) = true ∧ (∀ x ∈ t.drop e.n, x.toNat ≠ 10) ∧ (elems (t.drop e.n) 34).map (fun es => (O ++ bytesOf e) ++ outOf es) = ANS := by
  refine ⟨valid_first (by decide) hv h, fun x hx => h10 x (List.mem_of_mem_drop hx), ?_⟩
  rw [← ha, elems_some h]
  cases elems (t.drop e.n) 34 <;> simp [outOf]
set_option maxHeartbeats 4000000 in
set_option maxRecDepth 100000 in
theorem fnStepByStep_walk (s : ByteArray) (w : World) (_hs : s.size ≤ 140737488351232) (hT : Tabs w) (hE : Sent w) :
    Calls Tryd.prog 9 #[.string s] w fun e w' => e = .returned (.bool true) ∧ Bw w w' := by
  have HW := Lib.hid (show Env w from ⟨hE, hT⟩)
  clear hT hE
  by_cases hbig : 100000 < s.size
  · have b1 : decide (100000 < (s.size : Int)) = true := decide_eq_true (by omega)
    go_enter Tryd.func9, Tryd.ntmps9
    go_wp2
    go_ret
    exact ⟨rfl, Bw.refl _⟩
  have b1 : decide (100000 < (s.size : Int)) = false := decide_eq_false (by omega)
  have hz : s.size ≤ 100000 := by omega
  clear _hs hbig
  have T1 := Lib.hid (fun (w : World) => isText_any s w (by omega))
  have H1 := Lib.hid (fun (w : World) => has_is s 10 10 w (by omega) rfl)
  generalize hV : Lib.validD s.data.toList = V at T1
  generalize hB1 : hasB 10 s.data.toList = B1 at H1
  have HB := Bw.refl w
  by_cases hall : V = true ∧ B1 = false
  rotate_left
  · have hc : V = false ∨ (V = true ∧ B1 = true) := by revert hall; cases V <;> cases B1 <;> simp
    clear hV hB1 hall
    rcases hc with rfl | ⟨rfl, rfl⟩
    all_goals
      go_enter Tryd.func9, Tryd.ntmps9
      go_wp2_with (first
        | (go_at_call 17; refine (T1.out _).mono ?_; rintro e w1 ⟨rfl, hb1⟩; replace HB := Bw.trans HB hb1; clear hb1)
        | (go_at_call 20; refine (H1.out _).mono ?_; rintro e w1 ⟨rfl, hb1⟩; replace HB := Bw.trans HB hb1; clear hb1))
      go_ret
      exact ⟨rfl, HB⟩
  obtain ⟨rfl, rfl⟩ := hall
  have f1 := hasB_false hB1
  have z34 : (ByteArray.mk #[34]).size = 1 := rfl
  have Q := Lib.hid (fun (w : World) => quoted_any ⟨#[34]⟩ s w (by omega))
  have lX := between_list 34 s
  have zX := between_size 34 s
  generalize (⟨#[34]⟩ : ByteArray) ++ s ++ ⟨#[34]⟩ = X at Q lX zX
  have hvX : Lib.validD X.data.toList = true := by
    rw [lX, show (34 : UInt8) :: (s.data.toList ++ [34]) = [34] ++ (s.data.toList ++ [34]) from rfl, valid_append _ (by decide +kernel), valid_append _ hV]
    decide +kernel
  have hsp : specU X.data.toList = (elems s.data.toList 34).map outOf := by rw [lX, specU_double (by decide)]
  obtain ⟨ANS, hA⟩ : ∃ ANS, (elems s.data.toList 34).map outOf = ANS := ⟨_, rfl⟩
  rw [hA] at hsp
  have hun := unqL_eq hvX
  rw [hsp] at hun
  have S := Lib.hid (fun (w : World) => specUnq_calls X w (by omega))
  rw [hsp] at S
  have U0 := Lib.hid (fun (h : ANS = none) (w' : World) (hb : Bw w w') => implU_none X w' (HW.out.bw hb).1 (HW.out.bw hb).2 (uqRoom.small true (by omega)) (by rw [hun]; exact h))
  have U1 := Lib.hid (fun (o : List UInt8) (h : ANS = some o) (w' : World) (hb : Bw w w') => implU_some X o w' (HW.out.bw hb).1 (HW.out.bw hb).2 (uqRoom.small true (by omega)) (by rw [hun]; exact h))
  have HI : Hid (Lib.validD s.data.toList = true ∧ (∀ x ∈ s.data.toList, x.toNat ≠ 10) ∧ (elems s.data.toList 34).map (fun es => [] ++ outOf es) = ANS) := Lib.hid ⟨hV, f1, by rw [← hA]; rfl⟩
  clear hV hB1 f1 lX hvX hsp hA hun zX
  go_enter Tryd.func9, Tryd.ntmps9
  go_wp2_with (first
    | (go_at_call 17; refine (T1.out _).mono ?_; rintro e w1 ⟨rfl, hb1⟩; replace HB := Bw.trans HB hb1; clear hb1)
    | (go_at_call 20; refine (H1.out _).mono ?_; rintro e w1 ⟨rfl, hb1⟩; replace HB := Bw.trans HB hb1; clear hb1))
  go_loopg [3, 4, 5] (s.size + 1) (fun gk b f v wr => Bw w wr ∧ ∃ (t : ByteArray) (O : List UInt8) (F : Bool), v = .string t ∧ f = .bool F ∧ Buf w.heap.size wr b O ∧ O.length + 4 * t.size ≤ 4 * s.size + 1 ∧ t.size < gk ∧ Hid (F = true → Lib.validD t.data.toList = true ∧ (∀ x ∈ t.data.toList, x.toNat ≠ 10) ∧ (elems t.data.toList 34).map (fun es => O ++ outOf es) = ANS) ∧ (F = false → ANS = none ∧ t.size = 0))
  case atStart => exact ⟨HB.alloc _, s, [], true, rfl, rfl, (empty_buf _).low HB.size, by simp, by omega, Lib.hid (fun _ => HI.out), fun e => by cases e⟩
  case round =>
    obtain ⟨hb, t, O, F, rfl, rfl, hbuf, hlen, hg, hT1, hT0⟩ := hrel
    clear HI HB
    by_cases h0 : 0 < t.size
    · cases F with
      | false => exact absurd (hT0 rfl).2 (by omega)
      | true =>
        have he := ne_empty h0
        obtain ⟨g', rfl⟩ : ∃ g', gk = g' + 1 := ⟨gk - 1, by omega⟩
        obtain ⟨hv, h10, ha⟩ := hT1.out rfl
        clear hT0
        have hEr := HW.out.bw hb
        cases hf : first t.data.toList 34 with
        | none =>
          have CU := Lib.hid (implUC_none t 34 wr hEr.1 hEr.2 (by omega) (step_none (ne_of_size h0) hv h10 hf))
          rw [show ((34 : Nat) : Int) = 34 from rfl] at CU
          have hN : ANS = none := by rw [← ha, elems_none (ne_of_size h0) hf]; rfl
          have hN := Lib.hid hN
          clear hv h10 ha hf hT1 hEr
          have hOb : O.length + 1 ≤ 140737488355328 := by omega
          go_wp2_with (first
            | (go_at_call 23; refine CU.out.mono ?_; rintro e w2 ⟨rfl, hb2⟩)
            | (at_builtin; refine app_byte _ rfl _ _ rfl w.heap.size _ O rfl ((hbuf.bw hb2).alloc _) ⟨w2.heap.size, 0, none⟩ 0 rfl ?_ hOb (by simp only [World.size_alloc]; have := (hb.trans hb2).size; omega) ?_; (simp [go_sem]); intro v1 w3 hbuf1 hg1))
          have hb3 : Bw w w3 := ((hb.trans hb2).alloc _).grown hg1 (fun j hj => hbuf.row j hj)
          clear hg1
          go_wp2
          go_roundg g'
          case rel =>
            refine ⟨hb3, ⟨#[]⟩, O ++ [0], false, rfl, rfl, hbuf1, ?_, ?_, Lib.hid (fun e => by cases e), fun _ => ⟨hN.out, rfl⟩⟩
            · rw [show (ByteArray.mk #[]).size = 0 from rfl]; simp; omega
            · rw [show (ByteArray.mk #[]).size = 0 from rfl]; omega
          case measure => omega
        | some x =>
          have hl := first_local hf
          have hn1 := hl.1
          have hn2 := hl.2.1
          rw [← Lib.size_eq] at hn2
          have hR := Lib.extract_to_end t x.n
          have hRz := rest_size t x.n
          have HNX := Lib.hid (step_next hf hv h10 ha)
          rw [← hR] at HNX
          have hbl := bytesOf_len x
          have hub := (uc_bd (by decide) (uc_of_first hf)).1
          have hltz : decide (((t.extract x.n t.size).size : Int) < (t.size : Int)) = true := decide_eq_true (by omega)
          cases hm : multi t.data.toList x with
          | true =>
            have hu := uc_of_first hf
            rw [hm] at hu
            have CU := Lib.hid (implUC_some t 34 x.v x.n true wr hEr.1 hEr.2 (by omega) hu)
            rw [show ((34 : Nat) : Int) = 34 from rfl] at CU
            have EN := Lib.hid (fun (w : World) => encode_any (x.v : Int) w)
            rw [step_multi hf hm] at EN
            have hPl := row_list' (bytesOf x)
            have hPz := row_size' (bytesOf x)
            generalize ByteArray.mk (bytesOf x).toArray = P at EN hPl hPz
            have HPl := Lib.hid hPl
            clear hPl
            generalize t.extract x.n t.size = R at CU hR hRz HNX hltz
            clear hv h10 ha hf hT1 hEr hl hR hu hm
            have hOb : O.length + P.size ≤ 140737488355328 := by omega
            go_wp2_with (first
              | (go_at_call 23; refine CU.out.mono ?_; rintro e w2 ⟨rfl, hb2⟩)
              | (go_at_call 24; refine (EN.out _).mono ?_; rintro e w4 ⟨rfl, hb4⟩)
              | (at_builtin; refine app_str _ rfl _ _ rfl w.heap.size _ O rfl ((hbuf.bw hb2).bw hb4) P rfl hOb ((hb.trans hb2).trans hb4).size ?_; intro v1 w3 hbuf1 hg1))
            have hb3 : Bw w w3 := ((hb.trans hb2).trans hb4).grown hg1 (fun j hj => hbuf.row j hj)
            clear hg1
            rw [HPl.out] at hbuf1
            go_wp2
            go_roundg g'
            case rel =>
              refine ⟨hb3, R, O ++ bytesOf x, true, rfl, congrArg Value.bool (decide_eq_true (by omega)), hbuf1, ?_, ?_, Lib.hid (fun _ => HNX.out), fun e => by cases e⟩
              · rw [List.length_append]; omega
              · omega
            case measure => omega
          | false =>
            have hu := uc_of_first hf
            rw [hm] at hu
            have CU := Lib.hid (implUC_some t 34 x.v x.n false wr hEr.1 hEr.2 (by omega) hu)
            rw [show ((34 : Nat) : Int) = 34 from rfl] at CU
            obtain ⟨hby, hv255⟩ := step_single hf hm
            have HBY := Lib.hid hby
            generalize t.extract x.n t.size = R at CU hR hRz HNX hltz
            clear hv h10 ha hf hT1 hEr hl hR hu hm hby
            have hOb : O.length + 1 ≤ 140737488355328 := by omega
            go_wp2_with (first
              | (go_at_call 23; refine CU.out.mono ?_; rintro e w2 ⟨rfl, hb2⟩)
              | (at_builtin; refine app_byte _ rfl _ _ rfl w.heap.size _ O rfl ((hbuf.bw hb2).alloc _) ⟨w2.heap.size, 0, none⟩ x.v.toUInt8 rfl ?_ hOb (by simp only [World.size_alloc]; have := (hb.trans hb2).size; omega) ?_; (rw [u8_nat hv255]; simp [go_sem]); intro v1 w3 hbuf1 hg1))
            have hb3 : Bw w w3 := ((hb.trans hb2).alloc _).grown hg1 (fun j hj => hbuf.row j hj)
            clear hg1
            rw [← HBY.out] at hbuf1
            go_wp2
            go_roundg g'
            case rel =>
              refine ⟨hb3, R, O ++ bytesOf x, true, rfl, congrArg Value.bool (decide_eq_true (by omega)), hbuf1, ?_, ?_, Lib.hid (fun _ => HNX.out), fun e => by cases e⟩
              · rw [List.length_append]; omega
              · omega
            case measure => omega
    · have he := is_empty h0
      have HBr := Bw.refl wr
      cases F with
      | false =>
        have hN := (hT0 rfl).1
        subst hN
        simp only [ansU] at S
        have U := Lib.hid (fun (w' : World) (h : Bw wr w') => U0.out rfl w' (hb.trans h))
        clear hT1 hT0 U0 U1
        go_wp2_with (first
          | (go_at_call 16; refine (Q.out _).mono ?_; rintro e w1 ⟨rfl, hb1⟩; replace HBr := Bw.trans HBr hb1; clear hb1)
          | (go_at_call 22; refine (U.out _ HBr).mono ?_; rintro e w1 ⟨rfl, hb1⟩; replace HBr := Bw.trans HBr hb1; clear hb1)
          | (go_at_call 15; refine (S.out _).mono ?_; rintro e w1 ⟨rfl, hb1⟩; replace HBr := Bw.trans HBr hb1; clear hb1))
        go_ret
        exact ⟨by first | rfl | simp, hb.trans HBr⟩
      | true =>
        have hN : ANS = some O := by
          rw [← (hT1.out rfl).2.2, empty_of_size h0, elems_nil]
          simp [outOf]
        subst hN
        simp only [ansU] at S
        have U := Lib.hid (fun (w' : World) (h : Bw wr w') => U1.out O rfl w' (hb.trans h))
        clear hT1 hT0 U0 U1
        go_wp2_with (first
          | (go_at_call 16; refine (Q.out _).mono ?_; rintro e w1 ⟨rfl, hb1⟩; replace HBr := Bw.trans HBr hb1; clear hb1)
          | (go_at_call 22; refine (U.out _ HBr).mono ?_; rintro e w1 ⟨rfl, hb1⟩; replace HBr := Bw.trans HBr hb1; clear hb1)
          | (go_at_call 15; refine (S.out _).mono ?_; rintro e w1 ⟨rfl, hb1⟩; replace HBr := Bw.trans HBr hb1; clear hb1; have hcv := (hbuf.bw HBr).conv))
        go_ret
        exact ⟨by first | rfl | simp, hb.trans HBr⟩
end Go.Proofs.YtbnginnbpppegaaDoor
