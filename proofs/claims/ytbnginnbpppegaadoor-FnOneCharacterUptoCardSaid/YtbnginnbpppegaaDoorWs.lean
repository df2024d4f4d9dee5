/-
  The walks over the library's unquote: raw literals; literals without escapes.
-/
import Derived.Test.YtbnginnbpppegaaDoorWr
namespace Go.Proofs.YtbnginnbpppegaaDoor
open Go.RowKit Go.Uq

/-- a text that begins with a quote c and has c behind a: its parts by their places -/
structure Quoted (s : ByteArray) (c : UInt8) (a r : List UInt8) : Prop where
  size : s.size = a.length + 2 + r.length
  list : s.data.toList = c :: (a ++ c :: r)
  tail : (s.extract 1 s.size).data.toList = a ++ c :: r
  pre : s.extract 0 (a.length + 2) = ⟨(c :: (a ++ [c])).toArray⟩
  mid : s.extract 1 (a.length + 1) = ⟨a.toArray⟩
  post : s.extract (a.length + 2) s.size = ⟨r.toArray⟩
theorem take_close (a : List UInt8) (c : UInt8) (r : List UInt8) : List.take (a.length + 1) (a ++ c :: r) = a ++ [c] := by
  rw [show a ++ c :: r = (a ++ [c]) ++ r by simp, List.take_append_of_le_length (by simp), List.take_of_length_le (by simp)]
theorem quoted_mk {s : ByteArray} {c : UInt8} {a r : List UInt8} (h : 0 < s.size) (hc : s[0] = c) (hl : (s.extract 1 s.size).data.toList = a ++ c :: r) : Quoted s c a r := by
  have hlist : s.data.toList = c :: (a ++ c :: r) := by
    rw [head_list s h, hc, ← Lib.extract_to_end, hl]
  have hsz : s.size = a.length + 2 + r.length := by
    rw [Lib.size_eq, hlist]
    simp
    omega
  refine ⟨hsz, hlist, hl, ba_list ?_, ba_list ?_, ba_list ?_⟩
  · rw [Lib.extract_data, hlist]
    simp [take_close]
  · rw [Lib.extract_data, hlist]
    simp
  · rw [Lib.extract_to_end, hlist]
    simp [List.drop_append]
theorem Quoted.take {s : ByteArray} {c : UInt8} {a r : List UInt8} (h : Quoted s c a r) : s.data.toList.take (s.data.toList.length - r.length) = c :: (a ++ [c]) := by
  rw [h.list]
  have : (c :: (a ++ c :: r)).length - r.length = a.length + 2 := by simp; omega
  rw [this]
  simp [take_close]
theorem Quoted.ret {s : ByteArray} {c : UInt8} {a r : List UInt8} (h : Quoted s c a r) (o : List UInt8) (un : Bool) :
    uqGood s.data.toList o r un = .returned (.tuple #[.string (if un then ⟨o.toArray⟩ else s.extract 0 (a.length + 2)), .string (s.extract (a.length + 2) s.size), .nilIface]) := by
  unfold uqGood
  rw [h.take, h.pre, h.post]
  cases un <;> rfl
theorem mem_pre {s : ByteArray} {c : UInt8} {a r : List UInt8} (h : Quoted s c a r) {d : UInt8} (hd : d ≠ c) (ha : ∀ x ∈ a, x ≠ d) : ∀ x ∈ (s.extract 0 (a.length + 2)).data.toList, x ≠ d := by
  rw [h.pre]
  intro x hx
  simp at hx
  rcases hx with rfl | hx | rfl
  · exact Ne.symm hd
  · exact ha x hx
  · exact Ne.symm hd
theorem mem_pre' {s : ByteArray} {c : UInt8} {a r : List UInt8} (h : Quoted s c a r) {d : UInt8} (ha : d ∈ a) : d ∈ (s.extract 0 (a.length + 2)).data.toList := by
  rw [h.pre]
  simp [ha]
theorem Quoted.at_ {s : ByteArray} {c : UInt8} {a r : List UInt8} (h : Quoted s c a r) (k : Nat) (h1 : 1 ≤ k) (hk : k ≤ a.length) (hs : k < s.size) : s[k] = a.getD (k - 1) 0 := by
  rw [← list_at s k hs, h.list]
  obtain ⟨j, rfl⟩ : ∃ j, k = j + 1 := ⟨k - 1, by omega⟩
  rw [List.getD_cons_succ]
  simp only [List.getD, Nat.add_sub_cancel]
  rw [List.getElem?_append_left (by omega)]
theorem libU_raw {s : ByteArray} {c : UInt8} {a r : List UInt8} (h : Quoted s c a r) (hc : c.toNat = 96) (ha : ∀ x ∈ a, x ≠ c) : libU s.data.toList = some (a.filter (fun x => x.toNat != 13), r) := by
  rw [h.list]
  unfold libU
  simp only [hc, if_true]
  refine raw_clean a c r ?_ hc
  rw [List.any_eq_false]
  intro x hx e
  exact ha x hx (UInt8.toNat_inj.1 ((by simpa using e : x.toNat = 96).trans hc.symm))

set_option maxHeartbeats 1000000 in
set_option maxRecDepth 100000 in
theorem uq_raw_pre (s : ByteArray) (c : UInt8) (a r : List UInt8) (w : World) (hs : s.size ≤ 4611686018427387904) (h : 0 < s.size) (hc : s[0] = c) (hc96 : c.toNat = 96) (Q : Quoted s c a r) (ha : ∀ x ∈ a, x ≠ c) :
    Calls Tryd.prog 35 #[.string s, .bool false] w fun e w' => e = uqGood s.data.toList (a.filter (fun x => x.toNat != 13)) r false ∧ Bw w w' := by
  rw [Q.ret]
  have hsz := Q.size
  have C := Lib.hid (index_yes (s.extract 1 s.size) c a r w Q.tail ha)
  rw [hc96] at C
  have hz : decide ((s.size : Int) < 2) = false := by simp; omega
  have h1z : (1 : Int) ≤ s.size := by omega
  have h0z : (0 : Int) < s.size := by omega
  have nl : decide ((a.length : Int) < 0) = false := by simp
  have hcn : s[0].toNat = 96 := by rw [hc]; exact hc96
  have hla : a.length + 2 ≤ s.size := by omega
  clear hsz Q ha hc hc96
  generalize a.length = n at C nl hla ⊢
  have hlz : (n : Int) + 2 ≤ s.size := by omega
  go_enter Tryd.func35, Tryd.ntmps35
  go_wp2_with (go_at_call 40; refine C.out.mono ?_; rintro e w1 ⟨rfl, rfl⟩)
  go_quiet (fail)
  go_wp2
  go_ret3
  exact ⟨rfl, (Bw.refl _).drewN _⟩
set_option maxHeartbeats 1000000 in
set_option maxRecDepth 100000 in
theorem uq_raw_clean (s : ByteArray) (c : UInt8) (a r : List UInt8) (w : World) (hs : s.size ≤ 4611686018427387904) (h : 0 < s.size) (hc : s[0] = c) (hc96 : c.toNat = 96) (Q : Quoted s c a r) (ha : ∀ x ∈ a, x ≠ c) (h13 : ∀ x ∈ a, x ≠ 13) :
    Calls Tryd.prog 35 #[.string s, .bool true] w fun e w' => e = uqGood s.data.toList (a.filter (fun x => x.toNat != 13)) r true ∧ Bw w w' := by
  have hf : a.filter (fun x => x.toNat != 13) = a := by
    rw [List.filter_eq_self]
    intro x hx
    simp only [bne_iff_ne]
    exact fun e => h13 x hx (UInt8.toNat_inj.1 (by rw [e]; rfl))
  rw [hf, Q.ret, if_pos rfl, ← Q.mid]
  have hsz := Q.size
  have C := Lib.hid (index_yes (s.extract 1 s.size) c a r w Q.tail ha)
  rw [hc96] at C
  have C2 := Lib.hid (contains_no (s.extract 0 (a.length + 2)) 13 w (mem_pre Q (fun e => by rw [← e] at hc96; exact absurd hc96 (by decide)) h13))
  rw [show ((13 : UInt8).toNat : Int) = 13 from rfl] at C2
  have hz : decide ((s.size : Int) < 2) = false := by simp; omega
  have h1z : (1 : Int) ≤ s.size := by omega
  have h0z : (0 : Int) < s.size := by omega
  have nl : decide ((a.length : Int) < 0) = false := by simp
  have hcn : s[0].toNat = 96 := by rw [hc]; exact hc96
  have hla : a.length + 2 ≤ s.size := by omega
  clear hsz Q ha hc hc96 h13 hf
  generalize a.length = n at C C2 nl hla ⊢
  have hlz : (n : Int) + 2 ≤ s.size := by omega
  have hlz2 : (n : Int) + 1 ≤ s.size := by omega
  go_enter Tryd.func35, Tryd.ntmps35
  go_wp2_with (first
    | (go_at_call 40; refine C.out.mono ?_; rintro e w1 ⟨rfl, rfl⟩)
    | (go_at_call 41; refine C2.out.mono ?_; rintro e w1 ⟨rfl, rfl⟩))
  go_quiet (fail)
  go_wp2
  go_ret3
  exact ⟨rfl, (Bw.refl _).drewN _⟩
set_option maxHeartbeats 2000000 in
set_option maxRecDepth 100000 in
theorem uq_raw_cr (s : ByteArray) (c : UInt8) (a r : List UInt8) (w : World) (hs : s.size ≤ 140737488355328) (h : 0 < s.size) (hc : s[0] = c) (hc96 : c.toNat = 96) (Q : Quoted s c a r) (ha : ∀ x ∈ a, x ≠ c) (h13 : (13 : UInt8) ∈ a) :
    Calls Tryd.prog 35 #[.string s, .bool true] w fun e w' => e = uqGood s.data.toList (a.filter (fun x => x.toNat != 13)) r true ∧ Bw w w' := by
  rw [Q.ret, if_pos rfl]
  have hsz := Q.size
  have C := Lib.hid (index_yes (s.extract 1 s.size) c a r w Q.tail ha)
  rw [hc96] at C
  have C2 := Lib.hid (contains_yes (s.extract 0 (a.length + 2)) 13 w (mem_pre' Q h13))
  rw [show ((13 : UInt8).toNat : Int) = 13 from rfl] at C2
  have hz : decide ((s.size : Int) < 2) = false := by simp; omega
  have h1z : (1 : Int) ≤ s.size := by omega
  have h0z : (0 : Int) < s.size := by omega
  have nl : decide ((a.length : Int) < 0) = false := by simp
  have hcn : s[0].toNat = 96 := by rw [hc]; exact hc96
  have hla : a.length + 2 ≤ s.size := by omega
  have hpos : 1 ≤ a.length := by
    cases a with
    | nil => simp at h13
    | cons _ _ => simp
  have HQ := Lib.hid Q
  have HL : Hid (∃ n, n = a.length) := Lib.hid ⟨_, rfl⟩
  clear hsz Q ha hc hc96 h13
  have hn : ∃ n, a.length = n := ⟨_, rfl⟩
  obtain ⟨n, hn⟩ := hn
  rw [hn] at C C2 nl hla hpos ⊢
  have HN := Lib.hid hn
  clear hn HL
  have hlz : (n : Int) + 2 ≤ s.size := by omega
  have hlz2 : (n : Int) + 1 ≤ s.size := by omega
  go_enter Tryd.func35, Tryd.ntmps35
  go_wp2_with (first
    | (go_at_call 40; refine C.out.mono ?_; rintro e w1 ⟨rfl, rfl⟩)
    | (go_at_call 41; refine C2.out.mono ?_; rintro e w1 ⟨rfl, rfl⟩)
    | (at_make; refine make_buf _ rfl _ _ rfl w.heap.size _ (n - 1) rfl rfl (by omega) (by omega) (Nat.le_refl _) ?_; intro v0 w0 hbuf0 hg0))
  have hbw0 := grown_bw hg0
  clear hg0
  go_loopw [9, 10] (fun b i wr => ∃ (k : Nat) (O : List UInt8), 1 ≤ k ∧ k ≤ n + 1 ∧ i = .int .i64 k ∧ Buf w.heap.size wr b O ∧ Hid (O = (a.take (k - 1)).filter (fun x => x.toNat != 13)) ∧ O.length + 1 ≤ k ∧ Bw w wr) (fun _ i _ => n + 1 - (intOf i).toNat)
  case atStart => exact ⟨1, [], by omega, by omega, rfl, hbuf0, Lib.hid rfl, by simp, hbw0⟩
  case round =>
    obtain ⟨k, O, hk1, hk2, rfl, hbuf, hO, hOl, hb⟩ := hrel
    clear hbuf0 hbw0
    by_cases hlt : k < n + 1
    · have hks : k < s.size := by omega
      have hltz : decide ((k : Int) < (n : Int) + 1) = true := by simp; omega
      have HAT := Lib.hid (HQ.out.at_ k hk1 (by rw [HN.out]; omega) hks)
      have HSN : Hid (a.take (k + 1 - 1) = a.take (k - 1) ++ [s[k]]) := Lib.hid (by
        rw [HAT.out, show k + 1 - 1 = (k - 1) + 1 by omega, List.take_succ_eq_append_getElem (by rw [HN.out]; omega)]
        simp [List.getD, show k - 1 < a.length by rw [HN.out]; omega])
      by_cases h13 : s[k].toNat = 13
      · have b13 : ((s[k].toNat : Int) != 13) = false := by simp [h13]
        go_wp2
        go_roundw
        case rel =>
          refine ⟨k + 1, O, by omega, by omega, by go_num, hbuf, Lib.hid ?_, by omega, hb⟩
          rw [HSN.out, List.filter_append, ← hO.out]
          simp [h13]
        case measure => simp [intOf]; omega
      · have b13 : ((s[k].toNat : Int) != 13) = true := by rw [bne_iff_ne]; omega
        go_wp2_with (at_builtin; refine app_byte _ rfl _ _ rfl w.heap.size _ O rfl (hbuf.alloc _) ⟨wr.heap.size, 0, none⟩ s[k] rfl ?_ (by omega) (by simp only [World.size_alloc]; have := hb.size; omega) ?_; (simp [go_sem]); intro v1 w1 hbuf1 hg1)
        have hb1 : Bw w w1 := (hb.alloc _).grown hg1 (fun j hj => hbuf.row j hj)
        clear hg1
        go_wp2
        go_roundw
        case rel =>
          refine ⟨k + 1, O ++ [s[k]], by omega, by omega, by go_num, hbuf1, Lib.hid ?_, by simp; omega, hb1⟩
          rw [HSN.out, List.filter_append, ← hO.out]
          simp [h13]
        case measure => simp [intOf]; omega
    · obtain rfl : k = n + 1 := by omega
      have hltz : decide (((n + 1 : Nat) : Int) < (n : Int) + 1) = false := by simp
      have HF : Hid (O = a.filter (fun x => x.toNat != 13)) := Lib.hid (by
        rw [hO.out, show n + 1 - 1 = n by omega, ← HN.out, List.take_length])
      have hcv := hbuf.conv
      go_wp2
      go_quiet (fail)
      go_wp2
      go_ret3
      exact ⟨ret_three (by rw [HF.out]) rfl, hb.drewN _⟩
/-- unquote, of a raw literal -/
theorem uq_raw (s : ByteArray) (un : Bool) (c : UInt8) (a r : List UInt8) (w : World) (hs : s.size ≤ 4611686018427387904) (hs' : un = true → s.size ≤ 140737488355328) (h : 0 < s.size) (hc : s[0] = c) (hc96 : c.toNat = 96) (Q : Quoted s c a r) (ha : ∀ x ∈ a, x ≠ c) :
    Calls Tryd.prog 35 #[.string s, .bool un] w fun e w' => e = uqGood s.data.toList (a.filter (fun x => x.toNat != 13)) r un ∧ Bw w w' := by
  cases un with
  | false => exact uq_raw_pre s c a r w hs h hc hc96 Q ha
  | true =>
    by_cases h13 : (13 : UInt8) ∈ a
    · exact uq_raw_cr s c a r w (hs' rfl) h hc hc96 Q ha h13
    · exact uq_raw_clean s c a r w hs h hc hc96 Q ha (fun x hx e => h13 (e ▸ hx))
end Go.Proofs.YtbnginnbpppegaaDoor
