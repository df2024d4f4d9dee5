/-
  The library's unquote, Unquote and QuotedPrefix, whole.
-/
import Derived.Test.YtbnginnbpppegaaDoorWu34t
import Derived.Test.YtbnginnbpppegaaDoorWu34f
import Derived.Test.YtbnginnbpppegaaDoorWu39t
import Derived.Test.YtbnginnbpppegaaDoorWu39f
namespace Go.Proofs.YtbnginnbpppegaaDoor
open Go.RowKit Go.Uq

theorem slow34_or (a : List UInt8) : slow34 a ∨ ((∀ x ∈ a, x.toNat ≠ 92) ∧ (∀ x ∈ a, x.toNat ≠ 10) ∧ Lib.validD a = true) := by
  unfold slow34
  rcases mem_or a 92 with h | h
  · exact .inl (.inl h)
  rcases mem_or a 10 with h' | h'
  · exact .inl (.inr (.inl ⟨h, h'⟩))
  cases hv : Lib.validD a with
  | false => exact .inl (.inr (.inr ⟨h, h', rfl⟩))
  | true => exact .inr ⟨h, h', rfl⟩
theorem slow39_or (a : List UInt8) : slow39 a ∨ ((∀ x ∈ a, x.toNat ≠ 92) ∧ (∀ x ∈ a, x.toNat ≠ 10) ∧ (a = [] ∨ (good a = true ∧ (Lib.decodeL a).2 = a.length))) := by
  unfold slow39
  rcases mem_or a 92 with h | h
  · exact .inl (.inl h)
  rcases mem_or a 10 with h' | h'
  · exact .inl (.inr (.inl ⟨h, h'⟩))
  by_cases hne : a = []
  · exact .inr ⟨h, h', .inl hne⟩
  by_cases hg : good a = true ∧ (Lib.decodeL a).2 = a.length
  · exact .inr ⟨h, h', .inr hg⟩
  · exact .inl (.inr (.inr ⟨h, h', hne, hg⟩))
/-- a text that needs no buffer -/
def easy (s : ByteArray) : Prop := ∀ (c : UInt8) (a r : List UInt8), s.data.toList = c :: (a ++ c :: r) → (∀ x ∈ a, x ≠ c) → c.toNat ≠ 39 ∧ (c.toNat = 34 → ¬ slow34 a)
/-- with unescaping, the slow road asks for room -/
def uqRoom (s : ByteArray) (un : Bool) : Prop := s.size ≤ 4611686018427387904 ∧ (un = true → s.size ≤ 140737488355328 ∧ (3 * s.size + 16 ≤ 140737488355328 ∨ easy s))
theorem uqRoom.small {s : ByteArray} (un : Bool) (h : 3 * s.size + 16 ≤ 140737488355328) : uqRoom s un := ⟨by omega, fun _ => ⟨by omega, .inl h⟩⟩
theorem uqRoom.pre {s : ByteArray} (h : s.size ≤ 4611686018427387904) : uqRoom s false := ⟨h, fun e => by cases e⟩
/-- strconv.unquote -/
theorem unquote_calls (s : ByteArray) (un : Bool) (w : World) (hE : Sent w) (hT : Tabs w) (hs : uqRoom s un) :
    ∃ (t : TypeId) (v : Value), Calls Tryd.prog 35 #[.string s, .bool un] w (PostU s un t v w) := by
  obtain ⟨hs1, hs2⟩ := hs
  by_cases h2 : s.size < 2
  · obtain ⟨t, v, hc⟩ := hE
    refine ⟨t, v, (uq_short s un w t v hc h2).mono fun e w' he => postU_none ?_ he⟩
    by_cases h0 : 0 < s.size
    · have hl := head_list s h0
      have hd : s.data.toList.drop 1 = [] := by
        apply List.eq_nil_of_length_eq_zero
        rw [List.length_drop, ← Lib.size_eq]
        omega
      rw [hl, hd]
      exact libU_none (by simp)
    · rw [empty_of_size h0]; rfl
  have h0 : 0 < s.size := by omega
  have hl := head_list s h0
  obtain ⟨c, hc0⟩ : ∃ c, s[0] = c := ⟨_, rfl⟩
  by_cases hm : c ∈ (s.extract 1 s.size).data.toList
  · obtain ⟨a, r, ht, ha⟩ := first_at _ _ hm
    have Q := quoted_mk h0 hc0 ht
    by_cases h96 : c.toNat = 96
    · obtain ⟨t, v, _⟩ := hE
      exact ⟨t, v, (uq_raw s un c a r w hs1 (fun e => (hs2 e).1) h0 hc0 h96 Q ha).mono fun e w' he => postU_some (libU_raw Q h96 ha) he⟩
    by_cases h34 : c.toNat = 34
    · rcases slow34_or a with hs | ⟨n92, n10, hv⟩
      · cases un with
        | true =>
          rcases (hs2 rfl).2 with hr | he
          · exact uq_slow34t s c a r w hE hT hr h0 hc0 h34 Q ha hs
          · exact absurd hs ((he c a r Q.list ha).2 h34)
        | false => exact uq_slow34f s c a r w hE hT hs1 h0 hc0 h34 Q ha hs
      · obtain ⟨t, v, _⟩ := hE
        exact ⟨t, v, (uq_fast34 s un c a r w hT hs1 h0 hc0 h34 Q ha n92 n10 hv).mono fun e w' he => postU_some (libU_fast34 Q h34 ha n92 n10 hv) he⟩
    by_cases h39 : c.toNat = 39
    · rcases slow39_or a with hs | ⟨n92, n10, hv⟩
      · cases un with
        | true =>
          rcases (hs2 rfl).2 with hr | he
          · exact uq_slow39t s c a r w hE hT hr h0 hc0 h39 Q ha hs
          · exact absurd h39 (he c a r Q.list ha).1
        | false => exact uq_slow39f s c a r w hE hT hs1 h0 hc0 h39 Q ha hs
      · obtain ⟨t, v, _⟩ := hE
        exact ⟨t, v, (uq_fast39 s un c a r w hT hs1 h0 hc0 h39 Q ha n92 n10 hv).mono fun e w' he => postU_some (libU_fast39 Q h39 ha n92 n10 hv) he⟩
    · obtain ⟨t, v, hc⟩ := hE
      refine ⟨t, v, (uq_noquote s un c a r w t v hc (by omega) (by omega) hc0 ht ha ⟨h96, h34, h39⟩).mono fun e w' he => postU_none ?_ he⟩
      rw [Q.list]
      unfold libU
      simp only [if_neg h96, if_neg h34, if_neg h39]
  · obtain ⟨t, v, hc⟩ := hE
    have hn : ∀ x ∈ (s.extract 1 s.size).data.toList, x ≠ s[0] := fun x hx e => hm (by rw [← hc0, ← e]; exact hx)
    refine ⟨t, v, (uq_noend s un w t v hc (by omega) hn).mono fun e w' he => postU_none ?_ he⟩
    rw [hl, ← Lib.extract_to_end]
    exact libU_none hn
/-- the library's unquote by its two answers -/
theorem unquote_none (s : ByteArray) (un : Bool) (w : World) (hE : Sent w) (hT : Tabs w) (hs : uqRoom s un) (h : libU s.data.toList = none) :
    ∃ (t : TypeId) (v : Value), Calls Tryd.prog 35 #[.string s, .bool un] w fun e w' => e = .returned (.tuple #[.string ⟨#[]⟩, .string s, .iface t v]) ∧ Bw w w' := by
  obtain ⟨t, v, c⟩ := unquote_calls s un w hE hT hs
  exact ⟨t, v, c.mono fun e w' he => by unfold PostU at he; rw [h] at he; exact he⟩
theorem unquote_some (s : ByteArray) (un : Bool) (o r : List UInt8) (w : World) (hE : Sent w) (hT : Tabs w) (hs : uqRoom s un) (h : libU s.data.toList = some (o, r)) :
    Calls Tryd.prog 35 #[.string s, .bool un] w fun e w' => e = .returned (.tuple #[.string ⟨(if un then o else s.data.toList.take (s.data.toList.length - r.length)).toArray⟩, .string ⟨r.toArray⟩, .nilIface]) ∧ Bw w w' := by
  obtain ⟨t, v, c⟩ := unquote_calls s un w hE hT hs
  exact c.mono fun e w' he => by unfold PostU at he; rw [h] at he; exact he
set_option maxHeartbeats 400000 in
/-- strconv.Unquote -/
theorem Unquote_none (s : ByteArray) (w : World) (hE : Sent w) (hT : Tabs w) (hs : uqRoom s true) (h : unqL s.data.toList = none) :
    ∃ (t : TypeId) (v : Value), Calls Tryd.prog 31 #[.string s] w fun e w' => e = .returned (.tuple #[.string ⟨#[]⟩, .iface t v]) ∧ Bw w w' := by
  cases hl : libU s.data.toList with
  | none =>
    obtain ⟨t, v, c⟩ := unquote_none s true w hE hT hs hl
    have C := Lib.hid c
    clear c h hl
    obtain ⟨t', v', hc⟩ := hE
    have HC : Hid (∀ w', Bw w w' → w'.cell? ⟨0, 0, none⟩ = some (.iface t' v')) := Lib.hid (fun w' hb => by rw [Below.cell hb (block_lt_of_cell hc)]; exact hc)
    clear hc
    by_cases h0 : 0 < s.size
    · have h0z : decide ((0 : Int) < (s.size : Int)) = true := decide_eq_true (by omega)
      refine ⟨t', v', ?_⟩
      go_enter Tryd.func31, Tryd.ntmps31
      go_wp2_with (go_at_call 35; refine C.out.mono ?_; rintro e w1 ⟨rfl, hb1⟩; have hce := HC.out w1 hb1)
      go_quiet (fail)
      go_wp2
      go_ret2
      exact ⟨rfl, hb1.drewN _⟩
    · have h0z : decide ((0 : Int) < (s.size : Int)) = false := decide_eq_false (by omega)
      refine ⟨t, v, ?_⟩
      go_enter Tryd.func31, Tryd.ntmps31
      go_wp2_with (go_at_call 35; refine C.out.mono ?_; rintro e w1 ⟨rfl, hb1⟩)
      go_ret2
      exact ⟨rfl, hb1⟩
  | some y =>
    obtain ⟨o, r⟩ := y
    have hr : r ≠ [] := fun e => by
      unfold unqL at h
      rw [hl, e] at h
      simp at h
    have c := unquote_some s true o r w hE hT hs hl
    rw [if_pos rfl] at c
    have hrl : 0 < r.length := List.length_pos_iff.2 hr
    have hrs : (ByteArray.mk r.toArray).size = r.length := by rw [Lib.size_eq]
    generalize ByteArray.mk r.toArray = R at c hrs
    have hR : 0 < R.size := by omega
    have C := Lib.hid c
    clear c h hl hr hrl hrs
    obtain ⟨t', v', hc⟩ := hE
    have HC : Hid (∀ w', Bw w w' → w'.cell? ⟨0, 0, none⟩ = some (.iface t' v')) := Lib.hid (fun w' hb => by rw [Below.cell hb (block_lt_of_cell hc)]; exact hc)
    clear hc
    have h0z : decide ((0 : Int) < (R.size : Int)) = true := decide_eq_true (by omega)
    refine ⟨t', v', ?_⟩
    go_enter Tryd.func31, Tryd.ntmps31
    go_wp2_with (go_at_call 35; refine C.out.mono ?_; rintro e w1 ⟨rfl, hb1⟩; have hce := HC.out w1 hb1)
    go_quiet (fail)
    go_wp2
    go_ret2
    exact ⟨rfl, hb1.drewN _⟩
set_option maxHeartbeats 400000 in
theorem Unquote_some (s : ByteArray) (o : List UInt8) (w : World) (hE : Sent w) (hT : Tabs w) (hs : uqRoom s true) (h : unqL s.data.toList = some o) :
    Calls Tryd.prog 31 #[.string s] w fun e w' => e = .returned (.tuple #[.string ⟨o.toArray⟩, .nilIface]) ∧ Bw w w' := by
  have hl : libU s.data.toList = some (o, []) := by
    unfold unqL at h
    cases hl : libU s.data.toList with
    | none => rw [hl] at h; cases h
    | some y =>
      obtain ⟨o', r⟩ := y
      rw [hl] at h
      simp only at h
      split at h
      · rename_i hr; cases h; rw [hr]
      · cases h
  have c := unquote_some s true o [] w hE hT hs hl
  rw [if_pos rfl] at c
  have hrs : (ByteArray.mk ([] : List UInt8).toArray).size = 0 := rfl
  generalize ByteArray.mk ([] : List UInt8).toArray = R at c hrs
  generalize ByteArray.mk o.toArray = O at c ⊢
  have hR : ¬ 0 < R.size := by omega
  have C := Lib.hid c
  clear c h hl hrs
  have h0z : decide ((0 : Int) < (R.size : Int)) = false := decide_eq_false (by omega)
  go_enter Tryd.func31, Tryd.ntmps31
  go_wp2_with (go_at_call 35; refine C.out.mono ?_; rintro e w1 ⟨rfl, hb1⟩)
  go_ret2
  exact ⟨rfl, hb1⟩
set_option maxHeartbeats 400000 in
/-- impl.Unquote -/
theorem implU_none (s : ByteArray) (w : World) (hE : Sent w) (hT : Tabs w) (hs : uqRoom s true) (h : unqL s.data.toList = none) :
    Calls Tryd.prog 22 #[.string s] w fun e w' => e = .returned (.tuple #[.string ⟨#[]⟩, .bool false]) ∧ Bw w w' := by
  obtain ⟨t, v, c⟩ := Unquote_none s w hE hT hs h
  have C := Lib.hid c
  clear c h hT hE
  go_enter Tryd.func22, Tryd.ntmps22
  go_wp2_with (go_at_call 31; refine C.out.mono ?_; rintro e w1 ⟨rfl, hb1⟩)
  go_quiet (fail)
  go_wp2
  go_ret2
  exact ⟨rfl, hb1.drewN _⟩
set_option maxHeartbeats 400000 in
theorem implU_some (s : ByteArray) (o : List UInt8) (w : World) (hE : Sent w) (hT : Tabs w) (hs : uqRoom s true) (h : unqL s.data.toList = some o) :
    Calls Tryd.prog 22 #[.string s] w fun e w' => e = .returned (.tuple #[.string ⟨o.toArray⟩, .bool true]) ∧ Bw w w' := by
  have C := Lib.hid (Unquote_some s o w hE hT hs h)
  clear h hT hE
  generalize ByteArray.mk o.toArray = O at C ⊢
  go_enter Tryd.func22, Tryd.ntmps22
  go_wp2_with (go_at_call 31; refine C.out.mono ?_; rintro e w1 ⟨rfl, hb1⟩)
  go_quiet (fail)
  go_wp2
  go_ret2
  exact ⟨rfl, hb1.drewN _⟩
set_option maxHeartbeats 400000 in
theorem QP_none (s : ByteArray) (w : World) (hE : Sent w) (hT : Tabs w) (hs : uqRoom s false) (h : preL s.data.toList = none) :
    ∃ (t : TypeId) (v : Value), Calls Tryd.prog 26 #[.string s] w fun e w' => e = .returned (.tuple #[.string ⟨#[]⟩, .iface t v]) ∧ Bw w w' := by
  have hl : libU s.data.toList = none := by
    unfold preL at h
    cases hl : libU s.data.toList with
    | none => rfl
    | some y => rw [hl] at h; cases h
  obtain ⟨t, v, c⟩ := unquote_none s false w hE hT hs hl
  have C := Lib.hid c
  clear c h hl hE hT
  refine ⟨t, v, ?_⟩
  go_enter Tryd.func26, Tryd.ntmps26
  go_wp2_with (go_at_call 35; refine C.out.mono ?_; rintro e w1 ⟨rfl, hb1⟩)
  go_ret2
  exact ⟨rfl, hb1⟩
set_option maxHeartbeats 400000 in
theorem QP_some (s : ByteArray) (p : List UInt8) (w : World) (hE : Sent w) (hT : Tabs w) (hs : uqRoom s false) (h : preL s.data.toList = some p) :
    Calls Tryd.prog 26 #[.string s] w fun e w' => e = .returned (.tuple #[.string ⟨p.toArray⟩, .nilIface]) ∧ Bw w w' := by
  cases hl : libU s.data.toList with
  | none => unfold preL at h; rw [hl] at h; cases h
  | some y =>
    obtain ⟨o, r⟩ := y
    have c := unquote_some s false o r w hE hT hs hl
    rw [if_neg (by decide)] at c
    unfold preL at h
    rw [hl] at h
    simp only [Option.some.injEq] at h
    rw [h] at c
    generalize ByteArray.mk r.toArray = R at c
    generalize ByteArray.mk p.toArray = O at c ⊢
    have C := Lib.hid c
    clear c h hl
    go_enter Tryd.func26, Tryd.ntmps26
    go_wp2_with (go_at_call 35; refine C.out.mono ?_; rintro e w1 ⟨rfl, hb1⟩)
    go_ret2
    exact ⟨rfl, hb1⟩
set_option maxHeartbeats 400000 in
/-- impl.QuotedPrefix -/
theorem implQ_none (s : ByteArray) (w : World) (hE : Sent w) (hT : Tabs w) (hs : uqRoom s false) (h : preL s.data.toList = none) :
    Calls Tryd.prog 14 #[.string s] w fun e w' => e = .returned (.tuple #[.string ⟨#[]⟩, .bool false]) ∧ Bw w w' := by
  obtain ⟨t, v, c⟩ := QP_none s w hE hT hs h
  have C := Lib.hid c
  clear c h hT hE
  go_enter Tryd.func14, Tryd.ntmps14
  go_wp2_with (go_at_call 26; refine C.out.mono ?_; rintro e w1 ⟨rfl, hb1⟩)
  go_quiet (fail)
  go_wp2
  go_ret2
  exact ⟨rfl, hb1.drewN _⟩
set_option maxHeartbeats 400000 in
theorem implQ_some (s : ByteArray) (p : List UInt8) (w : World) (hE : Sent w) (hT : Tabs w) (hs : uqRoom s false) (h : preL s.data.toList = some p) :
    Calls Tryd.prog 14 #[.string s] w fun e w' => e = .returned (.tuple #[.string ⟨p.toArray⟩, .bool true]) ∧ Bw w w' := by
  have C := Lib.hid (QP_some s p w hE hT hs h)
  clear h hT hE
  generalize ByteArray.mk p.toArray = O at C ⊢
  go_enter Tryd.func14, Tryd.ntmps14
  go_wp2_with (go_at_call 26; refine C.out.mono ?_; rintro e w1 ⟨rfl, hb1⟩)
  go_quiet (fail)
  go_wp2
  go_ret2
  exact ⟨rfl, hb1.drewN _⟩
end Go.Proofs.YtbnginnbpppegaaDoor
