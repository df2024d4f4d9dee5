/-
  Small helps for the laws' walks.
-/
import Derived.Test.YtbnginnbpppegaaDoorWv
import Derived.Test.YtbnginnbpppegaaDoorWp
import Derived.Test.YtbnginnbpppegaaDoorFrame
namespace Go.Proofs.YtbnginnbpppegaaDoor
open Go.RowKit Go.Uq

theorem app_list (a b : ByteArray) : (a ++ b).data.toList = a.data.toList ++ b.data.toList := by simp
theorem app_size (a b : ByteArray) : (a ++ b).size = a.size + b.size := by rw [Lib.size_eq, app_list, List.length_append, ← Lib.size_eq, ← Lib.size_eq]
def Env (w : World) : Prop := Sent w ∧ Tabs w
theorem Env.bw {w w' : World} (h : Env w) (hb : Bw w w') : Env w' := ⟨h.1.bw hb, h.2.bw hb⟩
theorem one_list (a : UInt8) (s : ByteArray) : ((⟨#[a]⟩ : ByteArray) ++ s).data.toList = a :: s.data.toList := by rw [app_list]; rfl
theorem one_rest (a : UInt8) (s : ByteArray) : ((⟨#[a]⟩ : ByteArray) ++ s).extract 1 ((⟨#[a]⟩ : ByteArray) ++ s).size = s := by
  apply ba_ext
  rw [Lib.extract_to_end, one_list]
  rfl
theorem byte_nat {q : Int} (h : (Lit.int .u8 q).wf = true) : ∃ n : Nat, q = n ∧ n < 256 := by
  have := bounds_u8 h
  exact ⟨q.toNat, by omega, by omega⟩
/-- impl.UnquoteChar, by what is left of the text -/
theorem implUC_is (x y : ByteArray) (q r k : Nat) (m : Bool) (w : World) (hE : Sent w) (hT : Tabs w) (hq : q = 0 ∨ q = 34 ∨ q = 39) (h : uc x.data.toList q = some (r, m, k)) (hy : x.extract k x.size = y) :
    Calls Tryd.prog 23 #[.string x, .int .u8 q] w fun e w' => e = .returned (.tuple #[.int .i32 r, .bool m, .string y, .bool true]) ∧ Bw w w' := by
  have := implUC_some x q r k m w hE hT hq h
  rw [hy] at this
  exact this
/-- laws.has -/
def hasB (b : Nat) (l : List UInt8) : Bool := l.any fun x => x.toNat == b
theorem hasB_false {b : Nat} {l : List UInt8} (h : hasB b l = false) : ∀ x ∈ l, x.toNat ≠ b := by
  unfold hasB at h
  intro x hx e
  rw [List.any_eq_false] at h
  exact h x hx (by simp [e])
theorem drop_at (s : ByteArray) (i : Nat) (h : i < s.size) : s.data.toList.drop i = s[i] :: s.data.toList.drop (i + 1) := by
  have hl : i < s.data.toList.length := by rw [← Lib.size_eq]; exact h
  rw [List.drop_eq_getElem_cons hl]
  congr 1
set_option maxHeartbeats 400000 in
theorem has_any (s : ByteArray) (b : Nat) (w : World) (hs : s.size ≤ 9223372036854775807) :
    Calls Tryd.prog 20 #[.string s, .int .u8 b] w fun e w' => e = .returned (.bool (hasB b s.data.toList)) ∧ Bw w w' := by
  obtain ⟨ANS, hA⟩ : ∃ ANS, hasB b s.data.toList = ANS := ⟨_, rfl⟩
  rw [hA]
  have HA := Lib.hid hA
  clear hA
  go_enter Tryd.func20, Tryd.ntmps20
  go_wp2
  go_loopg [5] (s.size + 1) (fun gk v wr => Bw w wr ∧ ∃ i : Nat, v = .int .i64 i ∧ i ≤ s.size ∧ s.size - i < gk ∧ Hid (hasB b (s.data.toList.drop i) = ANS))
  case atStart => exact ⟨Bw.refl _, 0, rfl, by omega, by omega, HA⟩
  case round =>
    obtain ⟨hb, i, rfl, hi, hg, hv⟩ := hrel
    clear HA
    by_cases h0 : i < s.size
    · obtain ⟨g', rfl⟩ : ∃ g', gk = g' + 1 := ⟨gk - 1, by omega⟩
      have h0z : decide ((i : Int) < (s.size : Int)) = true := decide_eq_true (by omega)
      by_cases hc : s[i].toNat = b
      · have hcz : ((s[i].toNat : Int) == b) = true := by simp [hc]
        go_wp2
        go_ret
        have e : ANS = true := by
          rw [← hv.out, drop_at s i h0]
          simp [hasB, hc]
        rw [e]
        exact ⟨rfl, hb⟩
      · have hcz : ((s[i].toNat : Int) == b) = false := beq_eq_false_iff_ne.2 (by omega)
        go_wp2
        go_roundg g'
        case rel =>
          refine ⟨hb, i + 1, by simp, by omega, by omega, ?_⟩
          have := hv.out
          rw [drop_at s i h0] at this
          refine Lib.hid ?_
          rw [← this]
          simp [hasB, hc]
        case measure => omega
    · have h0z : decide ((i : Int) < (s.size : Int)) = false := decide_eq_false (by omega)
      go_wp2
      go_ret
      have e : ANS = false := by
        rw [← hv.out, List.drop_eq_nil_of_le (by rw [← Lib.size_eq]; omega)]
        rfl
      rw [e]
      exact ⟨rfl, hb⟩
set_option maxHeartbeats 400000 in
/-- laws.quoted -/
theorem quoted_any (q s : ByteArray) (w : World) (hs : q.size + s.size + q.size ≤ 9223372036854775807) :
    Calls Tryd.prog 16 #[.string q, .string s] w fun e w' => e = .returned (.string (q ++ s ++ q)) ∧ Bw w w' := by
  have n1 : ¬ 9223372036854775807 < q.size + s.size := by omega
  have n2 : ¬ 9223372036854775807 < q.size + s.size + q.size := by omega
  have n3 : ¬ 9223372036854775807 < (q ++ s).size + q.size := by rw [app_size]; omega
  go_enter Tryd.func16, Tryd.ntmps16
  go_wp2
  go_ret
  exact ⟨rfl, Bw.refl _⟩
set_option maxHeartbeats 400000 in
/-- laws.gives, where Unquote gives -/
theorem gives_some (s o : ByteArray) (w : World)
    (h : Calls Tryd.prog 22 #[.string s] w fun e w' => e = .returned (.tuple #[.string o, .bool true]) ∧ Bw w w') :
    Calls Tryd.prog 18 #[.string s, .string o] w fun e w' => e = .returned (.bool true) ∧ Bw w w' := by
  have C := Lib.hid h
  clear h
  go_enter Tryd.func18, Tryd.ntmps18
  go_wp2_with (go_at_call 22; refine C.out.mono ?_; rintro e w1 ⟨rfl, hb1⟩)
  go_ret
  exact ⟨by simp, hb1⟩
set_option maxHeartbeats 400000 in
/-- laws.refuses -/
theorem refuses_is (s o : ByteArray) (b : Bool) (w : World)
    (h : Calls Tryd.prog 22 #[.string s] w fun e w' => e = .returned (.tuple #[.string o, .bool b]) ∧ Bw w w') :
    Calls Tryd.prog 19 #[.string s] w fun e w' => e = .returned (.bool (!b)) ∧ Bw w w' := by
  have C := Lib.hid h
  clear h
  go_enter Tryd.func19, Tryd.ntmps19
  go_wp2_with (go_at_call 22; refine C.out.mono ?_; rintro e w1 ⟨rfl, hb1⟩)
  go_ret
  exact ⟨rfl, hb1⟩
theorem has_is (s : ByteArray) (b : Nat) (bz : Int) (w : World) (hs : s.size ≤ 9223372036854775807) (hb : bz = b) :
    Calls Tryd.prog 20 #[.string s, .int .u8 bz] w fun e w' => e = .returned (.bool (hasB b s.data.toList)) ∧ Bw w w' := by
  subst hb
  exact has_any s b w hs
theorem implU_is (s o : ByteArray) (w : World) (hW : Env w) (hs : uqRoom s true) (h : unqL s.data.toList = some o.data.toList) :
    Calls Tryd.prog 22 #[.string s] w fun e w' => e = .returned (.tuple #[.string o, .bool true]) ∧ Bw w w' := by
  have := implU_some s _ w hW.1 hW.2 hs h
  rwa [← ba_list (s := o) rfl] at this
theorem gives_is (s o : ByteArray) (w : World) (hW : Env w) (hs : uqRoom s true) (h : unqL s.data.toList = some o.data.toList) :
    Calls Tryd.prog 18 #[.string s, .string o] w fun e w' => e = .returned (.bool true) ∧ Bw w w' := gives_some s o w (implU_is s o w hW hs h)
theorem refuses_yes (s : ByteArray) (w : World) (hW : Env w) (hs : uqRoom s true) (h : unqL s.data.toList = none) :
    Calls Tryd.prog 19 #[.string s] w fun e w' => e = .returned (.bool true) ∧ Bw w w' := refuses_is s _ false w (implU_none s w hW.1 hW.2 hs h)
theorem refuses_no (s o : ByteArray) (w : World) (hW : Env w) (hs : uqRoom s true) (h : unqL s.data.toList = some o.data.toList) :
    Calls Tryd.prog 19 #[.string s] w fun e w' => e = .returned (.bool false) ∧ Bw w w' := refuses_is s _ true w (implU_is s o w hW hs h)
theorem implQ_is (s o : ByteArray) (w : World) (hW : Env w) (hs : uqRoom s false) (h : preL s.data.toList = some o.data.toList) :
    Calls Tryd.prog 14 #[.string s] w fun e w' => e = .returned (.tuple #[.string o, .bool true]) ∧ Bw w w' := by
  have := implQ_some s _ w hW.1 hW.2 hs h
  rwa [← ba_list (s := o) rfl] at this
theorem implQ_no (s : ByteArray) (w : World) (hW : Env w) (hs : uqRoom s false) (h : preL s.data.toList = none) :
    Calls Tryd.prog 14 #[.string s] w fun e w' => e = .returned (.tuple #[.string ⟨#[]⟩, .bool false]) ∧ Bw w w' := implQ_none s w hW.1 hW.2 hs h
/-- a text between two bytes -/
theorem between_list (c : UInt8) (s : ByteArray) : ((⟨#[c]⟩ : ByteArray) ++ s ++ ⟨#[c]⟩).data.toList = c :: (s.data.toList ++ [c]) := by rw [app_list, app_list]; rfl
theorem between_size (c : UInt8) (s : ByteArray) : ((⟨#[c]⟩ : ByteArray) ++ s ++ ⟨#[c]⟩).size = s.size + 2 := by rw [Lib.size_eq, between_list]; simp
theorem unqL_of_specU {l o : List UInt8} (h : specU l = some o) : unqL l = some o := by
  have := libU_of_specU h []
  rw [List.append_nil] at this
  unfold unqL
  rw [this]
  simp
theorem preL_of_specU {l o : List UInt8} (h : specU l = some o) (x : List UInt8) : preL (l ++ x) = some l := by
  unfold preL
  rw [libU_of_specU h x]
  simp
theorem specU_plain {c : UInt8} (hc : c.toNat = 34) {b : List UInt8} (hv : Lib.validD b = true) (h : ∀ x ∈ b, x.toNat ≠ 34 ∧ x.toNat ≠ 92 ∧ x.toNat ≠ 10) : specU (c :: (b ++ [c])) = some b := by
  obtain ⟨es, he, ho⟩ := plain_elems 34 (by decide) b.length b (Nat.le_refl _) hv h
  rw [specU_double hc, he]
  simp [ho]
theorem specU_rawText {c : UInt8} (hc : c.toNat = 96) {b : List UInt8} (hv : Lib.validD b = true) (h : ∀ x ∈ b, x.toNat ≠ 96) : specU (c :: (b ++ [c])) = some (b.filter fun x => x.toNat != 13) := by
  rw [specU_raw hc]
  unfold rawS
  rw [if_neg, if_pos hv]
  rw [List.any_eq_true]
  rintro ⟨x, hx, e⟩
  exact h x hx (by simpa using e)
theorem filter_no13 {b : List UInt8} (h : ∀ x ∈ b, x.toNat ≠ 13) : b.filter (fun x => x.toNat != 13) = b := by
  rw [List.filter_eq_self]
  intro x hx
  simpa using h x hx
theorem easy_text {s : ByteArray} (hv : Lib.validD s.data.toList = true) (h : ∀ x ∈ s.data.toList, x.toNat ≠ 92 ∧ x.toNat ≠ 10 ∧ x.toNat ≠ 39) : easy s := by
  intro c a r he ha
  rw [he] at h hv
  refine ⟨(h c (by simp)).2.2, fun hc => ?_⟩
  have hsub : ∀ x ∈ a, x.toNat ≠ 92 ∧ x.toNat ≠ 10 ∧ x.toNat ≠ 39 := fun x hx => h x (by simp [hx])
  have hva : Lib.validD a = true := (valid_split (a := a) (x := c) (r := r) (by omega) ((valid_split (a := []) (x := c) (r := a ++ c :: r) (by omega) hv).2)).1
  unfold slow34
  rintro (h1 | ⟨_, h1⟩ | ⟨_, _, h1⟩)
  · exact (hsub _ h1).1 rfl
  · exact (hsub _ h1).2.1 rfl
  · rw [hva] at h1; cases h1
theorem easy_head {s : ByteArray} {d : UInt8} {t : List UInt8} (hs : s.data.toList = d :: t) (h : d.toNat ≠ 39 ∧ d.toNat ≠ 34) : easy s := by
  intro c a r he _
  rw [hs] at he
  obtain rfl : d = c := by injection he
  exact ⟨h.1, fun e => absurd e h.2⟩
theorem libU_other {l : List UInt8} (h : ∀ x ∈ l, x.toNat ≠ 34 ∧ x.toNat ≠ 39 ∧ x.toNat ≠ 96) : libU l = none := by
  match l with
  | [] => rfl
  | c :: t =>
    have := h c (by simp)
    unfold libU
    simp only [if_neg this.1, if_neg this.2.1, if_neg this.2.2]
end Go.Proofs.YtbnginnbpppegaaDoor
