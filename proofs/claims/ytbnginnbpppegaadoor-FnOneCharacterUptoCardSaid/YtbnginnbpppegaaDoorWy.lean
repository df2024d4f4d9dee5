/-
  The walks over the reference's Elements and Bytes.
-/
import Derived.Test.YtbnginnbpppegaaDoorWx
namespace Go.Proofs.YtbnginnbpppegaaDoor
open Go.RowKit Go.Uq

def elCells (es : List El) : List Value := es.flatMap fun e => [.int .i64 e.v, .bool e.b, .int .i64 e.n, .bool e.w]
theorem elCells_len : ∀ es : List El, (elCells es).length = es.length * 4
  | [] => rfl
  | e :: t => by
    have := elCells_len t
    simp only [elCells, List.flatMap_cons, List.length_append, List.length_cons, List.length_nil] at this ⊢
    omega
theorem elCells_app (a b : List El) : elCells (a ++ b) = elCells a ++ elCells b := by simp [elCells]
/-- v is a slice of the call's own that holds the elements es -/
def Els (B : Nat) (w : World) (v : Value) (es : List El) : Prop := w.ownsRow B 37 4 v es.length (elCells es)
theorem Els.alloc {B : Nat} {w : World} {v : Value} {o : List El} (h : Els B w v o) (x : Obj) : Els B (w.alloc x) v o := World.ownsRow.alloc h x
theorem Els.row {B : Nat} {w : World} {v : Value} {o : List El} (h : Els B w v o) : ∀ k, v.ownBlock = some k → B ≤ k ∧ k < w.heap.size := World.ownsRow.lt h
theorem Els.bw {B : Nat} {w w' : World} {v : Value} {o : List El} (h : Els B w v o) (hb : Bw w w') : Els B w' v o := by
  refine ⟨h.1, ?_⟩
  rcases h.2 with h0 | ⟨g, cap, cur, h1, h2, h3, h4⟩
  · exact .inl h0
  · refine .inr ⟨g, cap, cur, h1, h2, ?_, h4⟩
    have hg : g < w.heap.size := by
      rcases Nat.lt_or_ge g w.heap.size with hlt | hge
      · exact hlt
      · rw [Array.getElem?_eq_none hge] at h3; cases h3
    rw [Below.block hb g hg]
    exact h3
theorem empty_els (w : World) : Els w.heap.size (w.alloc (.cells #[] 37)) (.slice (some ⟨w.heap.size, 0, none⟩) 0 0) [] :=
  ⟨rfl, .inr ⟨w.heap.size, 0, #[], rfl, Nat.le_refl _, (show (w.heap.push _)[w.heap.size]? = _ by simp), Nat.le_refl _, Nat.zero_le _, rfl, rfl⟩⟩
theorem el_info : (Tryd.prog.info? 37).map (fun i => (i.zero, i.size, i.bytes)) = some (some (.agg #[.int .i64 0, .bool false, .int .i64 0, .bool false]), 4, 32) := by kernel_rfl
/-- append(out, e) -/
theorem app_el (w : World) {ops : Array Oper} {rest : List Oper} {o : Oper} {a : Act} {Q : Exit → Act → World → Prop} (hgd : o.guard = none) (s x : Operand)
    (ho : o.op = .call { callee := .builtin .append, args := #[s, x], argTypes := #[28, 28] }) (B : Nat) (v : Value) (O : List El) (hs : a.eval s = v) (hb : Els B w v O)
    (g : Nat) (e : El) (hx : a.eval x = .slice (some ⟨g, 0, none⟩) 1 1) (hblk : w.heap[g]? = some (.cells #[.int .i64 e.v, .bool e.b, .int .i64 e.n, .bool e.w] 37)) (hlen : O.length + 1 ≤ 4398046511104) (hB : B ≤ w.heap.size)
    (h : ∀ v' w', Els B w' v' (O ++ [e]) → w.grownBy w' v.ownBlock → wpList Tryd.prog ops Q rest (a.put o.dst v') w') : wpList Tryd.prog ops Q (o :: rest) a w := by
  obtain ⟨i0, hi, hz0, hz1, hz2⟩ := info_parts el_info
  refine wpList_append_own w hgd s x 28 ho B 37 i0 _ 4 32 Tryd.underlying28 hi hz0 hz1 hz2 rfl (by decide) v O.length (elCells O) hs hb ⟨g, 0, none⟩ 1 1 (elCells [e]) hx rfl
    (fun j u hu => ?_) (fun u hu => ?_) (by unfold maxLen; omega) (by omega) hB (fun v' w' h1 h2 _ => h v' w' ?_ h2)
  · have hj : j < 4 := by
      rcases Nat.lt_or_ge j 4 with h4 | h4
      · exact h4
      · rw [List.getElem?_eq_none (by rw [elCells_len]; simpa using h4)] at hu; cases hu
    have : j = 0 ∨ j = 1 ∨ j = 2 ∨ j = 3 := by omega
    rcases this with rfl | rfl | rfl | rfl <;> (simp [elCells] at hu; subst hu; simp [World.cell?, Addr.add, hblk])
  · simp [elCells] at hu
    rcases hu with rfl | rfl | rfl | rfl <;> rfl
  · unfold Els
    rw [elCells_app, List.length_append]
    exact h1
theorem two_alloc (w : World) (a b : Obj) : ((w.alloc a).alloc b).heap[w.heap.size + 1]? = some b := by
  show ((w.heap.push a).push b)[w.heap.size + 1]? = some b
  rw [show w.heap.size + 1 = (w.heap.push a).size by simp]
  exact Array.getElem?_push_size
theorem el_size {B : Nat} {w1 wr w2 : World} {v : Value} {O : List El} {x : El} {o : Obj} (hbuf : Els B wr v O) (hb1 : Bw wr w1)
    (hg : ((w1.alloc (.cells #[.int .i64 x.v, .bool x.b, .int .i64 x.n, .bool x.w] 37)).alloc o).grownBy w2 v.ownBlock) : w2.cell? ⟨w1.heap.size, 2, none⟩ = some (.int .i64 x.n) :=
  hg.cell (by simp [go_sem]) (fun e => by
    have h1 := (hbuf.row _ e.symm).2
    have h2 := hb1.size
    simp only at h1
    omega)
/-- what Elements answers -/
def PostEls (B : Nat) (ans : Option (List El)) (w : World) (e : Ending) (w' : World) : Prop :=
  (match ans with
  | none => e = .returned (.tuple #[.slice none 0 0, .bool false])
  | some es => ∃ v, e = .returned (.tuple #[v, .bool true]) ∧ Els B w' v es) ∧ Bw w w'
set_option maxHeartbeats 1000000 in
set_option maxRecDepth 100000 in
/-- spec.Elements -/
theorem elements_calls (s : ByteArray) (q : Nat) (w : World) (hs : s.size ≤ 4398046511104) (hq : q = 0 ∨ q = 34 ∨ q = 39) :
    Calls Tryd.prog 21 #[.string s, .int .u8 q] w (PostEls w.heap.size (elems s.data.toList q) w) := by
  obtain ⟨ANS, hA⟩ : ∃ ANS, elems s.data.toList q = ANS := ⟨_, rfl⟩
  rw [hA]
  have HA := Lib.hid hA
  clear hA
  have he0 := Lib.hid (empty_els w)
  have HQ := Lib.hid hq
  clear hq
  go_enter Tryd.func21, Tryd.ntmps21
  go_wp2
  go_loopg [0, 6] (s.size + 1) (fun gk v b wr => Bw w wr ∧ ∃ (t : ByteArray) (O : List El), v = .string t ∧ Els w.heap.size wr b O ∧ Hid ((elems t.data.toList q).map (O ++ ·) = ANS) ∧ t.size < gk ∧ O.length + t.size ≤ s.size)
  case atStart => exact ⟨(Bw.refl _).alloc _, s, [], rfl, he0.out, Lib.hid (by rw [HA.out]; cases ANS <;> simp), by omega, by simp⟩
  case round =>
    obtain ⟨hb, t, O, rfl, hbuf, hv, hg, ht⟩ := hrel
    clear HA he0
    by_cases h0 : 0 < t.size
    · obtain ⟨g', rfl⟩ : ∃ g', gk = g' + 1 := ⟨gk - 1, by omega⟩
      have h0z : (0 : Int) < (t.size : Int) := by omega
      cases hf : first t.data.toList q with
      | none =>
        have C := Lib.hid (fun (w : World) => first_none_at t q w (by omega) HQ.out hf)
        have e : ANS = none := by
          rw [← hv.out, elems_none (ne_of_size h0) hf]
          rfl
        subst e
        clear hf hv
        go_wp2_with (go_at_call 30; refine (C.out _).mono ?_; rintro e w1 ⟨⟨x, y, z, u, rfl⟩, hb1⟩)
        go_ret2
        exact ⟨rfl, (hb.trans hb1).alloc _⟩
      | some x =>
        have C := Lib.hid (fun (w : World) => first_some_at t q x w (by omega) HQ.out hf)
        have hl := first_local hf
        have hn1 := hl.1
        have hn2 := hl.2.1
        rw [← Lib.size_eq] at hn2
        have HV : Hid ((elems (t.extract x.n t.size).data.toList q).map (O ++ [x] ++ ·) = ANS) := Lib.hid (by
          rw [← hv.out, elems_some hf, Lib.extract_to_end]
          cases elems (t.data.toList.drop x.n) q <;> simp)
        clear hf hl hv
        have hnz : (x.n : Int) ≤ t.size := by omega
        go_wp2_with (first
          | (go_at_call 30; refine (C.out _).mono ?_; rintro e w1 ⟨rfl, hb1⟩)
          | (at_builtin; refine app_el _ rfl _ _ rfl w.heap.size _ O rfl (((hbuf.bw hb1).alloc _).alloc _) _ x rfl (two_alloc _ _ _) (by omega) (by simp only [World.size_alloc]; have := (hb.trans hb1).size; omega) ?_; intro v1 w2 hbuf1 hg1; have hcell := el_size hbuf hb1 hg1))
        have hb2 : Bw w w2 := (((hb.trans hb1).alloc _).alloc _).grown hg1 (fun j hj => (hbuf.row j hj).1)
        clear hg1
        go_wp2
        go_roundg g'
        case rel =>
          refine ⟨hb2, t.extract x.n t.size, O ++ [x], rfl, hbuf1, HV, ?_, ?_⟩
          · rw [rest_size]; omega
          · rw [rest_size, List.length_append]; simp; omega
        case measure => omega
    · have e : ANS = some O := by
        rw [← hv.out, empty_of_size h0, elems_nil]
        simp
      subst e
      clear hv
      go_wp2
      go_ret2
      exact ⟨⟨_, rfl, hbuf⟩, hb⟩
end Go.Proofs.YtbnginnbpppegaaDoor
