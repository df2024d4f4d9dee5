/-
  A row of bytes that the call owns, by its bytes; the walks over the library's unquote: errors, fast roads, raw literals.
-/
import Derived.Test.YtbnginnbpppegaaDoorWq
import Derived.Test.YtbnginnbpppegaaDoorPq
import Derived.Laws.IdiomStrings
namespace Go.Proofs.YtbnginnbpppegaaDoor
open Go.RowKit Go.Uq

/-- v is a slice of the call's own that holds the bytes o -/
def Buf (B : Nat) (w : World) (v : Value) (o : List UInt8) : Prop := w.ownsRow B 5 1 v o.length (Lib.byteCells o)
theorem Buf.alloc {B : Nat} {w : World} {v : Value} {o : List UInt8} (h : Buf B w v o) (x : Obj) : Buf B (w.alloc x) v o := World.ownsRow.alloc h x
theorem Buf.row {B : Nat} {w : World} {v : Value} {o : List UInt8} (h : Buf B w v o) : ∀ k, v.ownBlock = some k → B ≤ k := by
  intro k hk
  rcases h.2 with ⟨rfl, _⟩ | ⟨g, cap, cur, rfl, hb, _⟩
  · simp [Value.ownBlock] at hk
  · simp [Value.ownBlock] at hk; omega
theorem Buf.bw {B : Nat} {w w' : World} {v : Value} {o : List UInt8} (h : Buf B w v o) (hb : Bw w w') : Buf B w' v o := by
  refine ⟨h.1, ?_⟩
  rcases h.2 with h0 | ⟨g, cap, cur, h1, h2, h3, h4⟩
  · exact .inl h0
  · refine .inr ⟨g, cap, cur, h1, h2, ?_, h4⟩
    have hg : g < w.heap.size := by
      rcases Nat.lt_or_ge g w.heap.size with hlt | hge
      · exact hlt
      · rw [Array.getElem?_eq_none hge] at h3; cases h3
    rw [Below.block hb g hg]
    exact h3
theorem Buf.conv {B : Nat} {w : World} {v : Value} {o : List UInt8} (h : Buf B w v o) : (convert 31 9 v).run Tryd.prog w = .ok (.string ⟨o.toArray⟩) w := by
  rcases h.2 with ⟨rfl, h0⟩ | ⟨g, cap, cur, hv, _⟩
  · have : o = [] := List.eq_nil_of_length_eq_zero h0
    subst this
    exact run_convert_bytes_nil w 31 5 Tryd.underlying31 Tryd.underlying5 0 0 9 Tryd.underlying9
  · have hc := World.ownsRow.cells h (g := g) (by rw [hv]; rfl)
    rw [hv]
    refine run_convert_bytes_back w 31 9 5 ⟨g, 0, none⟩ cap o Tryd.underlying31 Tryd.underlying5 Tryd.underlying9 (fun j hj => ?_)
    refine hc j _ ?_
    simp [Lib.byteCells, List.getElem?_eq_getElem hj]
theorem byte_info : (Tryd.prog.info? 5).map (fun i => (i.zero, i.size, i.bytes)) = some (some (.int .u8 0), 1, 1) := by kernel_rfl
/-- append(buf, b) -/
theorem app_byte (w : World) {ops : Array Oper} {rest : List Oper} {o : Oper} {a : Act} {Q : Exit → Act → World → Prop} (hgd : o.guard = none) (s x : Operand)
    (ho : o.op = .call { callee := .builtin .append, args := #[s, x], argTypes := #[31, 31] }) (B : Nat) (v : Value) (O : List UInt8) (hs : a.eval s = v) (hb : Buf B w v O)
    (ad : Addr) (b : UInt8) (hx : a.eval x = .slice (some ad) 1 1) (hcell : w.cell? ad = some (.int .u8 b.toNat)) (hlen : O.length + 1 ≤ 140737488355328) (hB : B ≤ w.heap.size)
    (h : ∀ v' w', Buf B w' v' (O ++ [b]) → w.grownBy w' v.ownBlock → wpList Tryd.prog ops Q rest (a.put o.dst v') w') : wpList Tryd.prog ops Q (o :: rest) a w := by
  obtain ⟨i0, hi, hz0, hz1, hz2⟩ := info_parts byte_info
  refine wpList_append_own w hgd s x 31 ho B 5 i0 (.int .u8 0) 1 1 Tryd.underlying31 hi hz0 hz1 hz2 rfl (by decide) v O.length (Lib.byteCells O) hs hb ad 1 1 [.int .u8 b.toNat] hx rfl
    (fun j u hu => ?_) (fun u hu => by simp at hu; subst hu; rfl) (by unfold maxLen; omega) (by omega) hB (fun v' w' h1 h2 _ => h v' w' ?_ h2)
  · match j, hu with
    | 0, hu =>
      simp at hu
      subst hu
      have e : ad.add 0 = ad := by simp [Addr.add]
      rw [e]
      exact hcell
    | j + 1, hu => simp at hu
  · unfold Buf
    simpa [Lib.byteCells] using h1
/-- make([]byte, 0, n) -/
theorem make_buf (w : World) {ops : Array Oper} {rest : List Oper} {o : Oper} {a : Act} {Q : Exit → Act → World → Prop} (hgd : o.guard = none) (l c : Operand) (ho : o.op = Op.makeSlice 31 l c)
    (B : Nat) (C : Int) (n : Nat) (hl : a.eval l = .int .i64 0) (hc : a.eval c = .int .i64 C) (hC : C = (n : Int)) (hn : n ≤ 281474976710656) (hB : B ≤ w.heap.size)
    (h : ∀ v' w', Buf B w' v' [] → w.grownBy w' none → wpList Tryd.prog ops Q rest (a.put o.dst v') w') : wpList Tryd.prog ops Q (o :: rest) a w := by
  obtain ⟨i0, hi, hz0, hz1, hz2⟩ := info_parts byte_info
  exact wpList_make_own w hgd l c 31 ho B 5 i0 (.int .u8 0) 1 Tryd.underlying31 hi hz0 hz1 .i64 .i64 C n hl hc hC (by rw [hz2]; omega) (by unfold maxLen; omega) hB (fun w' h1 h2 => h _ w' h1 h2)
theorem grown_bw {w w' : World} (h : w.grownBy w' none) : Bw w w' := (Bw.refl w).grown h (fun k hk => by cases hk)

/-- the answer with the error, and the answer without -/
def uqBad (s : ByteArray) (t : TypeId) (v : Value) : Ending := .returned (.tuple #[.string ⟨#[]⟩, .string s, .iface t v])
def uqGood (l o r : List UInt8) (un : Bool) : Ending := .returned (.tuple #[.string ⟨(if un then o else l.take (l.length - r.length)).toArray⟩, .string ⟨r.toArray⟩, .nilIface])
def PostU (s : ByteArray) (un : Bool) (t : TypeId) (v : Value) (w : World) (e : Ending) (w' : World) : Prop :=
  (match libU s.data.toList with
  | none => e = uqBad s t v
  | some (o, r) => e = uqGood s.data.toList o r un) ∧ Bw w w'
theorem postU_none {s : ByteArray} {un : Bool} {t : TypeId} {v : Value} {w : World} {e : Ending} {w' : World} (h : libU s.data.toList = none) (he : e = uqBad s t v ∧ Bw w w') : PostU s un t v w e w' := by
  unfold PostU; rw [h]; exact he
theorem postU_some {s : ByteArray} {un : Bool} {o r : List UInt8} {t : TypeId} {v : Value} {w : World} {e : Ending} {w' : World} (h : libU s.data.toList = some (o, r)) (he : e = uqGood s.data.toList o r un ∧ Bw w w') : PostU s un t v w e w' := by
  unfold PostU; rw [h]; exact he
theorem ret_three {a a' b b' : ByteArray} {c : Value} (h1 : a = a') (h2 : b = b') : Ending.returned (.tuple #[.string a, .string b, c]) = .returned (.tuple #[.string a', .string b', c]) := by rw [h1, h2]
theorem ba_list {s : ByteArray} {l : List UInt8} (h : s.data.toList = l) : s = ⟨l.toArray⟩ := ba_ext (by rw [h])

set_option maxHeartbeats 800000 in
set_option maxRecDepth 100000 in
theorem uq_short (s : ByteArray) (un : Bool) (w : World) (t : TypeId) (v : Value) (hE : w.cell? ⟨0, 0, none⟩ = some (.iface t v)) (h : s.size < 2) :
    Calls Tryd.prog 35 #[.string s, .bool un] w fun e w' => e = uqBad s t v ∧ Bw w w' := by
  have hz : decide ((s.size : Int) < 2) = true := by simp; omega
  go_enter Tryd.func35, Tryd.ntmps35
  go_wp2
  go_quiet (fail)
  go_wp2
  go_ret3
  exact ⟨rfl, (Bw.refl _).drewN _⟩
set_option maxHeartbeats 800000 in
set_option maxRecDepth 100000 in
theorem uq_noend (s : ByteArray) (un : Bool) (w : World) (t : TypeId) (v : Value) (hE : w.cell? ⟨0, 0, none⟩ = some (.iface t v)) (h : 2 ≤ s.size) (hn : ∀ x ∈ (s.extract 1 s.size).data.toList, x ≠ s[0]) :
    Calls Tryd.prog 35 #[.string s, .bool un] w fun e w' => e = uqBad s t v ∧ Bw w w' := by
  have hz : decide ((s.size : Int) < 2) = false := by simp; omega
  have h1z : (1 : Int) ≤ s.size := by omega
  have h0z : (0 : Int) < s.size := by omega
  have C := Lib.hid (index_no (s.extract 1 s.size) s[0] w hn)
  clear hn
  go_enter Tryd.func35, Tryd.ntmps35
  go_wp2_with (go_at_call 40; refine C.out.mono ?_; rintro e w1 ⟨rfl, rfl⟩)
  go_quiet (fail)
  go_wp2
  go_ret3
  exact ⟨rfl, (Bw.refl _).drewN _⟩
set_option maxHeartbeats 800000 in
set_option maxRecDepth 100000 in
theorem uq_noquote (s : ByteArray) (un : Bool) (c : UInt8) (a r : List UInt8) (w : World) (t : TypeId) (v : Value) (hE : w.cell? ⟨0, 0, none⟩ = some (.iface t v)) (hs : s.size ≤ 9223372036854775807) (h : 2 ≤ s.size) (hc : s[0] = c)
    (hl : (s.extract 1 s.size).data.toList = a ++ c :: r) (ha : ∀ x ∈ a, x ≠ c) (hq : c.toNat ≠ 96 ∧ c.toNat ≠ 34 ∧ c.toNat ≠ 39) :
    Calls Tryd.prog 35 #[.string s, .bool un] w fun e w' => e = uqBad s t v ∧ Bw w w' := by
  have hz : decide ((s.size : Int) < 2) = false := by simp; omega
  have h1z : (1 : Int) ≤ s.size := by omega
  have h0z : (0 : Int) < s.size := by omega
  have hla : a.length + 2 ≤ s.size := by
    have := congrArg List.length hl
    rw [← Lib.size_eq, rest_size] at this
    simp at this
    omega
  have C := Lib.hid (index_yes (s.extract 1 s.size) c a r w hl ha)
  have n1 : ((c.toNat : Int) == 96) = false := beq_eq_false_iff_ne.2 (by omega)
  have n2 : ((c.toNat : Int) == 34) = false := beq_eq_false_iff_ne.2 (by omega)
  have n3 : ((c.toNat : Int) == 39) = false := beq_eq_false_iff_ne.2 (by omega)
  have nl : decide ((a.length : Int) < 0) = false := by simp
  clear hl ha hq
  generalize a.length = n at C hla nl
  go_enter Tryd.func35, Tryd.ntmps35
  go_wp2_with (go_at_call 40; refine C.out.mono ?_; rintro e w1 ⟨rfl, rfl⟩)
  go_quiet (fail)
  go_wp2
  go_ret3
  exact ⟨rfl, (Bw.refl _).drewN _⟩
end Go.Proofs.YtbnginnbpppegaaDoor
