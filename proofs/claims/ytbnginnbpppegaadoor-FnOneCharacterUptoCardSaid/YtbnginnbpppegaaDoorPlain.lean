import Derived.Lib.ValidLaws
namespace Go.Uq
open Go.Lib

/-- the decoder has found a character -/
def good (l : List UInt8) : Bool := !decide ((decodeL l).1 = 65533 ∧ (decodeL l).2 = 1)
/-- a number is a character's -/
def cp (x : Nat) : Bool := decide (x ≤ 1114111 ∧ (x < 55296 ∨ 57343 < x))
def digN (c base : Nat) : Option Nat :=
  if 48 ≤ c ∧ c ≤ 57 then (if c - 48 < base then some (c - 48) else none)
  else if 97 ≤ c ∧ c ≤ 102 then (if c - 87 < base then some (c - 87) else none)
  else if 65 ≤ c ∧ c ≤ 70 then (if c - 55 < base then some (c - 55) else none)
  else none
/-- so many digits to a base, behind a -/
def num (base : Nat) : Nat → List UInt8 → Nat → Option Nat
  | 0, _, a => some a
  | _ + 1, [], _ => none
  | n + 1, c :: t, a => match digN c.toNat base with
    | none => none
    | some d => num base n t (a * base + d)
structure El where
  v : Nat
  b : Bool
  n : Nat
  w : Bool
def simp1 (c : Nat) : Option Nat :=
  if c = 97 then some 7 else if c = 98 then some 8 else if c = 102 then some 12 else if c = 110 then some 10 else if c = 114 then some 13
  else if c = 116 then some 9 else if c = 118 then some 11 else if c = 92 then some 92 else none
/-- an escape, behind its backslash -/
def esc (l : List UInt8) (q : Nat) : Option El :=
  match l with
  | [] => none
  | c :: t =>
    match simp1 c.toNat with
    | some r => some ⟨r, false, 2, false⟩
    | none =>
      if q ≠ 0 ∧ c.toNat = q then some ⟨q, false, 2, false⟩
      else if c.toNat = 120 then (match num 16 2 t 0 with | none => none | some x => some ⟨x, true, 4, false⟩)
      else if c.toNat = 117 then (match num 16 4 t 0 with | none => none | some x => if cp x then some ⟨x, false, 6, true⟩ else none)
      else if c.toNat = 85 then (match num 16 8 t 0 with | none => none | some x => if cp x then some ⟨x, false, 10, true⟩ else none)
      else (match num 8 3 (c :: t) 0 with | none => none | some x => if x ≤ 255 then some ⟨x, true, 4, false⟩ else none)
/-- the first element of what stands between quotes (the reference) -/
def first (l : List UInt8) (q : Nat) : Option El :=
  match l with
  | [] => none
  | c :: t =>
    if c.toNat = 10 ∨ (q ≠ 0 ∧ c.toNat = q) then none
    else if c.toNat = 92 then esc t q
    else if good (c :: t) then some ⟨(decodeL (c :: t)).1, false, (decodeL (c :: t)).2, false⟩ else none
/-- the library's UnquoteChar: value, several bytes, how many bytes are taken -/
def uc (l : List UInt8) (q : Nat) : Option (Nat × Bool × Nat) :=
  match l with
  | [] => none
  | c :: t =>
    if q ≠ 0 ∧ c.toNat = q then none
    else if c.toNat = 92 then (match esc t q with | none => none | some e => some (e.v, e.w, e.n))
    else if 128 ≤ c.toNat then some ((decodeL (c :: t)).1, true, (decodeL (c :: t)).2)
    else some (c.toNat, false, 1)
def elemsF (q : Nat) : Nat → List UInt8 → Option (List El)
  | 0, l => if l = [] then some [] else none
  | n + 1, l => if l = [] then some [] else
    match first l q with
    | none => none
    | some e => match elemsF q n (l.drop e.n) with
      | none => none
      | some es => some (e :: es)
def elems (l : List UInt8) (q : Nat) : Option (List El) := elemsF q l.length l
def bytesOf (e : El) : List UInt8 := if e.b then [e.v.toUInt8] else encodeRune (e.v : Int)
def outOf (es : List El) : List UInt8 := es.flatMap bytesOf
/-- what the library appends for a value -/
def put (v : Nat) (m : Bool) : List UInt8 := if v < 128 ∨ m = false then [v.toUInt8] else encodeRune (v : Int)
/-- the library's loop between double quotes: what it has made, and what is left behind the closing quote -/
def bodyF (q : Nat) : Nat → List UInt8 → Option (List UInt8 × List UInt8)
  | 0, _ => none
  | _ + 1, [] => none
  | n + 1, c :: t =>
    if c.toNat = q then some ([], t)
    else if c.toNat = 10 then none
    else match uc (c :: t) q with
      | none => none
      | some (v, m, k) => match bodyF q n ((c :: t).drop k) with
        | none => none
        | some (o, r) => some (put v m ++ o, r)
def body (q : Nat) (l : List UInt8) : Option (List UInt8 × List UInt8) := bodyF q l.length l
/-- between single quotes: one element at the most -/
def charB (l : List UInt8) : Option (List UInt8 × List UInt8) :=
  match l with
  | [] => none
  | c :: t =>
    if c.toNat = 39 then some ([], t)
    else if c.toNat = 10 then none
    else match uc (c :: t) 39 with
      | none => none
      | some (v, m, k) => match (c :: t).drop k with
        | [] => none
        | d :: r => if d.toNat = 39 then some (put v m, r) else none
/-- between back quotes -/
def rawB : List UInt8 → Option (List UInt8 × List UInt8)
  | [] => none
  | c :: t => if c.toNat = 96 then some ([], t) else
    match rawB t with
    | none => none
    | some (o, r) => some (if c.toNat = 13 then o else c :: o, r)
/-- the library's unquote: what the literal at the beginning stands for, and what is left behind it -/
def libU (l : List UInt8) : Option (List UInt8 × List UInt8) :=
  match l with
  | [] => none
  | c :: t => if c.toNat = 96 then rawB t else if c.toNat = 34 then body 34 t else if c.toNat = 39 then charB t else none
/-- the reference's kind of quotes -/
def kind (l : List UInt8) : Nat :=
  if l.length < 2 ∨ l.getD 0 0 ≠ l.getD (l.length - 1) 0 then 0
  else if (l.getD 0 0).toNat = 34 then 1 else if (l.getD 0 0).toNat = 96 then 2 else if (l.getD 0 0).toNat = 39 then 3 else 0
def mid (l : List UInt8) : List UInt8 := (l.drop 1).take (l.length - 2)
def rawS (l : List UInt8) : Option (List UInt8) := if l.any (fun c => c.toNat == 96) then none else if validD l then some (l.filter fun c => c.toNat != 13) else none
/-- the reference's Unquote -/
def specU (l : List UInt8) : Option (List UInt8) :=
  if kind l = 0 then none
  else if kind l = 2 then rawS (mid l)
  else match elems (mid l) (l.getD 0 0).toNat with
    | none => none
    | some es => if kind l = 3 ∧ 1 < es.length then none else some (outOf es)
end Go.Uq
