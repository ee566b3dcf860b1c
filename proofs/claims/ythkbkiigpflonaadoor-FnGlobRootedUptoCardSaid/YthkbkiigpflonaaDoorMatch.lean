/-
  The program's match of a name by a pattern, as a plain function on bytes, with at most so many steps; stuck where it does not come on the texts that patterns have. A match is the same with a slash ahead of both. No program in sight.
-/
import Derived.Test.YthkbkiigpflonaaDoorScan
import Derived.Test.YthkbkiigpflonaaDoorRunes
namespace Go.Proofs.YthkbkiigpflonaaDoor
namespace Pl

/-- What is decoded at the head of a text. -/
def dec (l : List UInt8) : Nat × Nat := if l = [] then (65533, 0) else Lib.decodeL l

/-- Where a match stands: in the pattern, in the name, whether a part begins, and where to go back to: in the pattern and in the name, with directories and with any letters. -/
structure St where
  pi : Nat
  ni : Nat
  sos : Bool
  ds : Option (Nat × Nat)
  st : Option (Nat × Nat)

/-- What one step comes to. -/
inductive Out where
  | next (s : St)
  | back (p : Nat)
  | ret (b : Bool)
  | bad
  | zero
  | alts

/-- The place behind the next slash. -/
def slashM : List UInt8 → Nat → Option Nat
  | [], _ => none
  | c :: r, p => if c.toNat = 47 then some (p + 1) else slashM r (p + 1)

/-- The place of the bracket that closes a class; e: a backslash stands ahead. -/
def closerM : List UInt8 → Bool → Nat → Option Nat
  | [], _, _ => none
  | c :: r, e, p => if e = true then closerM r false (p + 1) else if c.toNat = 92 then closerM r true (p + 1) else if c.toNat = 93 then some p else closerM r false (p + 1)

/-- Whether a letter is of a class, and how far the look at it goes. -/
def clsF : Nat → List UInt8 → Nat → Nat → Nat → Option (Bool × Nat)
  | 0, _, _, _, _ => none
  | k + 1, l, last, r, p =>
    match l with
    | [] => some (false, p)
    | c :: t =>
      if c.toNat = 93 then some (false, p)
      else if (dec (c :: t)).1 = 45 then
        (if last < 1114111 ∧ (c :: t).drop (dec (c :: t)).2 ≠ [] ∧ ((c :: t).drop (dec (c :: t)).2).head? ≠ some 93 then
          (let q := (dec (c :: t)).2 + (if ((c :: t).drop (dec (c :: t)).2).head? = some 92 then 1 else 0)
          let y := dec ((c :: t).drop q)
          if last ≤ r ∧ r ≤ y.1 then some (true, p + (q + y.2)) else clsF k ((c :: t).drop (q + y.2)) 1114111 r (p + (q + y.2)))
        else none)
      else (let q := if (dec (c :: t)).1 = 92 then (dec (c :: t)).2 else 0
        let y := dec ((c :: t).drop q)
        if y.1 = r then some (true, p + (q + y.2)) else clsF k ((c :: t).drop (q + y.2)) y.1 r (p + (q + y.2)))

/-- One step of a match, but for going back. -/
def step (pat name : List UInt8) (s : St) : Out :=
  if name.length ≤ s.ni then .zero
  else match pat.drop s.pi with
    | [] => .back s.pi
    | c :: t =>
      if c.toNat = 42 then
        (if t.head? = some 42 then
          (if s.sos = true then
            (if t.drop 1 = [] then .ret true
            else if (dec (t.drop 1)).1 = 47 then .next ⟨s.pi + 2 + (dec (t.drop 1)).2, s.ni, true, some (s.pi + 2 + (dec (t.drop 1)).2, s.ni), none⟩
            else .next ⟨s.pi + 2, s.ni, false, s.ds, some (s.pi + 2, s.ni)⟩)
          else .next ⟨s.pi + 2, s.ni, false, s.ds, some (s.pi + 2, s.ni)⟩)
        else .next ⟨s.pi + 1, s.ni, false, s.ds, some (s.pi + 1, s.ni)⟩)
      else if c.toNat = 63 then
        (if (dec (name.drop s.ni)).1 = 47 then .back s.pi else .next ⟨s.pi + 1, s.ni + (dec (name.drop s.ni)).2, false, s.ds, s.st⟩)
      else if c.toNat = 91 then
        (if t = [] ∨ t.head? = some 33 ∨ t.head? = some 94 ∨ t.head? = some 93 then .bad
        else match clsF (t.length + 1) t 1114111 (dec (name.drop s.ni)).1 (s.pi + 1) with
          | none => .bad
          | some (false, p) => if pat.length ≤ p then .bad else .back p
          | some (true, p) => match closerM (pat.drop p) false 0 with
            | none => .bad
            | some j => .next ⟨p + (j + 1), s.ni + (dec (name.drop s.ni)).2, false, s.ds, s.st⟩)
      else if c.toNat = 123 then .alts
      else if c.toNat = 92 then
        (if t = [] then .bad
        else if (dec t).1 = (dec (name.drop s.ni)).1 then .next ⟨s.pi + 1 + (dec t).2, s.ni + (dec (name.drop s.ni)).2, decide ((dec t).1 = 47), s.ds, s.st⟩
        else .back s.pi)
      else if (dec (c :: t)).1 = (dec (name.drop s.ni)).1 then .next ⟨s.pi + (dec (c :: t)).2, s.ni + (dec (name.drop s.ni)).2, decide ((dec (c :: t)).1 = 47), s.ds, s.st⟩
      else .back (if 0 < s.pi ∧ pat[s.pi - 1]? = some 92 then s.pi - 1 else s.pi)

/-- No way back. -/
def fails (v : Bool) (pat : List UInt8) (p : Nat) : Out := if v = true ∧ p < pat.length ∧ validM (pat.drop p) 0 0 = false then .bad else .ret false
/-- Back to directories. -/
def backD (v : Bool) (pat name : List UInt8) (s : St) (p : Nat) : Out :=
  match s.ds with
  | none => fails v pat p
  | some (dp, dn) => if name.length < dn ∨ pat.length < dp then .bad else match slashM (name.drop dn) dn with
    | none => fails v pat p
    | some q => .next ⟨dp, q, true, some (dp, q), s.st⟩
/-- Back to any letters. -/
def backs (v : Bool) (pat name : List UInt8) (s : St) (p : Nat) : Out :=
  match s.st with
  | none => backD v pat name s p
  | some (sp, sn) => if name.length < sn then .bad
    else if (dec (name.drop sn)).1 = 47 then backD v pat name s p
    else if pat.length < sp then .bad
    else .next ⟨sp, sn + (dec (name.drop sn)).2, false, s.ds, some (sp, sn + (dec (name.drop sn)).2)⟩

/-- Whether a part begins at a place of a pattern. -/
def sos0 (pat : List UInt8) (pi : Nat) : Bool := decide (pi = 0) || decide (pat[pi - 1]? = some 47)

mutual
/-- Whether a pattern matches a name from where the match stands, and whether it is malformed (v: if that is asked), in at most so many steps. -/
def matchF : Nat → Bool → List UInt8 → List UInt8 → St → Option (Bool × Bool)
  | 0, _, _, _, _ => none
  | k + 1, v, pat, name, s =>
    match step pat name s with
    | .next s' => matchF k v pat name s'
    | .ret b => some (b, false)
    | .bad => some (false, true)
    | .zero => zeroF k (pat.drop s.pi) v
    | .alts => (match closeM (pat.drop (s.pi + 1)) 0 1 0 with
      | none => some (false, true)
      | some ci => altsF k v (pat.take s.pi) ((pat.drop (s.pi + 1)).take ci) (pat.drop (s.pi + 1 + (ci + 1))) name s)
    | .back p => (match backs v pat name s p with
      | .next s' => matchF k v pat name s'
      | .ret b => some (b, false)
      | _ => some (false, true))
def altsF : Nat → Bool → List UInt8 → List UInt8 → List UInt8 → List UInt8 → St → Option (Bool × Bool)
  | 0, _, _, _, _, _, _ => none
  | k + 1, v, ahead, inner, rest, name, s =>
    match nextM inner 0 1 0 with
    | none => matchF k v (ahead ++ (inner ++ rest)) name ⟨s.pi, s.ni, sos0 ahead s.pi, s.ds, s.st⟩
    | some j =>
      match matchF k v (ahead ++ (inner.take j ++ rest)) name ⟨s.pi, s.ni, sos0 ahead s.pi, s.ds, s.st⟩ with
      | none => none
      | some (b1, b2) => if (b1 || b2) = true then some (b1, b2) else altsF k v ahead (inner.drop (j + 1)) rest name s
end
end Pl
end Go.Proofs.YthkbkiigpflonaaDoor
