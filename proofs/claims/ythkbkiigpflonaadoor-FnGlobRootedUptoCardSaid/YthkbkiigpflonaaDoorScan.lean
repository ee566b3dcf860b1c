/-
  The searches of the program in a pattern's text, byte by byte, as plain functions on lists. m tells what stands ahead: 0 nothing, 1 a backslash, 2 a class, 3 a backslash in a class.
-/
import Derived.Test.YthkbkiigpflonaaDoorPlain
namespace Go.Proofs.YthkbkiigpflonaaDoor
namespace Pl

/-- The place of the brace that closes, d braces being open. -/
def closeM : List UInt8 → Nat → Nat → Nat → Option Nat
  | [], _, _, _ => none
  | c :: r, m, d, p =>
    if m = 1 then closeM r 0 d (p + 1)
    else if m = 3 then closeM r 2 d (p + 1)
    else if m = 2 then (if c.toNat = 92 then closeM r 3 d (p + 1) else if c.toNat = 93 then closeM r 0 d (p + 1) else closeM r 2 d (p + 1))
    else if c.toNat = 92 then closeM r 1 d (p + 1)
    else if c.toNat = 91 then closeM r 2 d (p + 1)
    else if c.toNat = 123 then closeM r 0 (d + 1) (p + 1)
    else if c.toNat = 125 then (if d = 1 then some p else closeM r 0 (d - 1) (p + 1))
    else closeM r 0 d (p + 1)

/-- The place of the first comma outside of braces, d - 1 braces being open (d may go below: z tells by how much). -/
def nextM : List UInt8 → Nat → Int → Nat → Option Nat
  | [], _, _, _ => none
  | c :: r, m, d, p =>
    if m = 1 then nextM r 0 d (p + 1)
    else if m = 3 then nextM r 2 d (p + 1)
    else if m = 2 then (if c.toNat = 92 then nextM r 3 d (p + 1) else if c.toNat = 93 then nextM r 0 d (p + 1) else nextM r 2 d (p + 1))
    else if c.toNat = 92 then nextM r 1 d (p + 1)
    else if c.toNat = 91 then nextM r 2 d (p + 1)
    else if c.toNat = 123 then nextM r 0 (d + 1) (p + 1)
    else if c.toNat = 125 then nextM r 0 (d - 1) (p + 1)
    else if c.toNat = 44 ∧ d = 1 then some p
    else nextM r 0 d (p + 1)

/-- Whether a text is well formed, d braces being open; m besides: 4 a class has just been opened, 5 it is one of what is not in it. -/
def validM : List UInt8 → Nat → Nat → Bool
  | [], m, d => m == 0 && d == 0
  | c :: r, m, d =>
    if m = 1 then validM r 0 d
    else if m = 3 then validM r 2 d
    else if m = 2 then (if c.toNat = 92 then validM r 3 d else if c.toNat = 93 then validM r 0 d else validM r 2 d)
    else if m = 4 then (if c.toNat = 94 then validM r 5 d else if c.toNat = 33 then validM r 5 d else if c.toNat = 93 then false else if c.toNat = 92 then validM r 3 d else validM r 2 d)
    else if m = 5 then (if c.toNat = 93 then false else if c.toNat = 92 then validM r 3 d else validM r 2 d)
    else if c.toNat = 92 then validM r 1 d
    else if c.toNat = 91 then validM r 4 d
    else if c.toNat = 123 then validM r 0 (d + 1)
    else if c.toNat = 125 then (if d = 0 then false else validM r 0 (d - 1))
    else validM r 0 d

/-- Texts that stand for nothing by themselves. -/
def zspec (l : List UInt8) : Bool := l == [] || l == [42] || l == [42, 42] || l == [47, 42, 42] || l == [42, 42, 47] || l == [47, 42, 42, 47]

mutual
/-- Whether a pattern's rest matches nothing, and whether it is malformed (v: if that is asked), in at most so many steps. -/
def zeroF : Nat → List UInt8 → Bool → Option (Bool × Bool)
  | 0, _, _ => none
  | k + 1, l, v =>
    if zspec l = true then some (true, false)
    else match l with
      | [] => some (true, false)
      | c :: s =>
        if c.toNat = 123 then (match closeM s 0 1 0 with
          | none => some (false, true)
          | some ci => zeroAlts k (s.take ci) (s.drop (ci + 1)) v)
        else some (false, v && !validM (c :: s) 0 0)
def zeroAlts : Nat → List UInt8 → List UInt8 → Bool → Option (Bool × Bool)
  | 0, _, _, _ => none
  | k + 1, inner, rest, v =>
    match nextM inner 0 1 0 with
    | none => zeroF k (inner ++ rest) v
    | some j =>
      match zeroF k (inner.take j ++ rest) v with
      | none => none
      | some (b1, b2) => if (b1 || b2) = true then some (b1, b2) else zeroAlts k (inner.drop (j + 1)) rest v
end

theorem closeM_esc (r : List UInt8) (d p : Nat) : closeM r 1 d p = closeM (r.drop 1) 0 d (p + 1) := by
  cases r <;> simp [closeM]
theorem closeM_esc2 (r : List UInt8) (d p : Nat) : closeM r 3 d p = closeM (r.drop 1) 2 d (p + 1) := by
  cases r <;> simp [closeM]
theorem nextM_esc (r : List UInt8) (d : Int) (p : Nat) : nextM r 1 d p = nextM (r.drop 1) 0 d (p + 1) := by
  cases r <;> simp [nextM]
theorem nextM_esc2 (r : List UInt8) (d : Int) (p : Nat) : nextM r 3 d p = nextM (r.drop 1) 2 d (p + 1) := by
  cases r <;> simp [nextM]

theorem closeM_lt : ∀ (l : List UInt8) (m d p j : Nat), closeM l m d p = some j → p ≤ j ∧ j < p + l.length
  | [], m, d, p, j, h => by simp [closeM] at h
  | c :: r, m, d, p, j, h => by
    have ih := fun m d => closeM_lt r m d (p + 1) j
    simp only [List.length_cons]
    rw [closeM] at h
    repeat' split at h
    all_goals first
      | (have := ih _ _ h; omega)
      | (simp only [Option.some.injEq] at h; omega)
theorem nextM_lt : ∀ (l : List UInt8) (m : Nat) (d : Int) (p j : Nat), nextM l m d p = some j → p ≤ j ∧ j < p + l.length
  | [], m, d, p, j, h => by simp [nextM] at h
  | c :: r, m, d, p, j, h => by
    have ih := fun m d => nextM_lt r m d (p + 1) j
    simp only [List.length_cons]
    rw [nextM] at h
    repeat' split at h
    all_goals first
      | (have := ih _ _ h; omega)
      | (simp only [Option.some.injEq] at h; omega)
theorem S_ext (l : List UInt8) (i j : Nat) : (S l).extract i j = S ((l.take j).drop i) := by
  apply ByteArray.ext
  simp [S, ByteArray.data_extract, List.drop_take]
/-- What a search hands back. -/
def place (o : Option Nat) : Int := match o with | none => -1 | some p => p
theorem drop_cons (l : List UInt8) (i : Nat) (c : UInt8) (h : l[i]? = some c) : l.drop i = c :: l.drop (i + 1) := by
  obtain ⟨hi, hc⟩ := List.getElem?_eq_some_iff.1 h
  rw [List.drop_eq_getElem_cons hi, hc]
theorem S_get (l : List UInt8) (i : Nat) (c : UInt8) (h : l[i]? = some c) : ∀ hi : i < (S l).size, (S l)[i] = c := by
  intro hi
  obtain ⟨_, hc⟩ := List.getElem?_eq_some_iff.1 h
  simpa [S, ByteArray.getElem_eq_getElem_data] using hc
end Pl
end Go.Proofs.YthkbkiigpflonaaDoor
