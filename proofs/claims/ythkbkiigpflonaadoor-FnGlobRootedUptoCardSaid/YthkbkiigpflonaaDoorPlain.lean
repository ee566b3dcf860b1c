/-
  The plain data and functions of this claim: a pattern's terms as a tree, their text, and what the reference says of them. No program in sight.
-/
import Derived.Lib.OthersKept
import Derived.Lib.Strings
import Derived.Laws.Concat
import Derived.Laws.Cover4
namespace Go.Proofs.YthkbkiigpflonaaDoor
namespace Pl

/-- A term of a pattern: kind, letter, 'behind a backslash', 'not', 'as a range', the class, the alternatives. -/
inductive Term where
  | mk (kind : Int) (char : Int) (esc neg mark : Bool) (cls : List (Int × Int)) (alts : List (List Term))

def Term.kind : Term → Int | .mk k _ _ _ _ _ _ => k
def Term.char : Term → Int | .mk _ c _ _ _ _ _ => c
def Term.esc : Term → Bool | .mk _ _ e _ _ _ _ => e
def Term.neg : Term → Bool | .mk _ _ _ n _ _ _ => n
def Term.mark : Term → Bool | .mk _ _ _ _ m _ _ => m
def Term.cls : Term → List (Int × Int) | .mk _ _ _ _ _ o _ => o
def Term.alts : Term → List (List Term) | .mk _ _ _ _ _ _ a => a

/-- A text as the program has it. -/
def S (l : List UInt8) : ByteArray := ⟨l.toArray⟩
theorem S_nil : S [] = ⟨#[]⟩ := rfl
theorem lit0 : (⟨#[]⟩ : ByteArray) = S [] := rfl
theorem lit1 (a : UInt8) : (⟨#[a]⟩ : ByteArray) = S [a] := rfl
theorem lit2 (a b : UInt8) : (⟨#[a, b]⟩ : ByteArray) = S [a, b] := rfl
theorem S_add (x y : List UInt8) : S x ++ S y = S (x ++ y) := ByteArray.mk_append_mk x y
theorem S_size (x : List UInt8) : (S x).size = x.length := by simp [S, ByteArray.size]
theorem ba_assoc (a b c : ByteArray) : a ++ b ++ c = a ++ (b ++ c) := by
  apply ByteArray.ext
  simp [ByteArray.data_append, Array.append_assoc]
theorem S_data (b : ByteArray) : S b.data.toList = b := by cases b; simp [S]

/-- A letter that is written behind a backslash always. -/
def special (c : Int) : Bool := c == 42 || c == 63 || c == 91 || c == 93 || c == 123 || c == 125 || c == 44 || c == 92
/-- A letter of names. -/
def letter (c : Int) : Bool := decide (0 < c) && decide (c ≤ 1114111) && (decide (c < 55296) || decide (57343 < c)) && c != 65533 && c != 47
/-- A letter's bytes. -/
def rune (c : Int) : List UInt8 := (Utf8.encode c).data.toList
theorem S_rune (c : Int) : S (rune c) = Utf8.encode c := S_data _
theorem rune_le (c : Int) : (rune c).length ≤ 4 := by
  have := encode_size_le c
  rw [← S_rune, S_size] at this
  exact this

/-- A letter that is written behind a backslash in a class. -/
def inSet (c : Int) : Bool := c == 92 || c == 45 || c == 93 || c == 91 || c == 94 || c == 33 || c == 44 || c == 123 || c == 125
def bare (c : Int) : Bool := c == 94 || c == 33 || c == 44
/-- A letter as it is written in a class. -/
def inClass (c : Int) (plain : Bool) : List UInt8 := if plain && bare c then rune c else if inSet c then 92 :: rune c else rune c

theorem inClass_le (c : Int) (p : Bool) : (S (inClass c p)).size ≤ 5 := by
  have := rune_le c
  rw [S_size]
  unfold inClass
  split
  · omega
  · split
    · simp; omega
    · omega

/-- One range of a class, as it is written. -/
def item (first top mark : Bool) (x : Int × Int) : List UInt8 :=
  inClass x.1 (top && !first && !mark) ++ if x.1 != x.2 || mark then 45 :: inClass x.2 (top && !mark) else []
def items (top mark : Bool) : Bool → List (Int × Int) → List UInt8
  | _, [] => []
  | first, x :: r => item first top mark x ++ items top mark false r
def clsHead (neg esc : Bool) : List UInt8 := if neg then (if esc then [91, 33] else [91, 94]) else [91]
/-- A class as it is written. -/
def clsText (t : Term) (top : Bool) : List UInt8 := clsHead t.neg t.esc ++ items top t.mark true t.cls ++ [93]

theorem items_snoc (top mark : Bool) (l : List (Int × Int)) (x : Int × Int) (first : Bool) : items top mark first (l ++ [x]) = items top mark first l ++ item (first && l.isEmpty) top mark x := by
  induction l generalizing first with
  | nil => simp [items]
  | cons y r ih => simp [items, ih]

theorem items_append (top mark : Bool) (l r : List (Int × Int)) (first : Bool) : items top mark first (l ++ r) = items top mark first l ++ items top mark (first && l.isEmpty) r := by
  induction l generalizing first with
  | nil => simp [items]
  | cons y t ih => simp [items, ih]

theorem items_take (top mark : Bool) (l : List (Int × Int)) (k : Nat) (x : Int × Int) (h : l[k]? = some x) :
    items top mark true (l.take (k + 1)) = items top mark true (l.take k) ++ item (decide (k = 0)) top mark x := by
  obtain ⟨hk, hx⟩ := List.getElem?_eq_some_iff.1 h
  rw [List.take_succ_eq_append_getElem hk, hx, items_snoc]
  congr 2
  cases k with
  | zero => simp
  | succ k =>
    cases l with
    | nil => simp at hk
    | cons => simp

mutual
/-- A term as it is written. -/
def term : Term → List UInt8
  | .mk k c e n m cls alts => if k = 0 then (if e || special c then [92] else []) ++ rune c else if k = 1 then [63] else if k = 2 then [42] else if k = 3 then clsText (.mk k c e n m cls alts) false else 123 :: (altsT true alts ++ [125])
/-- Terms as they are written. -/
def terms : List Term → List UInt8
  | [] => []
  | t :: r => term t ++ terms r
/-- Alternatives as they are written, with commas between. -/
def altsT : Bool → List (List Term) → List UInt8
  | _, [] => []
  | first, a :: r => (if first then [] else [44]) ++ (terms a ++ altsT false r)
end

theorem terms_append (l r : List Term) : terms (l ++ r) = terms l ++ terms r := by
  induction l with
  | nil => simp [terms]
  | cons t l ih => simp [terms, ih]

theorem terms_take (l : List Term) (q : Nat) (t : Term) (h : l[q]? = some t) : terms (l.take (q + 1)) = terms (l.take q) ++ term t := by
  obtain ⟨hk, hx⟩ := List.getElem?_eq_some_iff.1 h
  rw [List.take_succ_eq_append_getElem hk, hx, terms_append]
  simp [terms]

theorem terms_le (l : List Term) (q : Nat) (t : Term) (h : l[q]? = some t) : (terms (l.take q)).length + (term t).length ≤ (terms l).length := by
  have e : terms l = terms (l.take (q + 1)) ++ terms (l.drop (q + 1)) := by rw [← terms_append, List.take_append_drop]
  rw [e, terms_take l q t h]
  simp only [List.length_append]
  omega

theorem altsT_append (l r : List (List Term)) (first : Bool) : altsT first (l ++ r) = altsT first l ++ altsT (first && l.isEmpty) r := by
  induction l generalizing first with
  | nil => simp [altsT]
  | cons t l ih => simp [altsT, ih]

theorem altsT_take (l : List (List Term)) (q : Nat) (a : List Term) (h : l[q]? = some a) : altsT true (l.take (q + 1)) = altsT true (l.take q) ++ ((if q = 0 then [] else [44]) ++ terms a) := by
  obtain ⟨hk, hx⟩ := List.getElem?_eq_some_iff.1 h
  rw [List.take_succ_eq_append_getElem hk, hx, altsT_append]
  congr 1
  cases q with
  | zero => simp [altsT]
  | succ q =>
    cases l with
    | nil => simp at hk
    | cons => simp [altsT]

theorem altsT_le (l : List (List Term)) (q : Nat) (a : List Term) (h : l[q]? = some a) : (altsT true (l.take q)).length + (terms a).length ≤ (altsT true l).length := by
  have e : altsT true l = altsT true (l.take (q + 1)) ++ altsT (true && (l.take (q + 1)).isEmpty) (l.drop (q + 1)) := by rw [← altsT_append, List.take_append_drop]
  rw [e, altsT_take l q a h]
  simp only [List.length_append]
  omega

theorem altsT_take_le (l : List (List Term)) (q : Nat) : (altsT true (l.take q)).length ≤ (altsT true l).length := by
  have e : altsT true l = altsT true (l.take q) ++ altsT (true && (l.take q).isEmpty) (l.drop q) := by rw [← altsT_append, List.take_append_drop]
  rw [e]
  simp only [List.length_append]
  omega

/-- A class that may be. -/
def clsOk (cls : List (Int × Int)) : Bool := !cls.isEmpty && cls.all fun x => letter x.1 && letter x.2 && decide (x.1 ≤ x.2) && decide (x.2 < 1114111)

mutual
/-- The reference's look at one term: whether it begins and ends with any letters, whether it may be nothing, how many terms may still come; none: it may not be. -/
def gTerm : Term → Nat → Int → Option (Bool × Bool × Bool × Int)
  | .mk k c _ _ _ cls alts, deep, left =>
    if k = 0 then (if letter c then some (false, false, false, left) else none)
    else if k = 1 then some (false, false, false, left)
    else if k = 2 then some (true, true, true, left)
    else if k = 3 then (if clsOk cls then some (false, false, false, left) else none)
    else if k = 4 then (if alts.isEmpty || decide (deep < 1) then none else gAlts alts (deep - 1) left false false false)
    else none
def gEnds : List Term → Nat → Int → Bool → Bool → Bool → Option (Bool × Bool × Bool × Int)
  | [], _, left, s, e, n => some (s, e, n, left)
  | t :: r, deep, left, s, e, n =>
    if left - 1 < 0 then none
    else match gTerm t deep (left - 1) with
      | none => none
      | some (s', e', n', left') => if e && (s' || t.kind == 4) then none else gEnds r deep left' (s || n && s') (e' || n' && e) (n && n')
def gAlts : List (List Term) → Nat → Int → Bool → Bool → Bool → Option (Bool × Bool × Bool × Int)
  | [], _, left, s, e, n => some (s, e, n, left)
  | a :: r, deep, left, s, e, n =>
    if left - 1 < 0 then none
    else match gEnds a deep (left - 1) false false true with
      | none => none
      | some (s', e', n', left') => gAlts r deep left' (s || s') (e || e') (n || n')
end

/-- A term as it is written beside no alternatives. -/
def topTerm (t : Term) : List UInt8 := if t.kind = 0 ∧ t.esc = false ∧ (t.char = 44 ∨ t.char = 93) then rune t.char else if t.kind = 3 then clsText t true else term t
def topT : List Term → List UInt8
  | [] => []
  | t :: r => topTerm t ++ topT r

theorem topT_append (l r : List Term) : topT (l ++ r) = topT l ++ topT r := by
  induction l with
  | nil => simp [topT]
  | cons t l ih => simp [topT, ih]

theorem topT_take (l : List Term) (q : Nat) (t : Term) (h : l[q]? = some t) : topT (l.take (q + 1)) = topT (l.take q) ++ topTerm t := by
  obtain ⟨hk, hx⟩ := List.getElem?_eq_some_iff.1 h
  rw [List.take_succ_eq_append_getElem hk, hx, topT_append]
  simp [topT]

theorem topT_le (l : List Term) (q : Nat) (t : Term) (h : l[q]? = some t) : (topT (l.take q)).length + (topTerm t).length ≤ (topT l).length := by
  have e : topT l = topT (l.take (q + 1)) ++ topT (l.drop (q + 1)) := by rw [← topT_append, List.take_append_drop]
  rw [e, topT_take l q t h]
  simp only [List.length_append]
  omega

/-- What stands between two slashes. -/
structure Part where
  any : Bool
  terms : List Term

/-- Terms that may be a pattern's, at any depth and with any number left. -/
def okTerms (l : List Term) : Prop := ∃ deep left r, gEnds l deep left false false true = some r
/-- What the reference's look at a pattern says of it, if it says yes. -/
def right (ps : List Part) : Prop := 0 < ps.length ∧ ∀ p ∈ ps, p.any = false → p.terms ≠ [] ∧ okTerms p.terms

def partT (p : Part) : List UInt8 := if p.any then [42, 42] else topT p.terms
/-- A pattern as it is written. -/
def asT : Bool → List Part → List UInt8
  | _, [] => []
  | first, p :: r => (if first then [] else [47]) ++ (partT p ++ asT false r)

theorem asT_append (l r : List Part) (first : Bool) : asT first (l ++ r) = asT first l ++ asT (first && l.isEmpty) r := by
  induction l generalizing first with
  | nil => simp [asT]
  | cons t l ih => simp [asT, ih]

theorem asT_take (l : List Part) (q : Nat) (a : Part) (h : l[q]? = some a) : asT true (l.take (q + 1)) = asT true (l.take q) ++ ((if q = 0 then [] else [47]) ++ partT a) := by
  obtain ⟨hk, hx⟩ := List.getElem?_eq_some_iff.1 h
  rw [List.take_succ_eq_append_getElem hk, hx, asT_append]
  congr 1
  cases q with
  | zero => simp [asT]
  | succ q =>
    cases l with
    | nil => simp at hk
    | cons => simp [asT]

theorem asT_le (l : List Part) (q : Nat) (a : Part) (h : l[q]? = some a) : (asT true (l.take q)).length + (partT a).length ≤ (asT true l).length := by
  have e : asT true l = asT true (l.take (q + 1)) ++ asT (true && (l.take (q + 1)).isEmpty) (l.drop (q + 1)) := by rw [← asT_append, List.take_append_drop]
  rw [e, asT_take l q a h]
  simp only [List.length_append]
  omega

/-- A term that may be a pattern's. -/
def okTerm (t : Term) : Prop := ∃ deep left r, gTerm t deep left = some r

theorem gEnds_cons {t : Term} {l : List Term} {deep : Nat} {left : Int} {s e n : Bool} {r : Bool × Bool × Bool × Int} (h : gEnds (t :: l) deep left s e n = some r) :
    ∃ s' e' n' left', gTerm t deep (left - 1) = some (s', e', n', left') ∧ (e && (s' || t.kind == 4)) = false ∧ gEnds l deep left' (s || n && s') (e' || n' && e) (n && n') = some r := by
  rw [gEnds] at h
  split at h
  · cases h
  · split at h
    · cases h
    · rename_i s' e' n' left' hg
      split at h
      · cases h
      · rename_i hb
        exact ⟨s', e', n', left', hg, by simpa using hb, h⟩

theorem ends_mem : ∀ (l : List Term) (deep : Nat) (left : Int) (s e n : Bool) (r : Bool × Bool × Bool × Int), gEnds l deep left s e n = some r → ∀ t ∈ l, okTerm t
  | [], _, _, _, _, _, _, _ => fun _ ht => by cases ht
  | x :: l, deep, left, s, e, n, r, h => by
    obtain ⟨s', e', n', left', hg, _, hr⟩ := gEnds_cons h
    intro t ht
    rcases List.mem_cons.1 ht with rfl | ht
    · exact ⟨_, _, _, hg⟩
    · exact ends_mem l _ _ _ _ _ _ hr t ht

theorem ok_mem {l : List Term} (h : okTerms l) : ∀ t ∈ l, okTerm t := by
  obtain ⟨deep, left, r, hr⟩ := h
  exact ends_mem l _ _ _ _ _ _ hr

end Pl
end Go.Proofs.YthkbkiigpflonaaDoor
