/-
  A pattern's text as a row of pieces, and what the program's looks at it come to: they pass over a piece, a class is looked at to its end, what is said of emptiness is never that it is malformed. No program in sight.
-/
import Derived.Test.YthkbkiigpflonaaDoorPass
import Derived.Test.YthkbkiigpflonaaDoorMatch
namespace Go.Proofs.YthkbkiigpflonaaDoor
namespace Pl

mutual
/-- Whether a class of what is not in it occurs. -/
def neT : Term → Bool
  | .mk k _ _ n _ _ alts => (k == 3 && n) || (k == 4 && neA alts)
def neL : List Term → Bool
  | [] => false
  | t :: r => neT t || neL r
def neA : List (List Term) → Bool
  | [] => false
  | a :: r => neL a || neA r
end

/-- A piece: a term (within alternatives, or beside none), or a slash. -/
inductive Tok where
  | tm (x : Term)
  | top (x : Term)
  | sl
def Tok.text : Tok → List UInt8
  | .tm x => term x
  | .top x => topTerm x
  | .sl => [47]
def Tok.ok : Tok → Bool
  | .tm x => wfT x && !neT x
  | .top x => wfT x && !neT x
  | .sl => true
def Tok.br : Tok → Nat
  | .tm x => brT x
  | .top x => brT x
  | .sl => 0
def txt : List Tok → List UInt8
  | [] => []
  | x :: r => x.text ++ txt r
def okL (l : List Tok) : Bool := l.all Tok.ok
def brs : List Tok → Nat
  | [] => 0
  | x :: r => x.br + brs r
theorem txt_append (a r : List Tok) : txt (a ++ r) = txt a ++ txt r := by
  induction a with
  | nil => rfl
  | cons x a ih => simp [txt, ih]
theorem brs_append (a r : List Tok) : brs (a ++ r) = brs a + brs r := by
  induction a with
  | nil => simp [brs]
  | cons x a ih => simp only [List.cons_append, brs, ih]; omega
theorem txt_terms (a : List Term) : txt (a.map Tok.tm) = terms a := by
  induction a with
  | nil => rfl
  | cons x a ih => simp [txt, terms, ih, Tok.text]
theorem brs_terms (a : List Term) : brs (a.map Tok.tm) = brL a := by
  induction a with
  | nil => rfl
  | cons x a ih => simp [brs, brL, ih, Tok.br]
theorem ok_terms : ∀ (a : List Term) (c : Bool), wfL c a = true → neL a = false → okL (a.map Tok.tm) = true
  | [], _, _, _ => rfl
  | x :: a, c, h, hn => by
    rw [wfL] at h
    simp only [Bool.and_eq_true] at h
    rw [neL, Bool.or_eq_false_iff] at hn
    have := ok_terms a _ h.2 hn.2
    simp only [okL, List.map_cons, List.all_cons, Bool.and_eq_true] at this ⊢
    exact ⟨by simp [Tok.ok, h.1.1, hn.1], this⟩
theorem neA_mem : ∀ (alts : List (List Term)), neA alts = false → ∀ a ∈ alts, neL a = false
  | [], _, _, ha => by cases ha
  | b :: r, h, a, ha => by
    rw [neA, Bool.or_eq_false_iff] at h
    rcases List.mem_cons.1 ha with rfl | ha
    · exact h.1
    · exact neA_mem r h.2 a ha
theorem okL_append (a r : List Tok) : okL (a ++ r) = (okL a && okL r) := by simp [okL]
theorem okL_cons (x : Tok) (r : List Tok) : okL (x :: r) = (x.ok && okL r) := by simp [okL]

/-- What a piece's text is. -/
inductive Form (x : Tok) : Prop where
  | star (h : x.text = [42])
  | one (h : x.text = [63])
  | lit (c : Int) (hf : fine c) (hn : c ≠ 42 ∧ c ≠ 63 ∧ c ≠ 91 ∧ c ≠ 123 ∧ c ≠ 125 ∧ c ≠ 92) (h : x.text = rune c)
  | esc (c : Int) (hf : fine c) (h : x.text = 92 :: rune c)
  | cls (top mark : Bool) (of : List (Int × Int)) (ho : clsOk of = true) (h : x.text = 91 :: (items top mark true of ++ [93]))
  | alt (alts : List (List Term)) (h0 : alts ≠ []) (hw : wfA alts = true) (hn : neA alts = false) (hb : x.br = 1 + brA alts) (h : x.text = 123 :: (altsT true alts ++ [125]))

theorem form_cls (t : Term) (top : Bool) (hn : t.neg = false) : clsText t top = 91 :: (items top t.mark true t.cls ++ [93]) := by
  unfold clsText clsHead
  rw [hn]
  simp
theorem form_term : ∀ (x : Tok) (t : Term), x.text = term t → x.br = brT t → wfT t = true → neT t = false → Form x
  | x, .mk k c esc neg mark cls alts, ht, hb, hw, hn => by
    rw [wfT] at hw
    rw [neT] at hn
    rw [term] at ht
    rw [brT] at hb
    by_cases h0 : k = 0
    · rw [if_pos h0] at hw ht
      have hf := letter_fine' hw
      by_cases hs : (esc || special c) = true
      · rw [if_pos hs] at ht
        exact .esc c hf ht
      · rw [if_neg hs] at ht
        simp only [special, Bool.or_eq_true, beq_iff_eq, not_or] at hs
        exact .lit c hf (by omega) ht
    rw [if_neg h0] at hw ht
    by_cases h1 : k = 1
    · rw [if_pos h1] at ht
      exact .one ht
    rw [if_neg h1] at hw ht
    by_cases h2 : k = 2
    · rw [if_pos h2] at ht
      exact .star ht
    rw [if_neg h2] at hw ht
    by_cases h3 : k = 3
    · rw [if_pos h3] at hw ht
      subst h3
      rw [form_cls (.mk 3 c esc neg mark cls alts) false (by show neg = false; simpa using hn)] at ht
      exact .cls _ _ _ hw ht
    rw [if_neg h3] at hw ht
    by_cases h4 : k = 4
    · rw [if_pos h4] at hw hb
      subst h4
      simp only [Bool.and_eq_true, Bool.not_eq_true', List.isEmpty_eq_false_iff] at hw
      exact .alt alts hw.1 hw.2 (by simpa using hn) hb ht
    · rw [if_neg h4] at hw
      cases hw
theorem form : ∀ (x : Tok), x.ok = true → Form x
  | .tm t, h => by
    simp only [Tok.ok, Bool.and_eq_true, Bool.not_eq_true'] at h
    exact form_term _ t rfl rfl h.1 h.2
  | .top t, h => by
    simp only [Tok.ok, Bool.and_eq_true, Bool.not_eq_true'] at h
    by_cases h1 : t.kind = 0 ∧ t.esc = false ∧ (t.char = 44 ∨ t.char = 93)
    · have e : (Tok.top t).text = rune t.char := by
        show topTerm t = _
        rw [topTerm, if_pos h1]
      exact .lit t.char (by unfold fine; omega) (by omega) e
    · by_cases h3 : t.kind = 3
      · have e : (Tok.top t).text = clsText t true := by
          show topTerm t = _
          rw [topTerm, if_neg h1, if_pos h3]
        obtain ⟨k, c, esc, neg, mark, cls, alts⟩ := t
        simp only [Term.kind] at h3
        subst h3
        have hw := h.1
        have hn := h.2
        rw [wfT] at hw
        rw [neT] at hn
        simp at hw
        simp at hn
        rw [form_cls (.mk 3 c esc neg mark cls alts) true hn] at e
        exact .cls _ _ _ hw e
      · have e : (Tok.top t).text = term t := by
          show topTerm t = _
          rw [topTerm, if_neg h1, if_neg h3]
        exact form_term _ t e rfl h.1 h.2
  | .sl, _ => .lit 47 (by unfold fine; omega) (by omega) (by decide)

theorem dec_ascii (b : UInt8) (t : List UInt8) (h : b.toNat < 128) : dec (b :: t) = (b.toNat, 1) := by
  unfold dec
  rw [if_neg (by simp), Lib.decodeL_N]
  simp only [List.getD_cons_zero]
  unfold Lib.decodeN
  rw [if_pos (by omega)]
theorem dec_rune (c : Int) (h : fine c) (t : List UInt8) : dec (rune c ++ t) = (c.toNat, (rune c).length) := by
  unfold dec
  have := rune_pos c
  rw [if_neg (fun e => by rw [(List.append_eq_nil_iff.1 e).1] at this; simp at this)]
  exact decode_rune c h t
theorem dec_nil : dec [] = (65533, 0) := rfl
theorem dec_pos (l : List UInt8) (h : l ≠ []) : 0 < (dec l).2 ∧ (dec l).2 ≤ l.length := by
  unfold dec
  rw [if_neg h]
  exact ⟨Lib.decodeL_width l, Lib.decodeL_le l h⟩

/-- How a piece begins. -/
theorem form_head {x : Tok} (h : Form x) : ∃ b t, x.text = b :: t ∧ (b.toNat = 42 → x.text = [42]) ∧ (b.toNat = 47 → x.text = [47]) ∧ (b.toNat = 123 → ∃ alts, alts ≠ [] ∧ wfA alts = true ∧ neA alts = false ∧ x.br = 1 + brA alts ∧ x.text = 123 :: (altsT true alts ++ [125])) := by
  cases h with
  | star h => exact ⟨42, [], h, fun _ => h, fun e => absurd e (by decide), fun e => absurd e (by decide)⟩
  | one h => exact ⟨63, [], h, fun e => absurd e (by decide), fun e => absurd e (by decide), fun e => absurd e (by decide)⟩
  | lit c hf hn h =>
    obtain ⟨b, t, hr⟩ : ∃ b t, rune c = b :: t := by
      obtain ⟨b, t, hr, _⟩ := rune_tail hf
      exact ⟨b, t, hr⟩
    have hb : b ∈ rune c := by rw [hr]; simp
    rw [h]
    refine ⟨b, t, hr, fun e => ?_, fun e => ?_, fun e => ?_⟩
    · exact absurd e (rune_ne hf 42 (by omega) (by omega) b hb)
    · rcases rune_byte c hf b hb with ⟨_, h2, h3⟩ | ⟨_, h2⟩
      · rw [h3]
        congr 1
        exact UInt8.toNat_inj.1 e
      · omega
    · exact absurd e (rune_ne hf 123 (by omega) (by omega) b hb)
  | esc c hf h => exact ⟨92, _, h, fun e => absurd e (by decide), fun e => absurd e (by decide), fun e => absurd e (by decide)⟩
  | cls top mark of ho h => exact ⟨91, _, h, fun e => absurd e (by decide), fun e => absurd e (by decide), fun e => absurd e (by decide)⟩
  | alt alts h0 hw hn hb h => exact ⟨123, _, h, fun e => absurd e (by decide), fun e => absurd e (by decide), fun _ => ⟨alts, h0, hw, hn, hb, h⟩⟩

/-- Passed over in a class, whichever. -/
theorem passC_any {c : Int} (h : letter c = true) (p : Bool) : PassC (inClass c p) := by
  have hf := letter_fine' h
  unfold inClass
  split
  · rename_i hs
    simp only [bare, Bool.and_eq_true, Bool.or_eq_true, beq_iff_eq] at hs
    exact passC_all _ fun x hx => ⟨rune_ne hf 92 (by omega) (by omega) x hx, rune_ne hf 93 (by omega) (by omega) x hx⟩
  · have := passC_in h
    unfold inClass at this
    simpa using this
theorem passC_itm (top mark : Bool) (l : List (Int × Int)) : ∀ (first : Bool), (∀ x ∈ l, letter x.1 = true ∧ letter x.2 = true) → PassC (items top mark first l) := by
  induction l with
  | nil => intro _ _; exact PassC.nil
  | cons x r ih =>
    intro first h
    rw [items]
    refine PassC.append ?_ (ih false fun y hy => h y (by simp [hy]))
    unfold item
    refine (passC_any (h x (by simp)).1 _).append ?_
    split
    · exact (passC_one 45 (by decide) (by decide)).append (passC_any (h x (by simp)).2 _)
    · exact PassC.nil
theorem cls_letters {of : List (Int × Int)} (ho : clsOk of = true) : of ≠ [] ∧ ∀ x ∈ of, letter x.1 = true ∧ letter x.2 = true ∧ x.1 ≤ x.2 ∧ x.2 < 1114111 := by
  simp only [clsOk, Bool.and_eq_true, Bool.not_eq_true', List.all_eq_true, decide_eq_true_eq, List.isEmpty_eq_false_iff] at ho
  exact ⟨ho.1, fun x hx => ⟨(ho.2 x hx).1.1.1, (ho.2 x hx).1.1.2, (ho.2 x hx).1.2, (ho.2 x hx).2⟩⟩
theorem items_first {top mark : Bool} {of : List (Int × Int)} (ho : clsOk of = true) : ∃ x t, items top mark true of = x :: t ∧ x.toNat ≠ 93 ∧ x.toNat ≠ 94 ∧ x.toNat ≠ 33 := by
  obtain ⟨h0, hl⟩ := cls_letters ho
  cases of with
  | nil => exact absurd rfl h0
  | cons y ys =>
    obtain ⟨x, t, e, g⟩ := in_first (hl y (by simp)).1
    exact ⟨x, _, by rw [items, item]; simp only [Bool.not_true, Bool.and_false, Bool.false_and]; rw [e]; rfl, g⟩

theorem valid_tok {x : Tok} (h : Form x) (r : List UInt8) (d : Nat) : validM (x.text ++ r) 0 d = validM r 0 d := by
  cases h with
  | star h => rw [h]; exact (pass_one 42 (by decide) (by decide) (by decide) (by decide) (by decide)).valid r d
  | one h => rw [h]; exact (pass_one 63 (by decide) (by decide) (by decide) (by decide) (by decide)).valid r d
  | lit c hf hn h =>
    rw [h]
    have : ∀ (bs : List UInt8), (∀ x ∈ bs, x.toNat ≠ 92 ∧ x.toNat ≠ 91 ∧ x.toNat ≠ 123 ∧ x.toNat ≠ 125) → validM (bs ++ r) 0 d = validM r 0 d := by
      intro bs
      induction bs with
      | nil => intro _; rfl
      | cons b bs ih =>
        intro hb
        obtain ⟨h1, h2, h3, h4⟩ := hb b (by simp)
        rw [List.cons_append, validM, ← ih fun y hy => hb y (by simp [hy])]
        simp [h1, h2, h3, h4]
    exact this _ fun x hx => ⟨rune_ne hf 92 (by omega) (by omega) x hx, rune_ne hf 91 (by omega) (by omega) x hx, rune_ne hf 123 (by omega) (by omega) x hx, rune_ne hf 125 (by omega) (by omega) x hx⟩
  | esc c hf h => rw [h]; exact (pass_esc_rune hf).valid r d
  | cls top mark of ho h =>
    rw [h]
    obtain ⟨x, t, e, g1, g2, g3⟩ := items_first (top := top) (mark := mark) ho
    have hp := passC_itm top mark of true fun x hx => ⟨((cls_letters ho).2 x hx).1, ((cls_letters ho).2 x hx).2.1⟩
    have e1 : validM (items top mark true of ++ (93 :: r)) 2 d = validM r 0 d := by
      rw [hp.valid, validM]
      simp
    rw [List.cons_append, List.append_assoc, validM]
    show validM (items top mark true of ++ (93 :: r)) 4 d = _
    rw [← e1, e, List.cons_append, valid_m4 _ _ _ g1 g2 g3]
  | alt alts h0 hw hn hb h => rw [h]; exact (pass_brace 123 125 rfl rfl _ (passA alts true hw)).valid r d
theorem valid_txt : ∀ (ts : List Tok), okL ts = true → validM (txt ts) 0 0 = true
  | [], _ => rfl
  | x :: r, h => by
    rw [okL_cons, Bool.and_eq_true] at h
    rw [txt, valid_tok (form x h.1)]
    exact valid_txt r h.2

/-- Passed over in the search of a class's end. -/
def PassK (bs : List UInt8) : Prop := ∀ r p, closerM (bs ++ r) false p = closerM r false (p + bs.length)
theorem PassK.nil : PassK [] := fun _ _ => rfl
theorem PassK.append {a b : List UInt8} (x : PassK a) (y : PassK b) : PassK (a ++ b) := fun r p => by
  rw [List.append_assoc, x, y, List.length_append, Nat.add_assoc]
theorem passK_one (x : UInt8) (h1 : x.toNat ≠ 92) (h2 : x.toNat ≠ 93) : PassK [x] := fun r p => by simp [closerM, h1, h2]
theorem passK_all (bs : List UInt8) (h : ∀ x ∈ bs, x.toNat ≠ 92 ∧ x.toNat ≠ 93) : PassK bs := by
  induction bs with
  | nil => exact PassK.nil
  | cons x r ih =>
    have hx := h x (by simp)
    exact (passK_one x hx.1 hx.2).append (ih fun y hy => h y (by simp [hy]))
theorem passK_esc {c : Int} (h : fine c) : PassK (92 :: rune c) := by
  obtain ⟨x, t, hr, ht⟩ := rune_tail h
  rw [hr]
  have : PassK [92, x] := fun r p => by simp [closerM]
  exact this.append (passK_all t fun y hy => by have := ht y hy; omega)
/-- A letter in a class: behind a backslash, or none that means something. -/
theorem in_form (c : Int) (p : Bool) : inClass c p = 92 :: rune c ∨ (inClass c p = rune c ∧ c ≠ 92 ∧ c ≠ 93 ∧ c ≠ 45) := by
  unfold inClass
  split
  · rename_i hs
    simp only [bare, Bool.and_eq_true, Bool.or_eq_true, beq_iff_eq] at hs
    exact .inr ⟨rfl, by omega, by omega, by omega⟩
  split
  · exact .inl rfl
  · rename_i hs
    simp only [inSet, Bool.or_eq_true, beq_iff_eq, not_or] at hs
    exact .inr ⟨rfl, by omega, by omega, by omega⟩
theorem passK_in (c : Int) (p : Bool) (h : letter c = true) : PassK (inClass c p) := by
  have hf := letter_fine' h
  rcases in_form c p with e | ⟨e, h1, h2, _⟩
  · rw [e]; exact passK_esc hf
  · rw [e]
    exact passK_all _ fun x hx => ⟨rune_ne hf 92 (by omega) h1 x hx, rune_ne hf 93 (by omega) h2 x hx⟩
theorem in_pos (c : Int) (p : Bool) : 0 < (inClass c p).length := by
  rcases in_form c p with e | ⟨e, _⟩
  · rw [e]; simp
  · rw [e]; exact rune_pos c

/-- The look at a letter of a class. -/
theorem cls_in (k : Nat) (c : Int) (p : Bool) (h : letter c = true) (T : List UInt8) (last r q : Nat) : clsF (k + 1) (inClass c p ++ T) last r q = if c.toNat = r then some (true, q + (inClass c p).length) else clsF k T c.toNat r (q + (inClass c p).length) := by
  have hf := letter_fine' h
  rcases in_form c p with e | ⟨e, h1, h2, h3⟩
  · rw [e, List.cons_append, clsF]
    dsimp only
    rw [dec_ascii 92 _ (by decide), if_neg (by decide), if_neg (show ¬ UInt8.toNat 92 = 45 by decide)]
    rw [show (UInt8.toNat 92) = 92 from rfl, if_pos rfl]
    simp only [List.drop_succ_cons, List.drop_zero]
    rw [dec_rune c hf, Nat.add_comm 1 (rune c).length]
    simp only [List.drop_succ_cons, List.drop_left, List.length_cons]
  · rw [e]
    obtain ⟨b, t, hr⟩ : ∃ b t, rune c = b :: t := by
      obtain ⟨b, t, hr, _⟩ := rune_tail hf
      exact ⟨b, t, hr⟩
    have hb : b ∈ rune c := by rw [hr]; simp
    have h93 := rune_ne hf 93 (by omega) h2 b hb
    have hd := dec_rune c hf T
    have hdr : (rune c ++ T).drop (rune c).length = T := List.drop_left
    rw [hr, List.cons_append] at hd hdr ⊢
    have hc0 : 0 ≤ c := hf.1
    rw [clsF]
    dsimp only
    have g1 : ¬ c.toNat = 45 := by omega
    have g2 : ¬ c.toNat = 92 := by omega
    simp only [hd, h93, g1, g2, if_false, false_and, and_false, List.drop_zero, Nat.zero_add]
    rw [hdr]
/-- The look at a range of a class. -/
theorem cls_range (k : Nat) (c : Int) (p : Bool) (h : letter c = true) (T : List UInt8) (last r q : Nat) (hl : last < 1114111) : clsF (k + 1) (45 :: (inClass c p ++ T)) last r q = if last ≤ r ∧ r ≤ c.toNat then some (true, q + (1 + (inClass c p).length)) else clsF k T 1114111 r (q + (1 + (inClass c p).length)) := by
  have hf := letter_fine' h
  obtain ⟨b, t, hr, _⟩ := rune_tail hf
  have hb : b ∈ rune c := by rw [hr]; simp
  rw [clsF]
  dsimp only
  rw [dec_ascii 45 _ (by decide), if_neg (by decide), if_pos (show UInt8.toNat 45 = 45 by decide)]
  simp only [List.drop_succ_cons, List.drop_zero]
  rcases in_form c p with e | ⟨e, h1, h2, h3⟩
  · rw [e, List.cons_append, if_pos ⟨hl, by simp, by simp⟩]
    simp only [List.head?_cons, if_true]
    show (if last ≤ r ∧ r ≤ (dec (rune c ++ T)).1 then some (true, q + (1 + 1 + (dec (rune c ++ T)).2)) else clsF k ((45 :: 92 :: (rune c ++ T)).drop (1 + 1 + (dec (rune c ++ T)).2)) 1114111 r (q + (1 + 1 + (dec (rune c ++ T)).2))) = _
    rw [dec_rune c hf]
    have e1 : 1 + 1 + (rune c).length = (rune c).length + 2 := by omega
    have e2 : 1 + (92 :: rune c).length = (rune c).length + 2 := by simp; omega
    rw [e1, e2]
    simp only [List.drop_succ_cons, List.drop_left]
  · have n92 := rune_ne hf 92 (by omega) h1 b hb
    have n93 := rune_ne hf 93 (by omega) h2 b hb
    have hh : (rune c ++ T).head? = some b := by rw [hr]; rfl
    rw [e, hh, if_pos ⟨hl, by rw [hr]; simp, by intro e; simp only [Option.some.injEq] at e; rw [e] at n93; exact n93 rfl⟩]
    have hne : ¬ (some b = some (92 : UInt8)) := by intro e; simp only [Option.some.injEq] at e; rw [e] at n92; exact n92 rfl
    simp only [if_neg hne]
    show (if last ≤ r ∧ r ≤ (dec (rune c ++ T)).1 then some (true, q + (1 + 0 + (dec (rune c ++ T)).2)) else clsF k ((45 :: (rune c ++ T)).drop (1 + 0 + (dec (rune c ++ T)).2)) 1114111 r (q + (1 + 0 + (dec (rune c ++ T)).2))) = _
    rw [dec_rune c hf]
    have e1 : 1 + (rune c).length = (rune c).length + 1 := by omega
    simp only [Nat.add_zero, e1]
    simp only [List.drop_succ_cons, List.drop_left]

/-- The look at a class: it ends at the bracket that closes, or within, from where that bracket is found. -/
theorem cls_law (top mark : Bool) (r : Nat) (R : List UInt8) : ∀ (of : List (Int × Int)) (first : Bool) (last k q : Nat), (∀ x ∈ of, letter x.1 = true ∧ letter x.2 = true ∧ x.1 ≤ x.2 ∧ x.2 < 1114111) → (items top mark first of).length < k →
    ∃ m n, clsF k (items top mark first of ++ 93 :: R) last r q = some (m, q + n) ∧ n ≤ (items top mark first of).length ∧ (m = false → n = (items top mark first of).length) ∧ closerM ((items top mark first of ++ 93 :: R).drop n) false 0 = some ((items top mark first of).length - n)
  | [], first, last, k, q, _, hk => by
    obtain ⟨k, rfl⟩ : ∃ k', k = k' + 1 := ⟨k - 1, by omega⟩
    refine ⟨false, 0, ?_, by simp, fun _ => by simp [items], ?_⟩
    · rw [items, List.nil_append, clsF]
      simp
    · simp [items, closerM]
  | x :: of, first, last, k, q, h, hk => by
    have hx := h x (by simp)
    have hx1 := in_pos x.1 (top && !first && !mark)
    have ih := fun last k q hk => cls_law top mark r R of false last k q (fun y hy => h y (by simp [hy])) hk
    have hK : PassK (items top mark false of) := by
      have : ∀ (l : List (Int × Int)) (f : Bool), (∀ x ∈ l, letter x.1 = true ∧ letter x.2 = true ∧ x.1 ≤ x.2 ∧ x.2 < 1114111) → PassK (items top mark f l) := by
        intro l
        induction l with
        | nil => intro _ _; exact PassK.nil
        | cons y l ih =>
          intro f hl
          rw [items, item]
          refine PassK.append ((passK_in _ _ (hl y (by simp)).1).append ?_) (ih false fun z hz => hl z (by simp [hz]))
          split
          · exact (passK_one 45 (by decide) (by decide)).append (passK_in _ _ (hl y (by simp)).2.1)
          · exact PassK.nil
      exact this of false fun y hy => h y (by simp [hy])
    rw [items] at hk ⊢
    unfold item at hk ⊢
    have hle : x.1.toNat < 1114111 := by omega
    have hA := passK_in x.1 (top && !first && !mark) hx.1
    have hcl : ∀ p : Nat, closerM (items top mark false of ++ 93 :: R) false p = some (p + (items top mark false of).length) := fun p => by
      rw [hK, closerM]
      simp
    obtain ⟨k, rfl⟩ : ∃ k', k = k' + 1 := ⟨k - 1, by omega⟩
    by_cases hm : (x.1 != x.2 || mark) = true
    · rw [if_pos hm] at hk ⊢
      have hx2 := in_pos x.2 (top && !mark)
      have hB := passK_in x.2 (top && !mark) hx.2.1
      have hBK : PassK (45 :: inClass x.2 (top && !mark)) := (passK_one 45 (by decide) (by decide)).append hB
      have e0 : inClass x.1 (top && !first && !mark) ++ 45 :: inClass x.2 (top && !mark) ++ items top mark false of ++ 93 :: R = inClass x.1 (top && !first && !mark) ++ (45 :: (inClass x.2 (top && !mark) ++ (items top mark false of ++ 93 :: R))) := by simp
      rw [e0, cls_in _ _ _ hx.1]
      simp only [List.length_append, List.length_cons] at hk ⊢
      generalize inClass x.1 (top && !first && !mark) = A at *
      have hb1 : ∀ p, closerM (45 :: (inClass x.2 (top && !mark) ++ (items top mark false of ++ 93 :: R))) false p = some (p + (1 + (inClass x.2 (top && !mark)).length) + (items top mark false of).length) := fun p => by
        have := hBK (items top mark false of ++ 93 :: R) p
        rw [List.cons_append] at this
        rw [this, hcl]
        simp only [List.length_cons]
        congr 1
        omega
      by_cases h1 : x.1.toNat = r
      · rw [if_pos h1]
        refine ⟨true, A.length, rfl, by omega, (fun h => by cases h), ?_⟩
        rw [List.drop_left, hb1]
        congr 1
        omega
      rw [if_neg h1]
      obtain ⟨k, rfl⟩ : ∃ k', k = k' + 1 := ⟨k - 1, by omega⟩
      rw [cls_range _ _ _ hx.2.1 _ _ _ _ hle]
      generalize inClass x.2 (top && !mark) = B at *
      have e1 : (A ++ 45 :: (B ++ (items top mark false of ++ 93 :: R))) = (A ++ 45 :: B) ++ (items top mark false of ++ 93 :: R) := by simp
      have e2 : (A ++ 45 :: B).length = A.length + (1 + B.length) := by simp; omega
      by_cases h2 : x.1.toNat ≤ r ∧ r ≤ x.2.toNat
      · rw [if_pos h2]
        refine ⟨true, A.length + (1 + B.length), by rw [Nat.add_assoc], by omega, (fun h => by cases h), ?_⟩
        rw [e1, ← e2, List.drop_left, hcl]
        congr 1
        omega
      rw [if_neg h2]
      obtain ⟨m, n, g1, g2, g3, g4⟩ := ih 1114111 k (q + A.length + (1 + B.length)) (by omega)
      refine ⟨m, A.length + (1 + B.length) + n, by rw [g1]; congr 2; omega, by omega, (fun h => by rw [g3 h]; omega), ?_⟩
      rw [e1, ← e2, ← List.drop_drop, List.drop_left, g4]
      congr 1
      omega
    · rw [if_neg hm] at hk ⊢
      have e0 : inClass x.1 (top && !first && !mark) ++ [] ++ items top mark false of ++ 93 :: R = inClass x.1 (top && !first && !mark) ++ (items top mark false of ++ 93 :: R) := by simp
      rw [e0, cls_in _ _ _ hx.1]
      simp only [List.length_append, List.append_nil] at hk ⊢
      generalize inClass x.1 (top && !first && !mark) = A at *
      by_cases h1 : x.1.toNat = r
      · rw [if_pos h1]
        refine ⟨true, A.length, rfl, by omega, (fun h => by cases h), ?_⟩
        rw [List.drop_left, hcl]
        congr 1
        omega
      rw [if_neg h1]
      obtain ⟨m, n, g1, g2, g3, g4⟩ := ih x.1.toNat k (q + A.length) (by omega)
      refine ⟨m, A.length + n, by rw [g1]; congr 2; omega, by omega, (fun h => by rw [g3 h]), ?_⟩
      rw [← List.drop_drop, List.drop_left, g4]
      congr 1
      omega
end Pl
end Go.Proofs.YthkbkiigpflonaaDoor
