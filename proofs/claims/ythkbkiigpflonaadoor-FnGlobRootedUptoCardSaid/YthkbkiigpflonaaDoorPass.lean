/-
  The searches pass over a term's text: behind it they stand as ahead of it. And what is said of a pattern's emptiness. No program in sight.
-/
import Derived.Test.YthkbkiigpflonaaDoorFlat
import Derived.Test.YthkbkiigpflonaaDoorScan
import Derived.Test.YthkbkiigpflonaaDoorRunes
namespace Go.Proofs.YthkbkiigpflonaaDoor
namespace Pl

/-- Passed over outside of classes. -/
structure Pass (bs : List UInt8) : Prop where
  close : ∀ r d p, 1 ≤ d → closeM (bs ++ r) 0 d p = closeM r 0 d (p + bs.length)
  next : ∀ r (d : Int) p, 1 ≤ d → nextM (bs ++ r) 0 d p = nextM r 0 d (p + bs.length)
  valid : ∀ r d, validM (bs ++ r) 0 d = validM r 0 d
/-- Passed over in braces. -/
structure PassA (bs : List UInt8) : Prop where
  close : ∀ r d p, 1 ≤ d → closeM (bs ++ r) 0 d p = closeM r 0 d (p + bs.length)
  next : ∀ r (d : Int) p, 2 ≤ d → nextM (bs ++ r) 0 d p = nextM r 0 d (p + bs.length)
  valid : ∀ r d, validM (bs ++ r) 0 d = validM r 0 d
/-- Passed over in a class. -/
structure PassC (bs : List UInt8) : Prop where
  close : ∀ r d p, closeM (bs ++ r) 2 d p = closeM r 2 d (p + bs.length)
  next : ∀ r (d : Int) p, nextM (bs ++ r) 2 d p = nextM r 2 d (p + bs.length)
  valid : ∀ r d, validM (bs ++ r) 2 d = validM r 2 d

theorem Pass.nil : Pass [] := ⟨fun _ _ _ _ => rfl, fun _ _ _ _ => rfl, fun _ _ => rfl⟩
theorem PassA.nil : PassA [] := ⟨fun _ _ _ _ => rfl, fun _ _ _ _ => rfl, fun _ _ => rfl⟩
theorem PassC.nil : PassC [] := ⟨fun _ _ _ => rfl, fun _ _ _ => rfl, fun _ _ => rfl⟩
theorem Pass.append {a b : List UInt8} (x : Pass a) (y : Pass b) : Pass (a ++ b) :=
  ⟨fun r d p h => by rw [List.append_assoc, x.close _ _ _ h, y.close _ _ _ h, List.length_append, Nat.add_assoc],
   fun r d p h => by rw [List.append_assoc, x.next _ _ _ h, y.next _ _ _ h, List.length_append, Nat.add_assoc],
   fun r d => by rw [List.append_assoc, x.valid, y.valid]⟩
theorem PassA.append {a b : List UInt8} (x : PassA a) (y : PassA b) : PassA (a ++ b) :=
  ⟨fun r d p h => by rw [List.append_assoc, x.close _ _ _ h, y.close _ _ _ h, List.length_append, Nat.add_assoc],
   fun r d p h => by rw [List.append_assoc, x.next _ _ _ h, y.next _ _ _ h, List.length_append, Nat.add_assoc],
   fun r d => by rw [List.append_assoc, x.valid, y.valid]⟩
theorem PassC.append {a b : List UInt8} (x : PassC a) (y : PassC b) : PassC (a ++ b) :=
  ⟨fun r d p => by rw [List.append_assoc, x.close, y.close, List.length_append, Nat.add_assoc],
   fun r d p => by rw [List.append_assoc, x.next, y.next, List.length_append, Nat.add_assoc],
   fun r d => by rw [List.append_assoc, x.valid, y.valid]⟩
theorem Pass.inA {a : List UInt8} (x : Pass a) : PassA a := ⟨x.close, fun r d p h => x.next r d p (by omega), x.valid⟩

theorem pass_one (x : UInt8) (h1 : x.toNat ≠ 92) (h2 : x.toNat ≠ 91) (h3 : x.toNat ≠ 123) (h4 : x.toNat ≠ 125) (h5 : x.toNat ≠ 44) : Pass [x] :=
  ⟨fun r d p _ => by simp [closeM, h1, h2, h3, h4], fun r d p _ => by simp [nextM, h1, h2, h3, h4, h5], fun r d => by simp [validM, h1, h2, h3, h4]⟩
theorem pass_esc (e x : UInt8) (h : e.toNat = 92) : Pass [e, x] :=
  ⟨fun r d p _ => by simp [closeM, h], fun r d p _ => by simp [nextM, h], fun r d => by simp [validM, h]⟩
theorem pass_comma (x : UInt8) (h : x.toNat = 44) : PassA [x] :=
  ⟨fun r d p _ => by simp [closeM, h], fun r d p hd => by
    have : ¬ d = 1 := by omega
    simp [nextM, h, this], fun r d => by simp [validM, h]⟩
theorem passC_one (x : UInt8) (h1 : x.toNat ≠ 92) (h2 : x.toNat ≠ 93) : PassC [x] :=
  ⟨fun r d p => by simp [closeM, h1, h2], fun r d p => by simp [nextM, h1, h2], fun r d => by simp [validM, h1, h2]⟩
theorem passC_esc (e x : UInt8) (h : e.toNat = 92) : PassC [e, x] :=
  ⟨fun r d p => by simp [closeM, h], fun r d p => by simp [nextM, h], fun r d => by simp [validM, h]⟩
theorem pass_all (bs : List UInt8) (h : ∀ x ∈ bs, x.toNat ≠ 92 ∧ x.toNat ≠ 91 ∧ x.toNat ≠ 123 ∧ x.toNat ≠ 125 ∧ x.toNat ≠ 44) : Pass bs := by
  induction bs with
  | nil => exact Pass.nil
  | cons x r ih =>
    have hx := h x (by simp)
    exact (pass_one x hx.1 hx.2.1 hx.2.2.1 hx.2.2.2.1 hx.2.2.2.2).append (ih fun y hy => h y (by simp [hy]))
theorem passC_all (bs : List UInt8) (h : ∀ x ∈ bs, x.toNat ≠ 92 ∧ x.toNat ≠ 93) : PassC bs := by
  induction bs with
  | nil => exact PassC.nil
  | cons x r ih =>
    have hx := h x (by simp)
    exact (passC_one x hx.1 hx.2).append (ih fun y hy => h y (by simp [hy]))
theorem pass_brace (o c : UInt8) (ho : o.toNat = 123) (hc : c.toNat = 125) (bs : List UInt8) (h : PassA bs) : Pass (o :: (bs ++ [c])) := by
  refine ⟨fun r d p hd => ?_, fun r d p hd => ?_, fun r d => ?_⟩
  · have hd1 : ¬ (d + 1 = 1) := by omega
    rw [List.cons_append, closeM]
    simp only [ho]
    simp only [List.append_assoc]
    show closeM (bs ++ ([c] ++ r)) 0 (d + 1) (p + 1) = _
    rw [h.close _ _ _ (by omega), List.singleton_append, closeM]
    simp [hc]
    try rw [if_neg (by omega)]
    try (congr 1; omega)
  · rw [List.cons_append, nextM]
    simp only [ho]
    simp only [List.append_assoc]
    show nextM (bs ++ ([c] ++ r)) 0 (d + 1) (p + 1) = _
    rw [h.next _ _ _ (by omega), List.singleton_append, nextM]
    simp [hc]
    try (congr 1; omega)
  · rw [List.cons_append, validM]
    simp only [ho]
    simp only [List.append_assoc]
    show validM (bs ++ ([c] ++ r)) 0 (d + 1) = _
    rw [h.valid, List.singleton_append, validM]
    simp [hc]

/-- A letter's bytes keep away from a byte that it is not. -/
theorem rune_ne {c : Int} (h : fine c) (n : Nat) (hn : n < 128) (hc : c ≠ n) : ∀ x ∈ rune c, x.toNat ≠ n := by
  intro x hx
  rcases rune_byte c h x hx with ⟨_, h2, _⟩ | ⟨_, h2⟩
  · omega
  · omega
/-- Behind a letter's first byte nothing is amiss. -/
theorem rune_tail {c : Int} (h : fine c) : ∃ x t, rune c = x :: t ∧ ∀ y ∈ t, 128 ≤ y.toNat := by
  have hp := rune_pos c
  match hr : rune c with
  | [] => rw [hr] at hp; simp at hp
  | x :: t =>
    refine ⟨x, t, rfl, fun y hy => ?_⟩
    rcases rune_byte c h y (by rw [hr]; simp [hy]) with ⟨_, _, h3⟩ | ⟨_, h3⟩
    · rw [hr] at h3
      simp only [List.cons.injEq] at h3
      rw [h3.2] at hy
      cases hy
    · exact h3
theorem pass_esc_rune {c : Int} (h : fine c) : Pass (92 :: rune c) := by
  obtain ⟨x, t, hr, ht⟩ := rune_tail h
  rw [hr]
  exact (pass_esc 92 x rfl).append (pass_all t fun y hy => by have := ht y hy; omega)
theorem passC_esc_rune {c : Int} (h : fine c) : PassC (92 :: rune c) := by
  obtain ⟨x, t, hr, ht⟩ := rune_tail h
  rw [hr]
  exact (passC_esc 92 x rfl).append (passC_all t fun y hy => by have := ht y hy; omega)
theorem letter_fine' {c : Int} (h : letter c = true) : fine c := letter_fine (.inl h)
theorem pass_letter {c : Int} (h : letter c = true) (e : Bool) : Pass ((if e || special c then [92] else []) ++ rune c) := by
  have hf := letter_fine' h
  split
  · exact pass_esc_rune hf
  · rename_i hs
    simp only [special, Bool.or_eq_true, beq_iff_eq, not_or] at hs
    refine pass_all _ fun x hx => ⟨rune_ne hf 92 (by omega) (by omega) x hx, rune_ne hf 91 (by omega) (by omega) x hx, rune_ne hf 123 (by omega) (by omega) x hx, rune_ne hf 125 (by omega) (by omega) x hx, rune_ne hf 44 (by omega) (by omega) x hx⟩
theorem passC_in {c : Int} (h : letter c = true) : PassC (inClass c false) := by
  have hf := letter_fine' h
  unfold inClass
  simp only [Bool.false_and, Bool.false_eq_true, if_false]
  split
  · exact passC_esc_rune hf
  · rename_i hs
    simp only [inSet, Bool.or_eq_true, beq_iff_eq, not_or] at hs
    exact passC_all _ fun x hx => ⟨rune_ne hf 92 (by omega) (by omega) x hx, rune_ne hf 93 (by omega) (by omega) x hx⟩
theorem passC_item {x : Int × Int} (first mark : Bool) (h1 : letter x.1 = true) (h2 : letter x.2 = true) : PassC (item first false mark x) := by
  unfold item
  simp only [Bool.false_and]
  refine (passC_in h1).append ?_
  split
  · exact (passC_one 45 (by decide) (by decide)).append (passC_in h2)
  · exact PassC.nil
theorem passC_items (mark : Bool) (l : List (Int × Int)) : ∀ (first : Bool), (∀ x ∈ l, letter x.1 = true ∧ letter x.2 = true) → PassC (items false mark first l) := by
  induction l with
  | nil => intro _ _; exact PassC.nil
  | cons x r ih =>
    intro first h
    rw [items]
    exact (passC_item first mark (h x (by simp)).1 (h x (by simp)).2).append (ih false fun y hy => h y (by simp [hy]))
/-- The first byte of a class's text does not close it. -/
theorem in_first {c : Int} (h : letter c = true) : ∃ x t, inClass c false = x :: t ∧ x.toNat ≠ 93 ∧ x.toNat ≠ 94 ∧ x.toNat ≠ 33 := by
  have hf := letter_fine' h
  unfold inClass
  simp only [Bool.false_and, Bool.false_eq_true, if_false]
  split
  · exact ⟨92, _, rfl, by decide, by decide, by decide⟩
  · rename_i hs
    simp only [inSet, Bool.or_eq_true, beq_iff_eq, not_or] at hs
    obtain ⟨x, t, hr, _⟩ := rune_tail hf
    have hx : x ∈ rune c := by rw [hr]; simp
    exact ⟨x, t, hr, rune_ne hf 93 (by omega) (by omega) x hx, rune_ne hf 94 (by omega) (by omega) x hx, rune_ne hf 33 (by omega) (by omega) x hx⟩
theorem valid_m4 (x : UInt8) (r : List UInt8) (d : Nat) (h1 : x.toNat ≠ 93) (h2 : x.toNat ≠ 94) (h3 : x.toNat ≠ 33) : validM (x :: r) 4 d = validM (x :: r) 2 d := by
  simp [validM, h1, h2, h3]
theorem valid_m5 (x : UInt8) (r : List UInt8) (d : Nat) (h1 : x.toNat ≠ 93) : validM (x :: r) 5 d = validM (x :: r) 2 d := by
  simp [validM, h1]
theorem pass_cls {t : Term} (h : clsOk t.cls = true) : Pass (clsText t false) := by
  obtain ⟨k, c, esc, neg, mark, cls, alts⟩ := t
  simp only [clsOk, Term.cls, Bool.and_eq_true, Bool.not_eq_true', List.all_eq_true, decide_eq_true_eq] at h
  obtain ⟨h0, hl⟩ := h
  have hl' : ∀ x ∈ cls, letter x.1 = true ∧ letter x.2 = true := fun x hx => ⟨(hl x hx).1.1.1, (hl x hx).1.1.2⟩
  have hC := passC_items mark cls true hl'
  obtain ⟨x, r', hx, g1, g2, g3⟩ : ∃ x r', items false mark true cls = x :: r' ∧ x.toNat ≠ 93 ∧ x.toNat ≠ 94 ∧ x.toNat ≠ 33 := by
    cases cls with
    | nil => simp at h0
    | cons y ys =>
      obtain ⟨x, t, e, g⟩ := in_first (hl' y (by simp)).1
      exact ⟨x, _, by rw [items, item]; simp only [Bool.false_and]; rw [e]; rfl, g⟩
  unfold clsText
  simp only [Term.neg, Term.esc, Term.mark, Term.cls]
  have e1 : ∀ r d p, closeM (items false mark true cls ++ (93 :: r)) 2 d p = closeM r 0 d (p + (items false mark true cls).length + 1) := fun r d p => by
    rw [hC.close, closeM]
    simp
  have e2 : ∀ r d p, nextM (items false mark true cls ++ (93 :: r)) 2 d p = nextM r 0 d (p + (items false mark true cls).length + 1) := fun r d p => by
    rw [hC.next, nextM]
    simp
  have e3 : ∀ r d, validM (items false mark true cls ++ (93 :: r)) 2 d = validM r 0 d := fun r d => by
    rw [hC.valid, validM]
    simp
  have e4 : ∀ r d, validM (items false mark true cls ++ (93 :: r)) 4 d = validM r 0 d := fun r d => by
    rw [← e3, hx, List.cons_append, valid_m4 _ _ _ g1 g2 g3]
  have e5 : ∀ r d, validM (items false mark true cls ++ (93 :: r)) 5 d = validM r 0 d := fun r d => by
    rw [← e3, hx, List.cons_append, valid_m5 _ _ _ g1]
  generalize items false mark true cls = bs at *
  have a1 : ∀ r d p, closeM (91 :: r) 0 d p = closeM r 2 d (p + 1) := fun r d p => by simp [closeM]
  have a2 : ∀ r d p, nextM (91 :: r) 0 d p = nextM r 2 d (p + 1) := fun r d p => by simp [nextM]
  have a3 : ∀ r d, validM (91 :: r) 0 d = validM r 4 d := fun r d => by simp [validM]
  have n1 : ∀ (n : UInt8) r d p, n.toNat = 33 ∨ n.toNat = 94 → closeM (n :: r) 2 d p = closeM r 2 d (p + 1) := fun n r d p hn => by rcases hn with hn | hn <;> simp [closeM, hn]
  have n2 : ∀ (n : UInt8) r d p, n.toNat = 33 ∨ n.toNat = 94 → nextM (n :: r) 2 d p = nextM r 2 d (p + 1) := fun n r d p hn => by rcases hn with hn | hn <;> simp [nextM, hn]
  have n3 : ∀ (n : UInt8) r d, n.toNat = 33 ∨ n.toNat = 94 → validM (n :: r) 4 d = validM r 5 d := fun n r d hn => by rcases hn with hn | hn <;> simp [validM, hn]
  have key : ∀ n : UInt8, n.toNat = 33 ∨ n.toNat = 94 → Pass ([91, n] ++ bs ++ [93]) := fun n hn =>
    ⟨fun r d p _ => by
      simp only [List.append_assoc, List.cons_append, List.nil_append]
      rw [a1, n1 n _ _ _ hn, e1]
      simp only [List.length_cons, List.length_append, List.length_nil]
      congr 1
      omega, fun r d p _ => by
      simp only [List.append_assoc, List.cons_append, List.nil_append]
      rw [a2, n2 n _ _ _ hn, e2]
      simp only [List.length_cons, List.length_append, List.length_nil]
      congr 1
      omega, fun r d => by
      simp only [List.append_assoc, List.cons_append, List.nil_append]
      rw [a3, n3 n _ _ hn, e5]⟩
  unfold clsHead
  split
  · split
    · exact key 33 (.inl rfl)
    · exact key 94 (.inr rfl)
  · exact ⟨fun r d p _ => by
      simp only [List.append_assoc, List.cons_append, List.nil_append]
      rw [a1, e1]
      simp only [List.length_cons, List.length_append, List.length_nil]
      congr 1
      omega, fun r d p _ => by
      simp only [List.append_assoc, List.cons_append, List.nil_append]
      rw [a2, e2]
      simp only [List.length_cons, List.length_append, List.length_nil]
      congr 1
      omega, fun r d => by
      simp only [List.append_assoc, List.cons_append, List.nil_append]
      rw [a3, e4]⟩

mutual
theorem passT : ∀ (t : Term), wfT t = true → Pass (term t)
  | .mk k c esc neg mark cls alts, h => by
    rw [wfT] at h
    rw [term]
    by_cases h0 : k = 0
    · rw [if_pos h0] at h ⊢
      exact pass_letter h esc
    rw [if_neg h0] at h ⊢
    by_cases h1 : k = 1
    · rw [if_pos h1]
      exact pass_one 63 (by decide) (by decide) (by decide) (by decide) (by decide)
    rw [if_neg h1] at h ⊢
    by_cases h2 : k = 2
    · rw [if_pos h2]
      exact pass_one 42 (by decide) (by decide) (by decide) (by decide) (by decide)
    rw [if_neg h2] at h ⊢
    by_cases h3 : k = 3
    · rw [if_pos h3] at h ⊢
      exact pass_cls h
    rw [if_neg h3] at h ⊢
    by_cases h4 : k = 4
    · rw [if_pos h4] at h
      simp only [Bool.and_eq_true] at h
      exact pass_brace 123 125 rfl rfl _ (passA alts true h.2)
    · rw [if_neg h4] at h
      cases h
theorem passL : ∀ (l : List Term) (c : Bool), wfL c l = true → Pass (terms l)
  | [], _, _ => by rw [terms]; exact Pass.nil
  | t :: r, c, h => by
    rw [wfL] at h
    simp only [Bool.and_eq_true] at h
    rw [terms]
    exact (passT t h.1.1).append (passL r _ h.2)
theorem passA : ∀ (l : List (List Term)) (first : Bool), wfA l = true → PassA (altsT first l)
  | [], _, _ => by rw [altsT]; exact PassA.nil
  | a :: r, first, h => by
    rw [wfA] at h
    simp only [Bool.and_eq_true] at h
    rw [altsT]
    refine PassA.append ?_ ((passL a _ h.1).inA.append (passA r false h.2))
    split
    · exact PassA.nil
    · exact pass_comma 44 rfl
end
end Pl
end Go.Proofs.YthkbkiigpflonaaDoor
