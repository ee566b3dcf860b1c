/-
  What is said of a pattern's emptiness, by its text and by its terms: the same. No program in sight.
-/
import Derived.Test.YthkbkiigpflonaaDoorPass
namespace Go.Proofs.YthkbkiigpflonaaDoor
namespace Pl

theorem rune_cons {c : Int} (h : fine c) : ∃ x t, rune c = x :: t := by
  obtain ⟨x, t, hr, _⟩ := rune_tail h
  exact ⟨x, t, hr⟩
/-- How a term's text begins. -/
theorem term_head : ∀ (t : Term), wfT t = true → ∃ x r, term t = x :: r ∧ (t.kind = 2 → x.toNat = 42 ∧ r = []) ∧ (t.kind ≠ 2 → x.toNat ≠ 42) ∧ (t.kind = 4 ↔ x.toNat = 123)
  | .mk k c esc neg mark cls alts, h => by
    simp only [Term.kind]
    rw [wfT] at h
    rw [term]
    by_cases h0 : k = 0
    · rw [if_pos h0] at h ⊢
      have hf := letter_fine' h
      subst h0
      split
      · exact ⟨92, rune c, rfl, (fun h => absurd h (by decide)), by decide, by decide⟩
      · rename_i hs
        simp only [special, Bool.or_eq_true, beq_iff_eq, not_or] at hs
        obtain ⟨x, t, hr⟩ := rune_cons hf
        have hx : x ∈ rune c := by rw [hr]; simp
        have n1 := rune_ne hf 42 (by omega) (by omega) x hx
        have n2 := rune_ne hf 123 (by omega) (by omega) x hx
        exact ⟨x, t, hr, (fun h => absurd h (by decide)), (fun _ => n1), ⟨fun h => absurd h (by decide), fun h => absurd h n2⟩⟩
    rw [if_neg h0] at h ⊢
    by_cases h1 : k = 1
    · rw [if_pos h1]
      subst h1
      exact ⟨63, [], rfl, by decide, by decide, by decide⟩
    rw [if_neg h1] at h ⊢
    by_cases h2 : k = 2
    · rw [if_pos h2]
      subst h2
      exact ⟨42, [], rfl, by decide, by decide, by decide⟩
    rw [if_neg h2] at h ⊢
    by_cases h3 : k = 3
    · rw [if_pos h3] at h ⊢
      subst h3
      unfold clsText clsHead
      split
      · split
        · exact ⟨91, _, rfl, (fun h => absurd h (by decide)), by decide, by decide⟩
        · exact ⟨91, _, rfl, (fun h => absurd h (by decide)), by decide, by decide⟩
      · exact ⟨91, _, rfl, (fun h => absurd h (by decide)), by decide, by decide⟩
    rw [if_neg h3] at h ⊢
    by_cases h4 : k = 4
    · subst h4
      exact ⟨123, _, rfl, (fun h => absurd h (by decide)), by decide, by decide⟩
    · rw [if_neg h4] at h
      cases h

theorem in_no47 {c : Int} (h : letter c = true) : ∀ x ∈ inClass c false, x.toNat ≠ 47 := by
  have hf := letter_fine' h
  have hc : c ≠ 47 := by
    simp only [letter, Bool.and_eq_true, bne_iff_ne, ne_eq] at h
    exact h.2
  intro x hx
  unfold inClass at hx
  simp only [Bool.false_and, Bool.false_eq_true, if_false] at hx
  split at hx
  · rcases List.mem_cons.1 hx with rfl | hx
    · decide
    · exact rune_ne hf 47 (by omega) hc x hx
  · exact rune_ne hf 47 (by omega) hc x hx
theorem items_no47 (mark : Bool) (l : List (Int × Int)) : ∀ (first : Bool), (∀ x ∈ l, letter x.1 = true ∧ letter x.2 = true) → ∀ x ∈ items false mark first l, x.toNat ≠ 47 := by
  induction l with
  | nil => intro _ _ x hx; simp [items] at hx
  | cons y r ih =>
    intro first h x hx
    rw [items, List.mem_append] at hx
    rcases hx with hx | hx
    · rw [item] at hx
      simp only [Bool.false_and, List.mem_append] at hx
      rcases hx with hx | hx
      · exact in_no47 (h y (by simp)).1 x hx
      · split at hx
        · rcases List.mem_cons.1 hx with rfl | hx
          · decide
          · exact in_no47 (h y (by simp)).2 x hx
        · cases hx
    · exact ih false (fun z hz => h z (by simp [hz])) x hx
mutual
theorem no47T : ∀ (t : Term), wfT t = true → ∀ x ∈ term t, x.toNat ≠ 47
  | .mk k c esc neg mark cls alts, h, x, hx => by
    rw [wfT] at h
    rw [term] at hx
    by_cases h0 : k = 0
    · rw [if_pos h0] at h hx
      have hf := letter_fine' h
      have hc : c ≠ 47 := by
        simp only [letter, Bool.and_eq_true, bne_iff_ne, ne_eq] at h
        exact h.2
      rw [List.mem_append] at hx
      rcases hx with hx | hx
      · split at hx
        · rcases List.mem_cons.1 hx with rfl | hx
          · decide
          · cases hx
        · cases hx
      · exact rune_ne hf 47 (by omega) hc x hx
    rw [if_neg h0] at h hx
    by_cases h1 : k = 1
    · rw [if_pos h1] at hx
      rcases List.mem_cons.1 hx with rfl | hx
      · decide
      · cases hx
    rw [if_neg h1] at h hx
    by_cases h2 : k = 2
    · rw [if_pos h2] at hx
      rcases List.mem_cons.1 hx with rfl | hx
      · decide
      · cases hx
    rw [if_neg h2] at h hx
    by_cases h3 : k = 3
    · rw [if_pos h3] at h hx
      simp only [clsOk, Bool.and_eq_true, Bool.not_eq_true', List.all_eq_true, decide_eq_true_eq] at h
      unfold clsText at hx
      simp only [Term.neg, Term.esc, Term.mark, Term.cls, List.mem_append] at hx
      rcases hx with (hx | hx) | hx
      · unfold clsHead at hx
        split at hx
        · split at hx <;> (simp only [List.mem_cons, List.not_mem_nil, or_false] at hx; rcases hx with rfl | rfl <;> decide)
        · simp only [List.mem_cons, List.not_mem_nil, or_false] at hx
          subst hx
          decide
      · exact items_no47 mark cls true (fun y hy => ⟨(h.2 y hy).1.1.1, (h.2 y hy).1.1.2⟩) x hx
      · simp only [List.mem_cons, List.not_mem_nil, or_false] at hx
        subst hx
        decide
    rw [if_neg h3] at h hx
    by_cases h4 : k = 4
    · rw [if_pos h4] at h
      simp only [Bool.and_eq_true] at h
      rcases List.mem_cons.1 hx with rfl | hx
      · decide
      · rw [List.mem_append] at hx
        rcases hx with hx | hx
        · exact no47A alts true h.2 x hx
        · simp only [List.mem_cons, List.not_mem_nil, or_false] at hx
          subst hx
          decide
    · rw [if_neg h4] at h
      cases h
theorem no47L : ∀ (l : List Term) (c : Bool), wfL c l = true → ∀ x ∈ terms l, x.toNat ≠ 47
  | [], _, _, x, hx => by rw [terms] at hx; cases hx
  | t :: r, c, h, x, hx => by
    rw [wfL] at h
    simp only [Bool.and_eq_true] at h
    rw [terms, List.mem_append] at hx
    rcases hx with hx | hx
    · exact no47T t h.1.1 x hx
    · exact no47L r _ h.2 x hx
theorem no47A : ∀ (l : List (List Term)) (first : Bool), wfA l = true → ∀ x ∈ altsT first l, x.toNat ≠ 47
  | [], _, _, x, hx => by rw [altsT] at hx; cases hx
  | a :: r, first, h, x, hx => by
    rw [wfA] at h
    simp only [Bool.and_eq_true] at h
    rw [altsT, List.mem_append, List.mem_append] at hx
    rcases hx with hx | hx | hx
    · split at hx
      · cases hx
      · simp only [List.mem_cons, List.not_mem_nil, or_false] at hx
        subst hx
        decide
    · exact no47L a _ h.1 x hx
    · exact no47A r false h.2 x hx
end

theorem zspec_no47 (l : List UInt8) (h : ∀ x ∈ l, x.toNat ≠ 47) (hz : zspec l = true) : l = [] ∨ l = [42] ∨ l = [42, 42] := by
  simp only [zspec, Bool.or_eq_true, beq_iff_eq] at hz
  rcases hz with ((((hz | hz) | hz) | hz) | hz) | hz
  · exact .inl hz
  · exact .inr (.inl hz)
  · exact .inr (.inr hz)
  · exact absurd rfl (h 47 (by rw [hz]; simp))
  · exact absurd rfl (h 47 (by rw [hz]; simp))
  · exact absurd rfl (h 47 (by rw [hz]; simp))

/-- Of terms that may be, none is so but those that are nothing. -/
theorem zspec_terms (l : List Term) (h : wfL false l = true) (hz : zspec (terms l) = true) : emL l = true := by
  rcases zspec_no47 _ (no47L l _ h) hz with he | he | he
  all_goals
    rcases l with _ | ⟨t, r⟩
    · rfl
    rw [wfL] at h
    simp only [Bool.and_eq_true] at h
    obtain ⟨x, tr, ht, k2, kn, _⟩ := term_head t h.1.1
    rw [terms, ht] at he
    simp only [List.cons_append, List.cons.injEq, reduceCtorEq] at he
  · have hk : t.kind = 2 := by
      by_cases hk : t.kind = 2
      · exact hk
      · have := kn hk
        rw [he.1] at this
        exact absurd rfl this
    obtain ⟨_, rfl⟩ := k2 hk
    have hr : r = [] := by
      cases r with
      | nil => rfl
      | cons u r' =>
        have h2 := h.2
        rw [wfL] at h2
        simp only [Bool.and_eq_true] at h2
        obtain ⟨y, ur, hu, _⟩ := term_head u h2.1.1
        rw [terms, hu] at he
        simp at he
    subst hr
    obtain ⟨k, c, esc, neg, mark, cls, alts⟩ := t
    simp only [Term.kind] at hk
    simp [emL, emT, hk]
  · have hk : t.kind = 2 := by
      by_cases hk : t.kind = 2
      · exact hk
      · have := kn hk
        rw [he.1] at this
        exact absurd rfl this
    obtain ⟨_, rfl⟩ := k2 hk
    exfalso
    cases r with
    | nil => rw [terms] at he; simp at he
    | cons u r' =>
      have h2 := h.2
      rw [wfL] at h2
      simp only [Bool.and_eq_true, Bool.not_eq_true'] at h2
      obtain ⟨y, ur, hu, _, un, _⟩ := term_head u h2.1.1
      rw [terms, hu] at he
      simp only [List.nil_append, List.cons_append, List.cons.injEq] at he
      have hc : (enT t || (emT t && false)) = true := by
        obtain ⟨k, c, esc, neg, mark, cls, alts⟩ := t
        simp only [Term.kind] at hk
        simp [enT, hk]
      have h3 := h2.1.2
      rw [hc, Bool.true_and] at h3
      have hu2 : u.kind = 2 := by
        by_cases hk : u.kind = 2
        · exact hk
        · have := un hk
          rw [he.2.1] at this
          exact absurd rfl this
      obtain ⟨k, c, esc, neg, mark, cls, alts⟩ := u
      simp only [Term.kind] at hu2
      simp [stT, hu2] at h3

/-- Where not all is said by the text as a whole, terms without a brace ahead are not nothing. -/
theorem not_em (t : Term) (r : List Term) (h : wfL false (t :: r) = true) (h4 : t.kind ≠ 4) (hz : zspec (terms (t :: r)) = false) : emL (t :: r) = false := by
  rw [wfL] at h
  simp only [Bool.and_eq_true] at h
  by_cases hk : t.kind = 2
  · cases r with
    | nil =>
      obtain ⟨x, tr, ht, k2, _⟩ := term_head t h.1.1
      obtain ⟨hx, rfl⟩ := k2 hk
      have : x = 42 := UInt8.toNat_inj.1 hx
      rw [terms, ht, this, terms] at hz
      simp [zspec] at hz
    | cons u r' =>
      have h2 := h.2
      rw [wfL] at h2
      simp only [Bool.and_eq_true, Bool.not_eq_true'] at h2
      have hc : (enT t || (emT t && false)) = true := by
        obtain ⟨k, c, esc, neg, mark, cls, alts⟩ := t
        simp only [Term.kind] at hk
        simp [enT, hk]
      have h3 := h2.1.2
      rw [hc, Bool.true_and] at h3
      rw [emL, emL]
      have : emT u = false := by
        obtain ⟨k, c, esc, neg, mark, cls, alts⟩ := u
        simp only [Term.kind, stT, Bool.or_eq_false_iff] at h3
        simp [emT, h3.1.1, h3.2]
      rw [this]
      simp
  · rw [emL]
    obtain ⟨k, c, esc, neg, mark, cls, alts⟩ := t
    simp only [Term.kind] at hk h4
    simp [emT, hk, h4]

/-- The same alternatives, one by one. -/
theorem zeroAlts_ok (rest : List UInt8) (rt : List Term) (v : Bool) : ∀ (alts : List (List Term)), alts ≠ [] → wfA alts = true →
    (∀ a ∈ alts, ∃ K, ∀ k, K ≤ k → zeroF k (terms a ++ rest) v = some (emL (a ++ rt), false)) → ∃ K, ∀ k, K ≤ k → zeroAlts k (altsT true alts) rest v = some (alts.any (fun a => emL (a ++ rt)), false)
  | [], h, _, _ => absurd rfl h
  | a :: as, _, hw, ih => by
    rw [wfA] at hw
    simp only [Bool.and_eq_true] at hw
    obtain ⟨K, hK⟩ := ih a (by simp)
    have hP := passL a _ hw.1
    have htx : altsT true (a :: as) = terms a ++ altsT false as := by rw [altsT]; rfl
    rw [htx]
    cases as with
    | nil =>
      refine ⟨K + 1, fun k hk => ?_⟩
      obtain ⟨k', rfl⟩ : ∃ k', k = k' + 1 := ⟨k - 1, by omega⟩
      rw [zeroAlts.eq_def]
      dsimp only
      rw [altsT, hP.next _ _ _ (Int.le_refl _), nextM]
      dsimp only
      rw [List.append_nil, hK k' (by omega)]
      simp
    | cons b bs =>
      obtain ⟨K2, hK2⟩ := zeroAlts_ok rest rt v (b :: bs) (by simp) hw.2 (fun x hx => ih x (by simp at hx ⊢; exact .inr hx))
      have htb : altsT false (b :: bs) = 44 :: altsT true (b :: bs) := by rw [altsT, altsT]; rfl
      refine ⟨max K K2 + 1, fun k hk => ?_⟩
      obtain ⟨k', rfl⟩ : ∃ k', k = k' + 1 := ⟨k - 1, by omega⟩
      rw [zeroAlts.eq_def]
      dsimp only
      have hn : nextM (terms a ++ altsT false (b :: bs)) 0 1 0 = some (terms a).length := by
        rw [hP.next _ _ _ (Int.le_refl _), htb, nextM]
        simp
      rw [hn]
      dsimp only
      rw [List.take_left, hK k' (by omega)]
      dsimp only
      have hd : (terms a ++ altsT false (b :: bs)).drop ((terms a).length + 1) = altsT true (b :: bs) := by
        rw [htb, List.drop_append]
        simp
      rw [hd, hK2 k' (by omega)]
      cases h : emL (a ++ rt)
      · simp [h]
      · simp [h]

/-- By its text and by its terms the same is said. -/
theorem zero_terms (v : Bool) : ∀ (n : Nat) (l : List Term), brL l ≤ n → wfL false l = true → ∃ K, ∀ k, K ≤ k → zeroF k (terms l) v = some (emL l, false) := by
  intro n
  induction n using Nat.strongRecOn with
  | _ n IH =>
  intro l hn hw
  by_cases hz : zspec (terms l) = true
  · refine ⟨1, fun k hk => ?_⟩
    obtain ⟨k', rfl⟩ : ∃ k', k = k' + 1 := ⟨k - 1, by omega⟩
    rw [zeroF.eq_def]
    dsimp only
    rw [if_pos hz, zspec_terms l hw hz]
  · have hzf : zspec (terms l) = false := by simpa using hz
    cases l with
    | nil => simp [terms, zspec] at hzf
    | cons t r =>
      have hw0 := hw
      rw [wfL] at hw
      simp only [Bool.and_eq_true] at hw
      obtain ⟨x, tr, ht, _, _, k4⟩ := term_head t hw.1.1
      by_cases h4 : t.kind = 4
      · obtain ⟨k, c, esc, neg, mark, cls, alts⟩ := t
        simp only [Term.kind] at h4
        subst h4
        have hwt := hw.1.1
        rw [wfT] at hwt
        simp at hwt
        obtain ⟨_, hall⟩ := wf_alt hw0
        have hA := passA alts true hwt.2
        obtain ⟨K, hK⟩ := zeroAlts_ok (terms r) r v alts hwt.1 hwt.2 (fun a ha => by
          have hb := br_alt (esc := esc) (neg := neg) (mark := mark) (ch := c) (cls := cls) (r := r) ha
          obtain ⟨K, hK⟩ := IH (brL (a ++ r)) (by omega) (a ++ r) (Nat.le_refl _) (hall a ha)
          exact ⟨K, fun k hk => by rw [← terms_append, hK k hk]⟩)
        refine ⟨K + 1, fun k hk => ?_⟩
        obtain ⟨k', rfl⟩ : ∃ k', k = k' + 1 := ⟨k - 1, by omega⟩
        have htx : terms (.mk 4 c esc neg mark cls alts :: r) = 123 :: (altsT true alts ++ (125 :: terms r)) := by
          rw [terms, term]
          simp
        rw [zeroF.eq_def]
        dsimp only
        rw [if_neg hz, htx]
        dsimp only
        rw [if_pos (by rfl)]
        have hcl : closeM (altsT true alts ++ 125 :: terms r) 0 1 0 = some (altsT true alts).length := by
          rw [hA.close _ _ _ (Nat.le_refl _), closeM]
          simp
        rw [hcl]
        dsimp only
        have hd : (altsT true alts ++ 125 :: terms r).drop ((altsT true alts).length + 1) = terms r := by
          rw [List.drop_append]
          simp
        rw [List.take_left, hd, hK k' (by omega)]
        congr 2
        rw [emL, emT, emA_eq]
        simp only [emL_append]
        have : (fun a => emL a && emL r) = fun a => emL a && emL r := rfl
        cases emL r
        · simp
        · simp
      · refine ⟨1, fun k hk => ?_⟩
        obtain ⟨k', rfl⟩ : ∃ k', k = k' + 1 := ⟨k - 1, by omega⟩
        have hem := not_em t r hw0 h4 hzf
        have hv : validM (terms (t :: r)) 0 0 = true := by
          have := (passL _ _ hw0).valid [] 0
          rw [List.append_nil] at this
          rw [this, validM]
          rfl
        have hx : x.toNat ≠ 123 := fun h => h4 (k4.2 h)
        rw [zeroF.eq_def]
        dsimp only
        rw [if_neg hz, hem]
        have hc : terms (t :: r) = x :: (tr ++ terms r) := by rw [terms, ht]; rfl
        rw [hc] at hv ⊢
        dsimp only
        rw [if_neg hx, hv]
        simp
end Pl
end Go.Proofs.YthkbkiigpflonaaDoor
