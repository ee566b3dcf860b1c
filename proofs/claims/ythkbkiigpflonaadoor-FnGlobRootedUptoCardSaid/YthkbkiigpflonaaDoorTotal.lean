/-
  The program's match of a name by the text of pieces comes to an end and never says that the text is malformed. No program in sight.
-/
import Derived.Test.YthkbkiigpflonaaDoorToks
namespace Go.Proofs.YthkbkiigpflonaaDoor
namespace Pl

theorem close_alts (alts : List (List Term)) (hw : wfA alts = true) (R : List UInt8) : closeM (altsT true alts ++ 125 :: R) 0 1 0 = some (altsT true alts).length := by
  rw [(passA alts true hw).close _ _ _ (Nat.le_refl _), closeM]
  simp
theorem next_last (a : List Term) (hw : wfL false a = true) : nextM (altsT true [a]) 0 1 0 = none := by
  have e : altsT true [a] = terms a ++ [] := by rw [altsT, altsT]; rfl
  rw [e, (passL a _ hw).next _ _ _ (Int.le_refl _), nextM]
theorem next_more (a b : List Term) (bs : List (List Term)) (hw : wfL false a = true) : altsT true (a :: b :: bs) = terms a ++ 44 :: altsT true (b :: bs) ∧ nextM (altsT true (a :: b :: bs)) 0 1 0 = some (terms a).length := by
  have e : altsT true (a :: b :: bs) = terms a ++ 44 :: altsT true (b :: bs) := by
    rw [altsT, altsT, altsT]
    rfl
  refine ⟨e, ?_⟩
  rw [e, (passL a _ hw).next _ _ _ (Int.le_refl _), nextM]
  simp

theorem zeroAlts_tot (rest : List UInt8) (v : Bool) : ∀ (alts : List (List Term)), alts ≠ [] → wfA alts = true →
    (∀ a ∈ alts, ∃ K b, ∀ k, K ≤ k → zeroF k (terms a ++ rest) v = some (b, false)) → ∃ K b, ∀ k, K ≤ k → zeroAlts k (altsT true alts) rest v = some (b, false)
  | [], h, _, _ => absurd rfl h
  | [a], _, hw, ih => by
    rw [wfA, Bool.and_eq_true] at hw
    obtain ⟨K, b, hK⟩ := ih a (by simp)
    refine ⟨K + 1, b, fun k hk => ?_⟩
    obtain ⟨k', rfl⟩ : ∃ k', k = k' + 1 := ⟨k - 1, by omega⟩
    have e : altsT true [a] = terms a := by rw [altsT, altsT]; simp
    rw [zeroAlts.eq_def]
    dsimp only
    rw [next_last a hw.1]
    dsimp only
    rw [e, hK k' (by omega)]
  | a :: b :: bs, _, hw, ih => by
    rw [wfA, Bool.and_eq_true] at hw
    obtain ⟨K, x, hK⟩ := ih a (by simp)
    obtain ⟨K2, y, hK2⟩ := zeroAlts_tot rest v (b :: bs) (by simp) hw.2 (fun z hz => ih z (by simp at hz ⊢; exact .inr hz))
    obtain ⟨e, hn⟩ := next_more a b bs hw.1
    refine ⟨max K K2 + 1, x || y, fun k hk => ?_⟩
    obtain ⟨k', rfl⟩ : ∃ k', k = k' + 1 := ⟨k - 1, by omega⟩
    rw [zeroAlts.eq_def]
    dsimp only
    rw [hn]
    dsimp only
    rw [e, List.take_left, hK k' (by omega)]
    have hd : (terms a ++ 44 :: altsT true (b :: bs)).drop ((terms a).length + 1) = altsT true (b :: bs) := by
      rw [List.drop_append]
      simp
    dsimp only
    rw [hd, hK2 k' (by omega)]
    cases x <;> simp

theorem alt_ok {x : Tok} {r : List Tok} {alts : List (List Term)} (hw : wfA alts = true) (hn : neA alts = false) (hb : x.br = 1 + brA alts) {a : List Term} (ha : a ∈ alts) :
    okL (a.map Tok.tm) = true ∧ brs (a.map Tok.tm ++ r) < brs (x :: r) := by
  refine ⟨ok_terms a _ (wfA_mem alts hw a ha) (neA_mem alts hn a ha), ?_⟩
  have := brA_mem alts a ha
  rw [brs_append, brs_terms, brs, hb]
  omega

/-- What is said of emptiness is never that the text is malformed. -/
theorem zero_tot (v : Bool) : ∀ (n : Nat) (ts : List Tok), brs ts ≤ n → okL ts = true → ∃ K b, ∀ k, K ≤ k → zeroF k (txt ts) v = some (b, false) := by
  intro n
  induction n using Nat.strongRecOn with
  | _ n IH =>
  intro ts hn hok
  by_cases hz : zspec (txt ts) = true
  · refine ⟨1, true, fun k hk => ?_⟩
    obtain ⟨k', rfl⟩ : ∃ k', k = k' + 1 := ⟨k - 1, by omega⟩
    rw [zeroF.eq_def]
    dsimp only
    rw [if_pos hz]
  cases ts with
  | nil => exact absurd (by decide) hz
  | cons x r =>
    have hv := valid_txt (x :: r) hok
    rw [okL_cons, Bool.and_eq_true] at hok
    obtain ⟨c, t, hx, _, _, h123⟩ := form_head (form x hok.1)
    by_cases h : c.toNat = 123
    · obtain ⟨alts, h0, hw, hne, hb, hx⟩ := h123 h
      have e : txt (x :: r) = 123 :: (altsT true alts ++ 125 :: txt r) := by
        rw [txt, hx]
        simp
      obtain ⟨K, b, hK⟩ := zeroAlts_tot (txt r) v alts h0 hw (fun a ha => by
        obtain ⟨h1, h2⟩ := alt_ok (r := r) hw hne hb ha
        obtain ⟨K, b, hK⟩ := IH (brs (a.map Tok.tm ++ r)) (by omega) (a.map Tok.tm ++ r) (Nat.le_refl _) (by rw [okL_append, h1, hok.2]; rfl)
        exact ⟨K, b, fun k hk => by rw [← hK k hk, txt_append, txt_terms]⟩)
      refine ⟨K + 1, b, fun k hk => ?_⟩
      obtain ⟨k', rfl⟩ : ∃ k', k = k' + 1 := ⟨k - 1, by omega⟩
      rw [zeroF.eq_def]
      dsimp only
      rw [if_neg hz, e]
      dsimp only
      rw [if_pos (by rfl), close_alts alts hw]
      dsimp only
      have hd : (altsT true alts ++ 125 :: txt r).drop ((altsT true alts).length + 1) = txt r := by
        rw [List.drop_append]
        simp
      rw [List.take_left, hd, hK k' (by omega)]
    · refine ⟨1, false, fun k hk => ?_⟩
      obtain ⟨k', rfl⟩ : ∃ k', k = k' + 1 := ⟨k - 1, by omega⟩
      rw [zeroF.eq_def]
      dsimp only
      rw [if_neg hz]
      have e : txt (x :: r) = c :: (t ++ txt r) := by rw [txt, hx]; rfl
      rw [e] at hv ⊢
      dsimp only
      rw [if_neg h, hv]
      simp

/-- A match that comes to an end, and never says that the pattern is malformed. -/
def Tot (v : Bool) (pat name : List UInt8) (s : St) : Prop := ∃ K b, ∀ k, K ≤ k → matchF k v pat name s = some (b, false)

theorem altsF_tot (v : Bool) (ahead rest name : List UInt8) (s : St) : ∀ (alts : List (List Term)), alts ≠ [] → wfA alts = true →
    (∀ a ∈ alts, Tot v (ahead ++ (terms a ++ rest)) name ⟨s.pi, s.ni, sos0 ahead s.pi, s.ds, s.st⟩) → ∃ K b, ∀ k, K ≤ k → altsF k v ahead (altsT true alts) rest name s = some (b, false)
  | [], h, _, _ => absurd rfl h
  | [a], _, hw, ih => by
    rw [wfA, Bool.and_eq_true] at hw
    obtain ⟨K, b, hK⟩ := ih a (by simp)
    refine ⟨K + 1, b, fun k hk => ?_⟩
    obtain ⟨k', rfl⟩ : ∃ k', k = k' + 1 := ⟨k - 1, by omega⟩
    have e : altsT true [a] = terms a := by rw [altsT, altsT]; simp
    rw [altsF.eq_def]
    dsimp only
    rw [next_last a hw.1]
    dsimp only
    rw [e, hK k' (by omega)]
  | a :: b :: bs, _, hw, ih => by
    rw [wfA, Bool.and_eq_true] at hw
    obtain ⟨K, x, hK⟩ := ih a (by simp)
    obtain ⟨K2, y, hK2⟩ := altsF_tot v ahead rest name s (b :: bs) (by simp) hw.2 (fun z hz => ih z (by simp at hz ⊢; exact .inr hz))
    obtain ⟨e, hn⟩ := next_more a b bs hw.1
    refine ⟨max K K2 + 1, x || y, fun k hk => ?_⟩
    obtain ⟨k', rfl⟩ : ∃ k', k = k' + 1 := ⟨k - 1, by omega⟩
    rw [altsF.eq_def]
    dsimp only
    rw [hn]
    dsimp only
    rw [e, List.take_left, hK k' (by omega)]
    have hd : (terms a ++ 44 :: altsT true (b :: bs)).drop ((terms a).length + 1) = altsT true (b :: bs) := by
      rw [List.drop_append]
      simp
    dsimp only
    rw [hd, hK2 k' (by omega)]
    cases x <;> simp

/-- A place between two pieces. -/
def At (ts : List Tok) (p : Nat) : Prop := ∃ a r, ts = a ++ r ∧ p = (txt a).length
theorem At.le {ts : List Tok} {p : Nat} (h : At ts p) : p ≤ (txt ts).length := by
  obtain ⟨a, r, rfl, rfl⟩ := h
  rw [txt_append, List.length_append]
  omega

/-- Where a match of pieces stands. -/
structure Inv (ts : List Tok) (name : List UInt8) (s : St) : Prop where
  pi : At ts s.pi
  ds : ∀ dp dn, s.ds = some (dp, dn) → At ts dp ∧ dp ≤ s.pi ∧ dn ≤ name.length
  st : ∀ sp sn, s.st = some (sp, sn) → sn ≤ name.length ∧ ((dec (name.drop sn)).1 = 47 ∨ (At ts sp ∧ sp ≤ s.pi ∧ ∀ dp dn, s.ds = some (dp, dn) → dp ≤ sp))

def muA (L : Nat) (s : St) : Nat := match s.ds with | none => L + 1 | some (dp, _) => L - dp
def muB (N : Nat) (s : St) : Nat := match s.ds with | none => 0 | some (_, dn) => N - dn
def muC (L : Nat) (s : St) : Nat := match s.st with | none => L + 1 | some (sp, _) => if sp ≤ s.pi then L - sp else L + 1
def muD (N : Nat) (s : St) : Nat := match s.st with | none => 0 | some (_, sn) => N - sn
def muE (L : Nat) (s : St) : Nat := L - s.pi

theorem wf_lex {α : Type} (f : α → Nat) (R : α → α → Prop) (hR : WellFounded R) : WellFounded fun y x => f y < f x ∨ f y = f x ∧ R y x := by
  refine Subrelation.wf (r := InvImage (Prod.Lex (fun a b : Nat => a < b) R) fun x => (f x, x)) ?_ (InvImage.wf _ (Prod.lex ⟨_, Nat.lt_wfRel.wf⟩ ⟨R, hR⟩).wf)
  intro y x h
  rcases h with h | ⟨h, h2⟩
  · exact Prod.Lex.left _ _ h
  · show Prod.Lex _ _ (f y, y) (f x, x)
    rw [h]
    exact Prod.Lex.right _ h2

/-- The match of the same pieces comes nearer to its end. -/
def Nearer (L N : Nat) (y x : St) : Prop :=
  muA L y < muA L x ∨ muA L y = muA L x ∧ (muB N y < muB N x ∨ muB N y = muB N x ∧ (muC L y < muC L x ∨ muC L y = muC L x ∧ (muD N y < muD N x ∨ muD N y = muD N x ∧ (muE L y < muE L x ∨ muE L y = muE L x ∧ False))))
theorem nearer_wf (L N : Nat) : WellFounded (Nearer L N) :=
  wf_lex (muA L) _ (wf_lex (muB N) _ (wf_lex (muC L) _ (wf_lex (muD N) _ (wf_lex (muE L) (fun _ _ => False) ⟨fun a => ⟨a, fun _ h => h.elim⟩⟩))))

theorem near_adv {L N : Nat} {s : St} {p ni : Nat} {sos : Bool} (h : s.pi < p) (hp : p ≤ L) : Nearer L N ⟨p, ni, sos, s.ds, s.st⟩ s := by
  refine .inr ⟨rfl, .inr ⟨rfl, ?_⟩⟩
  obtain ⟨pi, n, o, ds, st⟩ := s
  simp only at h ⊢
  cases st with
  | none =>
    refine .inr ⟨rfl, .inr ⟨rfl, .inl ?_⟩⟩
    simp only [muE]
    omega
  | some x =>
    obtain ⟨sp, sn⟩ := x
    by_cases h1 : sp ≤ pi
    · refine .inr ⟨?_, .inr ⟨rfl, .inl ?_⟩⟩
      · simp only [muC]
        rw [if_pos h1, if_pos (by omega)]
      · simp only [muE]
        omega
    by_cases h2 : sp ≤ p
    · refine .inl ?_
      simp only [muC]
      rw [if_neg h1, if_pos h2]
      omega
    · refine .inr ⟨?_, .inr ⟨rfl, .inl ?_⟩⟩
      · simp only [muC]
        rw [if_neg h1, if_neg h2]
      · simp only [muE]
        omega
theorem near_star {L N : Nat} {s : St} {p ni : Nat} {sos : Bool} (h : s.pi < p) (hp : p ≤ L) : Nearer L N ⟨p, ni, sos, s.ds, some (p, ni)⟩ s := by
  refine .inr ⟨rfl, .inr ⟨rfl, .inl ?_⟩⟩
  obtain ⟨pi, n, o, ds, st⟩ := s
  simp only [muC] at h ⊢
  rw [if_pos (Nat.le_refl _)]
  cases st with
  | none => simp only; omega
  | some x =>
    obtain ⟨sp, sn⟩ := x
    simp only
    split <;> omega
theorem near_dirs {L N : Nat} {s : St} {p ni : Nat} {sos : Bool} {st : Option (Nat × Nat)} (h : s.pi < p) (hp : p ≤ L) (hd : ∀ dp dn, s.ds = some (dp, dn) → dp ≤ s.pi) : Nearer L N ⟨p, ni, sos, some (p, ni), st⟩ s := by
  refine .inl ?_
  obtain ⟨pi, n, o, ds, st⟩ := s
  simp only [muA] at h hd ⊢
  cases ds with
  | none => simp only; omega
  | some x =>
    obtain ⟨dp, dn⟩ := x
    have := hd dp dn rfl
    simp only
    omega
theorem near_back {L N : Nat} {s : St} {sp sn d : Nat} (hs : s.st = some (sp, sn)) (hsp : sp ≤ s.pi) (h1 : 0 < d) (h2 : sn < N) : Nearer L N ⟨sp, sn + d, false, s.ds, some (sp, sn + d)⟩ s := by
  refine .inr ⟨rfl, .inr ⟨rfl, .inr ⟨?_, .inl ?_⟩⟩⟩
  · unfold muC
    rw [hs]
    simp only
    rw [if_pos (Nat.le_refl _), if_pos hsp]
  · unfold muD
    rw [hs]
    simp only
    omega
theorem near_backD {L N : Nat} {s : St} {dp dn q : Nat} (hs : s.ds = some (dp, dn)) (h1 : dn < q) (h2 : q ≤ N) : Nearer L N ⟨dp, q, true, some (dp, q), s.st⟩ s := by
  refine .inr ⟨?_, .inl ?_⟩
  · unfold muA
    rw [hs]
  · unfold muB
    rw [hs]
    simp only
    omega

theorem slashM_lt : ∀ (l : List UInt8) (p q : Nat), slashM l p = some q → p < q ∧ q ≤ p + l.length
  | [], _, _, h => by cases h
  | c :: r, p, q, h => by
    rw [slashM] at h
    split at h
    · simp only [Option.some.injEq] at h
      simp
      omega
    · have := slashM_lt r (p + 1) q h
      simp
      omega

theorem tot_next {v : Bool} {pat name : List UInt8} {s s' : St} (h : step pat name s = .next s') (ht : Tot v pat name s') : Tot v pat name s := by
  obtain ⟨K, b, hK⟩ := ht
  refine ⟨K + 1, b, fun k hk => ?_⟩
  obtain ⟨k', rfl⟩ : ∃ k', k = k' + 1 := ⟨k - 1, by omega⟩
  rw [matchF, h]
  exact hK k' (by omega)
theorem tot_ret {v : Bool} {pat name : List UInt8} {s : St} {b : Bool} (h : step pat name s = .ret b) : Tot v pat name s := by
  refine ⟨1, b, fun k hk => ?_⟩
  obtain ⟨k', rfl⟩ : ∃ k', k = k' + 1 := ⟨k - 1, by omega⟩
  rw [matchF, h]
theorem tot_back_next {v : Bool} {pat name : List UInt8} {s s' : St} {p : Nat} (h : step pat name s = .back p) (hb : backs v pat name s p = .next s') (ht : Tot v pat name s') : Tot v pat name s := by
  obtain ⟨K, b, hK⟩ := ht
  refine ⟨K + 1, b, fun k hk => ?_⟩
  obtain ⟨k', rfl⟩ : ∃ k', k = k' + 1 := ⟨k - 1, by omega⟩
  rw [matchF, h]
  dsimp only
  rw [hb]
  exact hK k' (by omega)
theorem tot_back_ret {v : Bool} {pat name : List UInt8} {s : St} {p : Nat} {b : Bool} (h : step pat name s = .back p) (hb : backs v pat name s p = .ret b) : Tot v pat name s := by
  refine ⟨1, b, fun k hk => ?_⟩
  obtain ⟨k', rfl⟩ : ∃ k', k = k' + 1 := ⟨k - 1, by omega⟩
  rw [matchF, h]
  dsimp only
  rw [hb]
theorem tot_zero {v : Bool} {ts : List Tok} {name : List UInt8} {s : St} (hok : okL ts = true) (hp : At ts s.pi) (hn : name.length ≤ s.ni) : Tot v (txt ts) name s := by
  obtain ⟨a, r, rfl, hp⟩ := hp
  rw [okL_append, Bool.and_eq_true] at hok
  obtain ⟨K, b, hK⟩ := zero_tot v _ r (Nat.le_refl _) hok.2
  refine ⟨K + 1, b, fun k hk => ?_⟩
  obtain ⟨k', rfl⟩ : ∃ k', k = k' + 1 := ⟨k - 1, by omega⟩
  have e : step (txt (a ++ r)) name s = .zero := by
    unfold step
    rw [if_pos hn]
  rw [matchF, e]
  dsimp only
  rw [hp, txt_append, List.drop_left]
  exact hK k' (by omega)

theorem fails_ret (v : Bool) (pat : List UInt8) (p : Nat) (h : validM (pat.drop p) 0 0 = true) : fails v pat p = .ret false := by
  unfold fails
  rw [h]
  simp

/-- Where a match goes back. -/
theorem tot_back {v : Bool} {ts : List Tok} {name : List UInt8} {s : St} {p : Nat} (hok : okL ts = true) (hI : Inv ts name s) (h : step (txt ts) name s = .back p) (hv : validM ((txt ts).drop p) 0 0 = true)
    (hrec : ∀ s', Nearer (txt ts).length name.length s' s → Inv ts name s' → Tot v (txt ts) name s') : Tot v (txt ts) name s := by
  have hD : ∀ b, backs v (txt ts) name s p = backD v (txt ts) name s p → (∀ sp sn, s.st = some (sp, sn) → (dec (name.drop sn)).1 = 47) → b = backD v (txt ts) name s p → Tot v (txt ts) name s := by
    intro b hb hst _
    cases hds : s.ds with
    | none =>
      refine tot_back_ret h (b := false) ?_
      rw [hb]
      unfold backD
      rw [hds]
      exact fails_ret v _ p hv
    | some x =>
      obtain ⟨dp, dn⟩ := x
      obtain ⟨h1, h2, h3⟩ := hI.ds dp dn hds
      have hle := h1.le
      cases hq : slashM (name.drop dn) dn with
      | none =>
        refine tot_back_ret h (b := false) ?_
        rw [hb]
        unfold backD
        rw [hds]
        simp only [hq]
        rw [if_neg (by omega)]
        exact fails_ret v _ p hv
      | some q =>
        have hl := slashM_lt _ _ _ hq
        rw [List.length_drop] at hl
        refine tot_back_next h (s' := ⟨dp, q, true, some (dp, q), s.st⟩) ?_ ?_
        · rw [hb]
          unfold backD
          rw [hds]
          simp only [hq]
          rw [if_neg (by omega)]
        · refine hrec _ (near_backD hds hl.1 (by omega)) ⟨h1, fun dp' dn' e => ?_, fun sp sn e => ?_⟩
          · simp only [Option.some.injEq, Prod.mk.injEq] at e
            obtain ⟨rfl, rfl⟩ := e
            exact ⟨h1, Nat.le_refl _, by omega⟩
          · exact ⟨(hI.st sp sn e).1, .inl (hst sp sn e)⟩
  cases hst : s.st with
  | none => exact hD _ (by unfold backs; rw [hst]) (fun sp sn e => by rw [hst] at e; cases e) rfl
  | some x =>
    obtain ⟨sp, sn⟩ := x
    obtain ⟨hsn, hcase⟩ := hI.st sp sn hst
    by_cases h47 : (dec (name.drop sn)).1 = 47
    · exact hD _ (by unfold backs; rw [hst]; simp only; rw [if_neg (by omega), if_pos h47]) (fun sp' sn' e => by rw [hst] at e; simp only [Option.some.injEq, Prod.mk.injEq] at e; rw [← e.2]; exact h47) rfl
    · obtain ⟨h1, h2, h3⟩ := hcase.resolve_left h47
      have hle := h1.le
      have hb : backs v (txt ts) name s p = .next ⟨sp, sn + (dec (name.drop sn)).2, false, s.ds, some (sp, sn + (dec (name.drop sn)).2)⟩ := by
        unfold backs
        rw [hst]
        simp only
        rw [if_neg (by omega), if_neg h47, if_neg (by omega)]
      refine tot_back_next h hb ?_
      by_cases hlt : sn < name.length
      · have hne : name.drop sn ≠ [] := by
          intro e
          have := congrArg List.length e
          simp at this
          omega
        obtain ⟨d1, d2⟩ := dec_pos _ hne
        rw [List.length_drop] at d2
        refine hrec _ (near_back hst h2 d1 hlt) ⟨h1, fun dp dn e => ?_, fun sp' sn' e => ?_⟩
        · have := hI.ds dp dn e
          exact ⟨this.1, h3 dp dn e, this.2.2⟩
        · simp only [Option.some.injEq, Prod.mk.injEq] at e
          obtain ⟨rfl, rfl⟩ := e
          exact ⟨by omega, .inr ⟨h1, Nat.le_refl _, h3⟩⟩
      · exact tot_zero hok h1 (by simp only; omega)
end Pl
end Go.Proofs.YthkbkiigpflonaaDoor
