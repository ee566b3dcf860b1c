/-
  What the reference's look at terms says, without its counters: which terms may be, what they may begin and end with, whether they may be nothing. No program in sight.
-/
import Derived.Test.YthkbkiigpflonaaDoorPlain
namespace Go.Proofs.YthkbkiigpflonaaDoor
namespace Pl

mutual
/-- May begin with any letters. -/
def stT : Term → Bool
  | .mk k _ _ _ _ _ alts => k == 2 || (k == 4 && stA alts)
def stL : List Term → Bool
  | [] => false
  | t :: r => stT t || (emT t && stL r)
def stA : List (List Term) → Bool
  | [] => false
  | a :: r => stL a || stA r
/-- May be nothing. -/
def emT : Term → Bool
  | .mk k _ _ _ _ _ alts => k == 2 || (k == 4 && emA alts)
def emL : List Term → Bool
  | [] => true
  | t :: r => emT t && emL r
def emA : List (List Term) → Bool
  | [] => false
  | a :: r => emL a || emA r
end

mutual
/-- May end with any letters; c: so may what stands ahead. -/
def enT : Term → Bool
  | .mk k _ _ _ _ _ alts => k == 2 || (k == 4 && enA alts)
def enL : Bool → List Term → Bool
  | c, [] => c
  | c, t :: r => enL (enT t || (emT t && c)) r
def enA : List (List Term) → Bool
  | [] => false
  | a :: r => enL false a || enA r
end

mutual
/-- May be. -/
def wfT : Term → Bool
  | .mk k c _ _ _ cls alts => if k = 0 then letter c else if k = 1 then true else if k = 2 then true else if k = 3 then clsOk cls else if k = 4 then !alts.isEmpty && wfA alts else false
def wfL : Bool → List Term → Bool
  | _, [] => true
  | c, t :: r => wfT t && !(c && (stT t || t.kind == 4)) && wfL (enT t || (emT t && c)) r
def wfA : List (List Term) → Bool
  | [] => true
  | a :: r => wfL false a && wfA r
end

mutual
theorem flatT : ∀ (t : Term) (deep : Nat) (left : Int) (s e n : Bool) (x : Int), gTerm t deep left = some (s, e, n, x) → wfT t = true ∧ s = stT t ∧ e = enT t ∧ n = emT t
  | .mk k c esc neg mark cls alts, deep, left, s, e, n, x, h => by
    rw [gTerm] at h
    by_cases h0 : k = 0
    · subst h0
      rw [if_pos rfl] at h
      split at h
      · rename_i hl
        simp only [Option.some.injEq, Prod.mk.injEq] at h
        obtain ⟨rfl, rfl, rfl, _⟩ := h
        simp [wfT, stT, enT, emT, hl]
      · cases h
    rw [if_neg h0] at h
    by_cases h1 : k = 1
    · subst h1
      rw [if_pos rfl] at h
      simp only [Option.some.injEq, Prod.mk.injEq] at h
      obtain ⟨rfl, rfl, rfl, _⟩ := h
      simp [wfT, stT, enT, emT]
    rw [if_neg h1] at h
    by_cases h2 : k = 2
    · subst h2
      rw [if_pos rfl] at h
      simp only [Option.some.injEq, Prod.mk.injEq] at h
      obtain ⟨rfl, rfl, rfl, _⟩ := h
      simp [wfT, stT, enT, emT]
    rw [if_neg h2] at h
    by_cases h3 : k = 3
    · subst h3
      rw [if_pos rfl] at h
      split at h
      · rename_i hl
        simp only [Option.some.injEq, Prod.mk.injEq] at h
        obtain ⟨rfl, rfl, rfl, _⟩ := h
        simp [wfT, stT, enT, emT, hl]
      · cases h
    rw [if_neg h3] at h
    by_cases h4 : k = 4
    · subst h4
      rw [if_pos rfl] at h
      split at h
      · cases h
      · rename_i hb
        obtain ⟨g1, g2, g3, g4⟩ := flatA alts (deep - 1) left false false false s e n x h
        have hne : alts.isEmpty = false := by
          cases hh : alts.isEmpty
          · rfl
          · simp [hh] at hb
        simp [wfT, stT, enT, emT, g1, g2, g3, g4, hne]
    rw [if_neg h4] at h
    cases h
theorem flatL : ∀ (l : List Term) (deep : Nat) (left : Int) (s e n s' e' n' : Bool) (x : Int), gEnds l deep left s e n = some (s', e', n', x) → wfL e l = true ∧ s' = (s || (n && stL l)) ∧ e' = enL e l ∧ n' = (n && emL l)
  | [], deep, left, s, e, n, s', e', n', x, h => by
    rw [gEnds] at h
    simp only [Option.some.injEq, Prod.mk.injEq] at h
    obtain ⟨rfl, rfl, rfl, _⟩ := h
    simp [wfL, stL, enL, emL]
  | t :: r, deep, left, s, e, n, s', e', n', x, h => by
    obtain ⟨s1, e1, n1, x1, hg, hb, hr⟩ := gEnds_cons h
    obtain ⟨g1, rfl, rfl, rfl⟩ := flatT t deep (left - 1) s1 e1 n1 x1 hg
    obtain ⟨k1, k2, k3, k4⟩ := flatL r deep x1 _ _ _ s' e' n' x hr
    refine ⟨?_, ?_, ?_, ?_⟩
    · rw [wfL, g1, hb, k1]
      rfl
    · rw [k2, stL]
      cases s <;> cases n <;> cases stT t <;> cases emT t <;> cases stL r <;> rfl
    · rw [k3, enL]
    · rw [k4, emL, Bool.and_assoc]
theorem flatA : ∀ (l : List (List Term)) (deep : Nat) (left : Int) (s e n s' e' n' : Bool) (x : Int), gAlts l deep left s e n = some (s', e', n', x) → wfA l = true ∧ s' = (s || stA l) ∧ e' = (e || enA l) ∧ n' = (n || emA l)
  | [], deep, left, s, e, n, s', e', n', x, h => by
    rw [gAlts] at h
    simp only [Option.some.injEq, Prod.mk.injEq] at h
    obtain ⟨rfl, rfl, rfl, _⟩ := h
    simp [wfA, stA, enA, emA]
  | a :: r, deep, left, s, e, n, s', e', n', x, h => by
    rw [gAlts] at h
    split at h
    · cases h
    · split at h
      · cases h
      · rename_i s1 e1 n1 x1 hg
        obtain ⟨g1, rfl, rfl, rfl⟩ := flatL a deep (left - 1) false false true s1 e1 n1 x1 hg
        obtain ⟨k1, rfl, rfl, rfl⟩ := flatA r deep x1 _ _ _ s' e' n' x h
        simp [wfA, stA, enA, emA, g1, k1, Bool.or_assoc]
end

/-- Fewer any letters ahead do no harm. -/
theorem wfL_mono : ∀ (l : List Term) (c c' : Bool), wfL c l = true → (c' = true → c = true) → wfL c' l = true
  | [], _, _, _, _ => by simp [wfL]
  | t :: r, c, c', h, hc => by
    rw [wfL] at h ⊢
    simp only [Bool.and_eq_true, Bool.not_eq_true'] at h ⊢
    obtain ⟨⟨h1, h2⟩, h3⟩ := h
    refine ⟨⟨h1, ?_⟩, wfL_mono r _ _ h3 ?_⟩
    · cases c'
      · rfl
      · rw [hc rfl] at h2
        exact h2
    · cases enT t <;> cases emT t <;> cases c' <;> simp_all

theorem enL_mono : ∀ (l : List Term) (c c' : Bool), (c' = true → c = true) → enL c' l = true → enL c l = true
  | [], _, _, hc, h => hc h
  | t :: r, c, c', hc, h => by
    rw [enL] at h ⊢
    refine enL_mono r _ _ ?_ h
    cases enT t <;> cases emT t <;> cases c' <;> simp_all

theorem wfL_append : ∀ (a r : List Term) (c : Bool), wfL c a = true → wfL (enL c a) r = true → wfL c (a ++ r) = true
  | [], _, _, _, h => h
  | t :: a, r, c, h, hr => by
    rw [wfL] at h
    simp only [Bool.and_eq_true] at h
    rw [List.cons_append, wfL, h.1.1, h.1.2, wfL_append a r _ h.2 hr]
    rfl

theorem emL_append (a r : List Term) : emL (a ++ r) = (emL a && emL r) := by
  induction a with
  | nil => simp [emL]
  | cons t a ih => simp [emL, ih, Bool.and_assoc]

theorem wfA_mem : ∀ (alts : List (List Term)), wfA alts = true → ∀ a ∈ alts, wfL false a = true
  | [], _, _, ha => by cases ha
  | b :: r, h, a, ha => by
    rw [wfA] at h
    simp only [Bool.and_eq_true] at h
    rcases List.mem_cons.1 ha with rfl | ha
    · exact h.1
    · exact wfA_mem r h.2 a ha
theorem enA_mem : ∀ (alts : List (List Term)) (a : List Term), a ∈ alts → enL false a = true → enA alts = true
  | [], _, ha, _ => by cases ha
  | b :: r, a, ha, h => by
    rw [enA]
    rcases List.mem_cons.1 ha with rfl | ha
    · rw [h]; rfl
    · rw [enA_mem r a ha h]; simp
theorem emA_eq : ∀ (alts : List (List Term)), emA alts = alts.any emL
  | [] => by simp [emA]
  | a :: r => by rw [emA, List.any_cons, emA_eq r]

/-- One alternative in the place of all: it may be still. -/
theorem wf_alt {c esc neg mark} {ch : Int} {cls : List (Int × Int)} {alts : List (List Term)} {r : List Term} (h : wfL c (.mk 4 ch esc neg mark cls alts :: r) = true) : c = false ∧ ∀ a ∈ alts, wfL false (a ++ r) = true := by
  rw [wfL] at h
  simp only [Bool.and_eq_true, Bool.not_eq_true', Term.kind] at h
  obtain ⟨⟨h1, h2⟩, h3⟩ := h
  have hc : c = false := by
    cases c
    · rfl
    · simp at h2
  subst hc
  have hwa : wfA alts = true := by
    rw [wfT] at h1
    simp at h1
    exact h1.2
  refine ⟨rfl, fun a ha => wfL_append a r false (wfA_mem alts hwa a ha) (wfL_mono r _ _ h3 fun he => ?_)⟩
  have := enA_mem alts a ha he
  simp [enT, this]


mutual
def brT : Term → Nat
  | .mk k _ _ _ _ _ alts => if k = 4 then 1 + brA alts else 0
def brL : List Term → Nat
  | [] => 0
  | t :: r => brT t + brL r
def brA : List (List Term) → Nat
  | [] => 0
  | a :: r => brL a + brA r
end
theorem brL_append (a r : List Term) : brL (a ++ r) = brL a + brL r := by
  induction a with
  | nil => simp [brL]
  | cons t a ih => simp only [List.cons_append, brL, ih]; omega
theorem brA_mem : ∀ (alts : List (List Term)) (a : List Term), a ∈ alts → brL a ≤ brA alts
  | [], _, ha => by cases ha
  | b :: r, a, ha => by
    rw [brA]
    rcases List.mem_cons.1 ha with rfl | ha
    · omega
    · have := brA_mem r a ha
      omega
theorem br_alt {esc neg mark : Bool} {ch : Int} {cls : List (Int × Int)} {alts : List (List Term)} {r a : List Term} (ha : a ∈ alts) : brL (a ++ r) < brL (.mk 4 ch esc neg mark cls alts :: r) := by
  have := brA_mem alts a ha
  rw [brL_append, brL, brT, if_pos rfl]
  omega
end Pl
end Go.Proofs.YthkbkiigpflonaaDoor
