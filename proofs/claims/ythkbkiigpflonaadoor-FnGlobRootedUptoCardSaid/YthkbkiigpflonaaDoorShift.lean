/-
  A match is the same with a slash ahead of the pattern and of the name. No program in sight.
-/
import Derived.Test.YthkbkiigpflonaaDoorMatch
namespace Go.Proofs.YthkbkiigpflonaaDoor
namespace Pl
set_option linter.unusedSimpArgs false

def shP (x : Option (Nat × Nat)) : Option (Nat × Nat) := x.map fun a => (a.1 + 1, a.2 + 1)
/-- One place further on, in both. -/
def sh (s : St) : St := ⟨s.pi + 1, s.ni + 1, s.sos, shP s.ds, shP s.st⟩
def shO : Out → Out
  | .next s => .next (sh s)
  | .back p => .back (p + 1)
  | o => o

theorem slashM_sh : ∀ (l : List UInt8) (p : Nat), slashM l (p + 1) = (slashM l p).map (· + 1)
  | [], p => rfl
  | c :: r, p => by
    rw [slashM, slashM]
    split
    · rfl
    · exact slashM_sh r (p + 1)
theorem clsF_sh : ∀ (k : Nat) (l : List UInt8) (last r p : Nat), clsF k l last r (p + 1) = (clsF k l last r p).map fun x => (x.1, x.2 + 1)
  | 0, _, _, _, _ => rfl
  | k + 1, [], last, r, p => rfl
  | k + 1, c :: t, last, r, p => by
    rw [clsF, clsF]
    have e : ∀ q, p + 1 + q = p + q + 1 := fun q => by omega
    dsimp only
    simp only [e, clsF_sh k]
    by_cases h1 : c.toNat = 93
    · rw [if_pos h1, if_pos h1]
      rfl
    rw [if_neg h1, if_neg h1]
    (repeat' split) <;> rfl

theorem step_sh (pat name : List UInt8) (s : St) : step (47 :: pat) (47 :: name) (sh s) = shO (step pat name s) := by
  obtain ⟨pi, ni, sos, ds, st⟩ := s
  unfold step
  simp only [sh, List.length_cons, List.drop_succ_cons, Nat.add_le_add_iff_right]
  split
  · rfl
  cases hd : pat.drop pi with
  | nil => rfl
  | cons c t =>
    dsimp only
    have e2 : pi + 1 + 2 = pi + 2 + 1 := by omega
    have e3 : ∀ q, pi + 2 + 1 + q = pi + 2 + q + 1 := fun q => by omega
    by_cases h42 : c.toNat = 42
    · rw [if_pos h42, if_pos h42]
      by_cases h43 : t.head? = some 42
      · rw [if_pos h43, if_pos h43, e2]
        cases sos
        · rfl
        · by_cases h0 : t.drop 1 = []
          · simp only [h0, if_true]
            rfl
          · by_cases h47 : (dec (t.drop 1)).1 = 47
            · simp only [h0, h47, if_true, if_false, e3]
              rfl
            · simp only [h0, h47, if_true, if_false]
              rfl
      · rw [if_neg h43, if_neg h43]
        rfl
    rw [if_neg h42, if_neg h42]
    split
    · split
      · rfl
      · simp only [shO, sh, Out.next.injEq, St.mk.injEq, and_true, true_and]
        omega
    split
    · split
      · rfl
      · rw [clsF_sh]
        cases hc : clsF (t.length + 1) t 1114111 (dec (name.drop ni)).1 (pi + 1) with
        | none => rfl
        | some x =>
          obtain ⟨m, p⟩ := x
          cases m
          · simp only [Option.map_some, Nat.add_le_add_iff_right]
            split <;> rfl
          · simp only [Option.map_some, List.drop_succ_cons]
            cases closerM (pat.drop p) false 0 with
            | none => rfl
            | some j =>
              simp only [shO, sh, Out.next.injEq, St.mk.injEq, and_true, true_and]
              omega
    split
    · rfl
    split
    · split
      · rfl
      split
      · simp only [shO, sh, Out.next.injEq, St.mk.injEq, and_true, true_and]
        omega
      · rfl
    split
    · simp only [shO, sh, Out.next.injEq, St.mk.injEq, and_true, true_and]
      omega
    · cases pi with
      | zero => simp [shO]
      | succ q =>
        simp only [shO, Nat.add_sub_cancel, Nat.succ_pos, true_and, List.getElem?_cons_succ]
        split <;> rfl

theorem fails_sh (v : Bool) (pat : List UInt8) (p : Nat) : fails v (47 :: pat) (p + 1) = shO (fails v pat p) := by
  unfold fails
  simp only [List.length_cons, List.drop_succ_cons, Nat.add_lt_add_iff_right]
  split <;> rfl
theorem backD_sh (v : Bool) (pat name : List UInt8) (s : St) (p : Nat) : backD v (47 :: pat) (47 :: name) (sh s) (p + 1) = shO (backD v pat name s p) := by
  obtain ⟨pi, ni, sos, ds, st⟩ := s
  unfold backD
  cases ds with
  | none => exact fails_sh v pat p
  | some d =>
    obtain ⟨dp, dn⟩ := d
    simp only [sh, shP, Option.map_some, List.length_cons, List.drop_succ_cons, Nat.add_lt_add_iff_right, slashM_sh]
    split
    · rfl
    cases slashM (name.drop dn) dn with
    | none => exact fails_sh v pat p
    | some q => rfl
theorem backs_sh (v : Bool) (pat name : List UInt8) (s : St) (p : Nat) : backs v (47 :: pat) (47 :: name) (sh s) (p + 1) = shO (backs v pat name s p) := by
  have hd := backD_sh v pat name s p
  obtain ⟨pi, ni, sos, ds, st⟩ := s
  unfold backs
  cases st with
  | none => exact hd
  | some d =>
    obtain ⟨dp, dn⟩ := d
    rw [hd]
    simp only [sh, shP, Option.map_some, List.length_cons, List.drop_succ_cons, Nat.add_lt_add_iff_right]
    split
    · rfl
    split
    · rfl
    split
    · rfl
    · simp only [shO, sh, shP, Option.map_some, Out.next.injEq, St.mk.injEq, Option.some.injEq, Prod.mk.injEq, and_true, true_and]
      omega

theorem sos0_sh (pat : List UInt8) (pi : Nat) : sos0 (47 :: pat) (pi + 1) = sos0 pat pi := by
  unfold sos0
  cases pi with
  | zero => simp
  | succ q => simp

mutual
theorem matchF_sh (v : Bool) (name : List UInt8) : ∀ (k : Nat) (pat : List UInt8) (s : St), matchF k v (47 :: pat) (47 :: name) (sh s) = matchF k v pat name s
  | 0, _, _ => by rw [matchF, matchF]
  | k + 1, pat, s => by
    rw [matchF, matchF, step_sh]
    cases step pat name s with
    | next s' => exact matchF_sh v name k pat s'
    | ret b => rfl
    | bad => rfl
    | zero => simp only [shO, sh, List.drop_succ_cons]
    | alts =>
      simp only [shO, sh, List.drop_succ_cons, List.take_succ_cons]
      have e : s.pi + 1 + 1 + 0 = s.pi + 1 + 1 := rfl
      cases closeM (pat.drop (s.pi + 1)) 0 1 0 with
      | none => rfl
      | some ci =>
        have h := altsF_sh v name k (pat.take s.pi) ((pat.drop (s.pi + 1)).take ci) (pat.drop (s.pi + 1 + (ci + 1))) s
        have e : s.pi + 1 + 1 + (ci + 1) = s.pi + 1 + (ci + 1) + 1 := by omega
        simp only [e, List.drop_succ_cons]
        exact h
    | back p =>
      simp only [shO, backs_sh]
      cases backs v pat name s p with
      | next s' => exact matchF_sh v name k pat s'
      | ret b => rfl
      | bad => rfl
      | zero => rfl
      | alts => rfl
      | back p => rfl
theorem altsF_sh (v : Bool) (name : List UInt8) : ∀ (k : Nat) (ahead inner rest : List UInt8) (s : St), altsF k v (47 :: ahead) inner rest (47 :: name) (sh s) = altsF k v ahead inner rest name s
  | 0, _, _, _, _ => by rw [altsF, altsF]
  | k + 1, ahead, inner, rest, s => by
    have h := fun x => matchF_sh v name k (ahead ++ x) ⟨s.pi, s.ni, sos0 ahead s.pi, s.ds, s.st⟩
    have e : ∀ x, matchF k v (47 :: ahead ++ x) (47 :: name) ⟨(sh s).pi, (sh s).ni, sos0 (47 :: ahead) (sh s).pi, (sh s).ds, (sh s).st⟩ = matchF k v (ahead ++ x) name ⟨s.pi, s.ni, sos0 ahead s.pi, s.ds, s.st⟩ := fun x => by
      rw [← h x]
      have : sos0 (47 :: ahead) (sh s).pi = sos0 ahead s.pi := sos0_sh ahead s.pi
      rw [this]
      rfl
    rw [altsF, altsF]
    cases nextM inner 0 1 0 with
    | none => exact e _
    | some j =>
      simp only [e]
      cases matchF k v (ahead ++ (inner.take j ++ rest)) name ⟨s.pi, s.ni, sos0 ahead s.pi, s.ds, s.st⟩ with
      | none => rfl
      | some x =>
        obtain ⟨b1, b2⟩ := x
        simp only [altsF_sh v name k ahead (inner.drop (j + 1)) rest s]
end

/-- A pattern and a name with a slash ahead of both. -/
theorem rooted (v : Bool) (k : Nat) (pat name : List UInt8) (b : Bool) (h : matchF k v pat name ⟨0, 0, true, none, none⟩ = some (b, false)) : matchF (k + 1) v (47 :: pat) (47 :: name) ⟨0, 0, true, none, none⟩ = some (b, false) := by
  have d : ∀ t : List UInt8, dec (47 :: t) = (47, 1) := fun t => by
    unfold dec
    rw [if_neg (by simp)]
    have := decode_rune 47 (by unfold fine; omega) t
    exact this
  have e : step (47 :: pat) (47 :: name) ⟨0, 0, true, none, none⟩ = .next (sh ⟨0, 0, true, none, none⟩) := by
    unfold step
    simp only [List.length_cons, List.drop_zero, d]
    rfl
  rw [matchF, e, ← h]
  exact matchF_sh v name k pat _
/-- A pattern with a slash ahead does not match a name without. -/
theorem unrooted (v : Bool) (pat name : List UInt8) (hv : validM pat 0 0 = true) (hn : name ≠ []) (h : (dec name).1 ≠ 47) : matchF 1 v (47 :: pat) name ⟨0, 0, true, none, none⟩ = some (false, false) := by
  have d : ∀ t : List UInt8, dec (47 :: t) = (47, 1) := fun t => by
    unfold dec
    rw [if_neg (by simp)]
    exact decode_rune 47 (by unfold fine; omega) t
  have hl : ¬ name.length ≤ 0 := by
    cases name with
    | nil => exact absurd rfl hn
    | cons => simp
  have e : step (47 :: pat) name ⟨0, 0, true, none, none⟩ = .back 0 := by
    unfold step
    rw [if_neg hl]
    simp only [List.drop_zero, d]
    rw [if_neg (by decide), if_neg (by decide), if_neg (by decide), if_neg (by decide), if_neg (by decide), if_neg (fun e => h e.symm), if_neg (fun e => Nat.lt_irrefl 0 e.1)]
  have e2 : backs v (47 :: pat) name ⟨0, 0, true, none, none⟩ 0 = .ret false := by
    unfold backs backD fails
    have : validM (47 :: pat) 0 0 = true := by rw [validM]; exact hv
    simp [this]
  rw [matchF, e]
  dsimp only
  rw [e2]
end Pl
end Go.Proofs.YthkbkiigpflonaaDoor
