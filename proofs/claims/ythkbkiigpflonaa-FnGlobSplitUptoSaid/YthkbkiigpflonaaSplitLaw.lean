/-
  The plain law of FnGlobSplit: a quoted name, a slash and a text whose first part has something special in it are cut at that slash; that text alone is not cut. It is said of the functions that the kit's print.sh has printed.
-/
import Derived.Test.YthkbkiigpflonaaPFnGlobSplitx2
import Derived.Test.YthkbkiigpflonaaRunes
namespace Go.Proofs.Ythkbkiigpflonaa
open Go.RowKit Go.Proofs.YthkbkiigpflonaaW.PrintWords Go.Proofs.Ythkbkiigpflonaa.PFnGlobSplit
namespace Pl

theorem S_sz (l : List UInt8) : ((S l).size : Int) = l.length := by rw [S_size]
theorem bt_S (pre t : List UInt8) (c : UInt8) : bt (S (pre ++ c :: t)) (pre.length : Int) = (c.toNat : Int) := by
  unfold bt
  have h : ((pre.length : Int)).toNat < (S (pre ++ c :: t)).size := by rw [S_size]; simp
  rw [dif_pos h]
  simp [S, ByteArray.getElem_eq_getElem_data]
theorem bt_S1 (pre t : List UInt8) (c d : UInt8) : bt (S (pre ++ c :: d :: t)) ((pre.length : Int) + 1) = (d.toNat : Int) := by
  have := bt_S (pre ++ [c]) t d
  simpa using this
theorem w64 {n : Int} (h0 : 0 ≤ n) (h1 : n ≤ 4611686018427387904) : wrap64 n = n := by unfold wrap64; omega

/-! ### to unescape -/
def nums (l : List UInt8) : List Int := l.map fun b => (b.toNat : Int)
theorem strOf (l : List UInt8) : strOfNums (nums l) = S l := by
  unfold strOfNums nums S
  simp [List.map_map, Function.comp_def]

/-- A byte that is no backslash goes over. -/
theorem un_plain (pre t : List UInt8) (c : UInt8) (acc : List Int) (r : ByteArray) (hc : c.toNat ≠ 92) (hl : (pre ++ c :: t).length ≤ 1099511627776) (ha : acc.length ≤ pre.length)
    (h : ∃ k, doublestar_unescapeMeta.l0 k (S (pre ++ c :: t)) (acc ++ [(c.toNat : Int)]) ((pre.length : Int) + 1) = some r) :
    ∃ k, doublestar_unescapeMeta.l0 k (S (pre ++ c :: t)) acc (pre.length : Int) = some r := by
  obtain ⟨k, h⟩ := h
  have hs := S_sz (pre ++ c :: t)
  simp only [List.length_append, List.length_cons] at hs hl
  refine ⟨k + 2, ?_⟩
  simp only [doublestar_unescapeMeta.l0]
  rw [if_pos (by omega), if_pos (by omega), bt_S, if_neg (by omega)]
  simp only [doublestar_unescapeMeta.j1]
  rw [if_neg (by decide), if_pos (by omega), if_pos (by omega), if_pos (by omega), bt_S, w64 (by omega) (by omega)]
  exact h

/-- An escaped sign goes over alone. -/
theorem un_esc (pre t : List UInt8) (d : UInt8) (acc : List Int) (r : ByteArray) (hd : d.toNat = 42 ∨ d.toNat = 63 ∨ d.toNat = 91 ∨ d.toNat = 93 ∨ d.toNat = 123 ∨ d.toNat = 125) (hl : (pre ++ 92 :: d :: t).length ≤ 1099511627776) (ha : acc.length ≤ pre.length)
    (h : ∃ k, doublestar_unescapeMeta.l0 k (S (pre ++ 92 :: d :: t)) (acc ++ [(d.toNat : Int)]) ((pre.length : Int) + 2) = some r) :
    ∃ k, doublestar_unescapeMeta.l0 k (S (pre ++ 92 :: d :: t)) acc (pre.length : Int) = some r := by
  obtain ⟨k, h⟩ := h
  have hs := S_sz (pre ++ 92 :: d :: t)
  simp only [List.length_append, List.length_cons] at hs hl
  refine ⟨k + 2, ?_⟩
  have e2 : wrap64 ((pre.length : Int) + 1 + 1) = (pre.length : Int) + 2 := by rw [w64 (by omega) (by omega)]; omega
  simp only [doublestar_unescapeMeta.l0]
  rw [if_pos (by omega), if_pos (by omega), bt_S, if_pos (by decide)]
  simp only [doublestar_unescapeMeta.j1]
  rw [w64 (n := (pre.length : Int) + 1) (by omega) (by omega), if_pos (decide_eq_true (by omega)), if_pos (by omega), if_pos (by omega), bt_S1, e2]
  rcases hd with e | e | e | e | e | e
  all_goals
    rw [e] at h ⊢
    simp (config := { decide := true }) only [if_true, if_false]
    rw [if_pos (by omega)]
    exact h

theorem un_end (l : List UInt8) (acc : List Int) : ∃ k, doublestar_unescapeMeta.l0 k (S l) acc (l.length : Int) = some (strOfNums acc) := by
  refine ⟨1, ?_⟩
  simp only [doublestar_unescapeMeta.l0]
  rw [if_neg (by rw [S_sz]; omega)]

theorem un_plains (bs : List UInt8) : ∀ (pre t : List UInt8) (acc : List Int) (r : ByteArray), (∀ c ∈ bs, c.toNat ≠ 92) → (pre ++ (bs ++ t)).length ≤ 1099511627776 → acc.length ≤ pre.length →
    (∃ k, doublestar_unescapeMeta.l0 k (S (pre ++ (bs ++ t))) (acc ++ nums bs) ((pre.length : Int) + bs.length) = some r) →
    ∃ k, doublestar_unescapeMeta.l0 k (S (pre ++ (bs ++ t))) acc (pre.length : Int) = some r := by
  induction bs with
  | nil =>
    intro pre t acc r _ _ _ h
    simpa [nums] using h
  | cons c bs ih =>
    intro pre t acc r hb hl ha h
    have e : pre ++ ((c :: bs) ++ t) = pre ++ c :: (bs ++ t) := by simp
    have e' : pre ++ c :: (bs ++ t) = (pre ++ [c]) ++ (bs ++ t) := by simp
    rw [e] at h hl ⊢
    refine un_plain pre (bs ++ t) c acc r (hb c (by simp)) hl ha ?_
    have h1 := ih (pre ++ [c]) t (acc ++ [(c.toNat : Int)]) r (fun x hx => hb x (by simp [hx])) (by rw [← e']; exact hl) (by simp; omega)
    rw [← e'] at h1
    have e1 : ((pre ++ [c]).length : Int) = (pre.length : Int) + 1 := by simp
    rw [e1] at h1
    refine h1 ?_
    have e2 : acc ++ [(c.toNat : Int)] ++ nums bs = acc ++ nums (c :: bs) := by simp [nums]
    have e3 : (pre.length : Int) + 1 + (bs.length : Int) = (pre.length : Int) + ((c :: bs).length : Int) := by simp; omega
    rw [e2, e3]
    exact h

/-- A name's letter without commas and backslashes. -/
def plainName (rs : List Int) : Prop := ∀ c ∈ rs, fine c ∧ c ≠ 44 ∧ c ≠ 92

theorem not92 {c : Int} (h : fine c) (h92 : c ≠ 92) : ∀ x ∈ rune c, x.toNat ≠ 92 := by
  intro x hx
  rcases rune_byte c h x hx with ⟨_, e, _⟩ | ⟨_, e⟩ <;> omega

theorem un_quoted (rs : List Int) : ∀ (pre : List UInt8) (acc : List Int), plainName rs → (pre ++ quoted rs).length ≤ 1099511627776 → acc.length ≤ pre.length →
    ∃ k, doublestar_unescapeMeta.l0 k (S (pre ++ quoted rs)) acc (pre.length : Int) = some (strOfNums (acc ++ nums (rs.flatMap rune))) := by
  induction rs with
  | nil =>
    intro pre acc _ _ _
    simpa [quoted, nums] using un_end pre acc
  | cons c rs ih =>
    intro pre acc hp hl ha
    obtain ⟨hf, h44, h92⟩ := hp c (by simp)
    have hp' : plainName rs := fun x hx => hp x (by simp [hx])
    cases hs : special c with
    | false =>
      have e : pre ++ quoted (c :: rs) = pre ++ (rune c ++ quoted rs) := by simp [quoted, hs]
      rw [e] at hl ⊢
      refine un_plains (rune c) pre (quoted rs) acc _ (not92 hf h92) hl ha ?_
      have h1 := ih (pre ++ rune c) (acc ++ nums (rune c)) hp' (by rw [List.append_assoc]; exact hl) (by simp [nums]; omega)
      have e1 : ((pre ++ rune c).length : Int) = (pre.length : Int) + ((rune c).length : Int) := by simp
      have e2 : acc ++ nums (rune c) ++ nums (rs.flatMap rune) = acc ++ nums ((c :: rs).flatMap rune) := by simp [nums]
      rw [e1, e2, List.append_assoc] at h1
      exact h1
    | true =>
      have hs' := hs
      simp only [special, Bool.or_eq_true, beq_iff_eq] at hs'
      obtain ⟨d, hd, hdc⟩ : ∃ d : UInt8, rune c = [d] ∧ (d.toNat : Int) = c := by
        rcases rune_shape c hf with ⟨k, e⟩ | ⟨k, _⟩ | ⟨k, _⟩ | ⟨k, _⟩
        · refine ⟨_, e, ?_⟩
          simp
          have := hf.1
          omega
        all_goals omega
      have e : pre ++ quoted (c :: rs) = pre ++ 92 :: d :: quoted rs := by simp [quoted, hs, hd]
      rw [e] at hl ⊢
      refine un_esc pre (quoted rs) d acc _ (by omega) hl ha ?_
      have h1 := ih (pre ++ [92, d]) (acc ++ [(d.toNat : Int)]) hp' (by simpa using hl) (by simp; omega)
      have e1 : ((pre ++ [92, d]).length : Int) = (pre.length : Int) + 2 := by simp
      have e2 : acc ++ [(d.toNat : Int)] ++ nums (rs.flatMap rune) = acc ++ nums ((c :: rs).flatMap rune) := by simp [nums, hd]
      have e3 : (pre ++ [92, d]) ++ quoted rs = pre ++ 92 :: d :: quoted rs := by simp
      rw [e1, e2, e3] at h1
      exact h1

/-- A quoted name is unescaped to the name. -/
theorem unescapes (rs : List Int) (hp : plainName rs) (hl : (quoted rs).length ≤ 1099511627776) : ∃ k, doublestar_unescapeMeta.f k (S (quoted rs)) = some (S (rs.flatMap rune)) := by
  obtain ⟨k, h⟩ := un_quoted rs [] [] hp (by simpa using hl) (by simp)
  refine ⟨k, ?_⟩
  unfold doublestar_unescapeMeta.f
  have e : strOfNums ([] ++ nums (rs.flatMap rune)) = S (rs.flatMap rune) := by rw [List.nil_append, strOf]
  rw [e] at h
  exact h

/-! ### to find the place -/
section
variable {X a b : ByteArray}
/-- From the state (sp, i) of the search the state (sp', i') is reached. -/
def Go1 (X a b : ByteArray) (sp i sp' i' : Int) : Prop := ∀ r, (∃ k, doublestar_SplitPattern.l0 k X a b sp' i' = some r) → ∃ k, doublestar_SplitPattern.l0 k X a b sp i = some r
theorem Go1.refl (sp i : Int) : Go1 X a b sp i sp i := fun _ h => h
theorem Go1.trans {sp i sp' i' sp'' i'' : Int} (h : Go1 X a b sp i sp' i') (k : Go1 X a b sp' i' sp'' i'') : Go1 X a b sp i sp'' i'' := fun r hr => h r (k r hr)

theorem go_esc (pre t : List UInt8) (d : UInt8) (sp : Int) (hX : X = S (pre ++ 92 :: d :: t)) (hl : (pre ++ 92 :: d :: t).length ≤ 1099511627776) : Go1 X a b sp pre.length sp ((pre.length : Int) + 2) := by
  subst hX
  rintro r ⟨k, h⟩
  have hs := S_sz (pre ++ 92 :: d :: t)
  simp only [List.length_append, List.length_cons] at hs hl
  refine ⟨k + 1, ?_⟩
  have e2 : wrap64 (wrap64 ((pre.length : Int) + 1) + 1) = (pre.length : Int) + 2 := by rw [w64 (n := (pre.length : Int) + 1) (by omega) (by omega), w64 (by omega) (by omega)]; omega
  simp only [doublestar_SplitPattern.l0]
  rw [if_pos (by omega), if_pos (by omega), bt_S, if_pos (by decide), e2]
  exact h

theorem go_plain (pre t : List UInt8) (c : UInt8) (sp : Int) (hX : X = S (pre ++ c :: t)) (hl : (pre ++ c :: t).length ≤ 1099511627776)
    (hc : c.toNat ≠ 92 ∧ c.toNat ≠ 47 ∧ c.toNat ≠ 42 ∧ c.toNat ≠ 63 ∧ c.toNat ≠ 91 ∧ c.toNat ≠ 123) : Go1 X a b sp pre.length sp ((pre.length : Int) + 1) := by
  subst hX
  rintro r ⟨k, h⟩
  have hs := S_sz (pre ++ c :: t)
  simp only [List.length_append, List.length_cons] at hs hl
  refine ⟨k + 1, ?_⟩
  simp only [doublestar_SplitPattern.l0]
  rw [if_pos (by omega), if_pos (by omega), bt_S, if_neg (by omega), if_neg (by omega), if_neg (by omega), if_neg (by omega), if_neg (by omega), if_neg (by omega), w64 (by omega) (by omega)]
  exact h

theorem go_slash (pre t : List UInt8) (sp : Int) (hX : X = S (pre ++ 47 :: t)) (hl : (pre ++ 47 :: t).length ≤ 1099511627776) : Go1 X a b sp pre.length pre.length ((pre.length : Int) + 1) := by
  subst hX
  rintro r ⟨k, h⟩
  have hs := S_sz (pre ++ 47 :: t)
  simp only [List.length_append, List.length_cons] at hs hl
  refine ⟨k + 1, ?_⟩
  simp only [doublestar_SplitPattern.l0]
  rw [if_pos (by omega), if_pos (by omega), bt_S, if_neg (by decide), if_pos (by decide), w64 (by omega) (by omega)]
  exact h

theorem go_stop (pre t : List UInt8) (c : UInt8) (sp : Int) (hX : X = S (pre ++ c :: t)) (hc : c.toNat = 42 ∨ c.toNat = 63 ∨ c.toNat = 91 ∨ c.toNat = 123) (r : ByteArray × ByteArray)
    (h : ∃ k, doublestar_SplitPattern.j1 k X a b sp = some r) : ∃ k, doublestar_SplitPattern.l0 k X a b sp pre.length = some r := by
  subst hX
  obtain ⟨k, h⟩ := h
  have hs := S_sz (pre ++ c :: t)
  simp only [List.length_append, List.length_cons] at hs
  refine ⟨k + 1, ?_⟩
  simp only [doublestar_SplitPattern.l0]
  rw [if_pos (by omega), if_pos (by omega), bt_S, if_neg (by omega), if_neg (by omega)]
  by_cases h1 : (c.toNat : Int) = 42
  · rw [if_pos h1]; exact h
  rw [if_neg h1]
  by_cases h2 : (c.toNat : Int) = 63
  · rw [if_pos h2]; exact h
  rw [if_neg h2]
  by_cases h3 : (c.toNat : Int) = 91
  · rw [if_pos h3]; exact h
  rw [if_neg h3, if_pos (by omega)]
  exact h

/-- Bytes that mean nothing to the search, but for slashes. -/
theorem go_plains (bs : List UInt8) : ∀ (pre t : List UInt8) (sp : Int), X = S (pre ++ (bs ++ t)) → (pre ++ (bs ++ t)).length ≤ 1099511627776 →
    (∀ c ∈ bs, c.toNat ≠ 92 ∧ c.toNat ≠ 47 ∧ c.toNat ≠ 42 ∧ c.toNat ≠ 63 ∧ c.toNat ≠ 91 ∧ c.toNat ≠ 123) → Go1 X a b sp pre.length sp ((pre.length : Int) + bs.length) := by
  induction bs with
  | nil =>
    intro pre t sp _ _ _
    have := Go1.refl (X := X) (a := a) (b := b) sp pre.length
    simpa using this
  | cons c bs ih =>
    intro pre t sp hX hl hc
    have e : pre ++ ((c :: bs) ++ t) = pre ++ c :: (bs ++ t) := by simp
    have e' : pre ++ ((c :: bs) ++ t) = (pre ++ [c]) ++ (bs ++ t) := by simp
    have h1 := go_plain (X := X) (a := a) (b := b) pre (bs ++ t) c sp (by rw [hX, e]) (by rw [← e]; exact hl) (hc c (by simp))
    have h2 := ih (pre ++ [c]) t sp (by rw [hX, e']) (by rw [← e']; exact hl) (fun x hx => hc x (by simp [hx]))
    have e1 : ((pre ++ [c]).length : Int) = (pre.length : Int) + 1 := by simp
    rw [e1] at h2
    have h3 := h1.trans h2
    have e2 : (pre.length : Int) + 1 + (bs.length : Int) = (pre.length : Int) + ((c :: bs).length : Int) := by simp; omega
    rw [e2] at h3
    exact h3

/-- The search goes over a letter that is written as itself. -/
theorem go_rune (pre t : List UInt8) (c : Int) (sp : Int) (hX : X = S (pre ++ (rune c ++ t))) (hl : (pre ++ (rune c ++ t)).length ≤ 1099511627776) (hf : fine c)
    (hc : c ≠ 92 ∧ c ≠ 47 ∧ c ≠ 42 ∧ c ≠ 63 ∧ c ≠ 91 ∧ c ≠ 123) : Go1 X a b sp pre.length sp ((pre ++ rune c).length : Nat) := by
  have h := go_plains (X := X) (a := a) (b := b) (rune c) pre t sp hX hl (fun x hx => by
    rcases rune_byte c hf x hx with ⟨_, e, _⟩ | ⟨_, e⟩ <;> omega)
  simpa using h

/-- .. and behind a backslash. -/
theorem go_esc_rune (pre t : List UInt8) (c : Int) (sp : Int) (hX : X = S (pre ++ (92 :: (rune c ++ t)))) (hl : (pre ++ (92 :: (rune c ++ t))).length ≤ 1099511627776) (hf : fine c) : Go1 X a b sp pre.length sp ((pre ++ (92 :: rune c)).length : Nat) := by
  obtain ⟨d, bs, hd⟩ : ∃ d bs, rune c = d :: bs := by
    cases h : rune c with
    | nil => have := rune_pos c; rw [h] at this; simp at this
    | cons d bs => exact ⟨d, bs, rfl⟩
  have e : pre ++ (92 :: (rune c ++ t)) = pre ++ 92 :: d :: (bs ++ t) := by rw [hd]; simp
  have e' : pre ++ (92 :: (rune c ++ t)) = (pre ++ [92, d]) ++ (bs ++ t) := by rw [hd]; simp
  have h1 := go_esc (X := X) (a := a) (b := b) pre (bs ++ t) d sp (by rw [hX, e]) (by rw [← e]; exact hl)
  have h2 := go_plains (X := X) (a := a) (b := b) bs (pre ++ [92, d]) t sp (by rw [hX, e']) (by rw [← e']; exact hl) (fun x hx => by
    rcases rune_byte c hf x (by rw [hd]; simp [hx]) with ⟨_, _, e2⟩ | ⟨_, e2⟩
    · rw [hd] at e2
      simp at e2
      rw [e2.2] at hx
      simp at hx
    · omega)
  have e1 : ((pre ++ [92, d]).length : Int) = (pre.length : Int) + 2 := by simp
  rw [e1] at h2
  have h3 := h1.trans h2
  have e2 : (pre.length : Int) + 2 + (bs.length : Int) = ((pre ++ (92 :: rune c)).length : Nat) := by rw [hd]; simp; omega
  rw [e2] at h3
  exact h3

/-- The search goes over a quoted name. -/
theorem go_quoted (rs : List Int) : ∀ (pre t : List UInt8) (sp : Int), X = S (pre ++ (quoted rs ++ t)) → (pre ++ (quoted rs ++ t)).length ≤ 1099511627776 → (∀ c ∈ rs, fine c) → ∃ sp', Go1 X a b sp pre.length sp' ((pre ++ quoted rs).length : Nat) := by
  induction rs with
  | nil =>
    intro pre t sp _ _ _
    exact ⟨sp, by simpa [quoted] using Go1.refl (X := X) (a := a) (b := b) sp pre.length⟩
  | cons c rs ih =>
    intro pre t sp hX hl hf
    have hfc := hf c (by simp)
    cases hs : special c with
    | true =>
      have e : pre ++ (quoted (c :: rs) ++ t) = pre ++ (92 :: (rune c ++ (quoted rs ++ t))) := by simp [quoted, hs]
      have e' : pre ++ (quoted (c :: rs) ++ t) = (pre ++ (92 :: rune c)) ++ (quoted rs ++ t) := by simp [quoted, hs]
      have h1 := go_esc_rune (X := X) (a := a) (b := b) pre (quoted rs ++ t) c sp (by rw [hX, e]) (by rw [← e]; exact hl) hfc
      obtain ⟨sp', h2⟩ := ih (pre ++ (92 :: rune c)) t sp (by rw [hX, e']) (by rw [← e']; exact hl) (fun x hx => hf x (by simp [hx]))
      have h3 := h1.trans h2
      have e2 : (pre ++ (92 :: rune c)) ++ quoted rs = pre ++ quoted (c :: rs) := by simp [quoted, hs]
      rw [e2] at h3
      exact ⟨sp', h3⟩
    | false =>
      have e : pre ++ (quoted (c :: rs) ++ t) = pre ++ (rune c ++ (quoted rs ++ t)) := by simp [quoted, hs]
      have e' : pre ++ (quoted (c :: rs) ++ t) = (pre ++ rune c) ++ (quoted rs ++ t) := by simp [quoted, hs]
      have e2 : (pre ++ rune c) ++ quoted rs = pre ++ quoted (c :: rs) := by simp [quoted, hs]
      simp only [special, Bool.or_eq_false_iff, beq_eq_false_iff_ne] at hs
      by_cases h47 : c = 47
      · have hr : rune c = [47] := by rw [h47]; rfl
        have h1 := go_slash (X := X) (a := a) (b := b) pre (quoted rs ++ t) sp (by rw [hX, e, hr]; simp) (by rw [e, hr] at hl; simpa using hl)
        obtain ⟨sp', h2⟩ := ih (pre ++ rune c) t pre.length (by rw [hX, e']) (by rw [← e']; exact hl) (fun x hx => hf x (by simp [hx]))
        have e3 : ((pre ++ rune c).length : Int) = (pre.length : Int) + 1 := by rw [hr]; simp
        rw [e3] at h2
        have h3 := h1.trans h2
        rw [e2] at h3
        exact ⟨sp', h3⟩
      · have h1 := go_rune (X := X) (a := a) (b := b) pre (quoted rs ++ t) c sp (by rw [hX, e]) (by rw [← e]; exact hl) hfc (by omega)
        obtain ⟨sp', h2⟩ := ih (pre ++ rune c) t sp (by rw [hX, e']) (by rw [← e']; exact hl) (fun x hx => hf x (by simp [hx]))
        have h3 := h1.trans h2
        rw [e2] at h3
        exact ⟨sp', h3⟩

/-- A letter of a pattern: it is one of names. -/
theorem ok_letter {c : Int} {esc neg mark : Bool} {cls : List (Int × Int)} {alts : List (List Term)} (h : okTerm (.mk 0 c esc neg mark cls alts)) : letter c = true := by
  obtain ⟨deep, left, r, hr⟩ := h
  cases hl : letter c with
  | true => rfl
  | false =>
    rw [gTerm, if_pos rfl, hl] at hr
    cases hr
theorem letter_no_slash {c : Int} (h : letter c = true) : c ≠ 47 := by
  rintro rfl
  revert h
  decide

/-- The kinds that may be. -/
theorem ok_kind {t : Term} (h : okTerm t) : t.kind = 0 ∨ t.kind = 1 ∨ t.kind = 2 ∨ t.kind = 3 ∨ t.kind = 4 := by
  obtain ⟨k, c, esc, neg, mark, cls, alts⟩ := t
  obtain ⟨deep, left, r, hr⟩ := h
  simp only [Term.kind]
  rw [gTerm] at hr
  by_cases h0 : k = 0
  · exact .inl h0
  by_cases h1 : k = 1
  · exact .inr (.inl h1)
  by_cases h2 : k = 2
  · exact .inr (.inr (.inl h2))
  by_cases h3 : k = 3
  · exact .inr (.inr (.inr (.inl h3)))
  by_cases h4 : k = 4
  · exact .inr (.inr (.inr (.inr h4)))
  rw [if_neg h0, if_neg h1, if_neg h2, if_neg h3, if_neg h4] at hr
  cases hr

theorem topTerm_mk (k c : Int) (esc neg mark : Bool) (cls : List (Int × Int)) (alts : List (List Term)) :
    topTerm (.mk k c esc neg mark cls alts) = if k = 0 ∧ esc = false ∧ (c = 44 ∨ c = 93) then rune c else if k = 3 then clsText (.mk k c esc neg mark cls alts) true else term (.mk k c esc neg mark cls alts) := rfl

/-- The search comes to the first special sign of terms, and has met no slash. -/
theorem go_terms (l : List Term) : ∀ (pre t : List UInt8) (sp : Int), X = S (pre ++ (topT l ++ t)) → (pre ++ (topT l ++ t)).length ≤ 1099511627776 → (∀ x ∈ l, okTerm x) → (∃ x ∈ l, x.kind ≠ 0) →
    ∃ (pre' rest : List UInt8) (c : UInt8), pre ++ (topT l ++ t) = pre' ++ c :: rest ∧ (c.toNat = 42 ∨ c.toNat = 63 ∨ c.toNat = 91 ∨ c.toNat = 123) ∧ Go1 X a b sp pre.length sp pre'.length := by
  induction l with
  | nil =>
    rintro pre t sp _ _ _ ⟨x, hx, _⟩
    cases hx
  | cons x l ih =>
    intro pre t sp hX hl hok hsp
    have hx := hok x (by simp)
    have hk := ok_kind hx
    obtain ⟨k, c, esc, neg, mark, cls, alts⟩ := x
    simp only [Term.kind] at hk
    rcases hk with rfl | rfl | rfl | rfl | rfl
    · have hlet := ok_letter hx
      have hf := letter_fine (.inl hlet)
      have h47 := letter_no_slash hlet
      have hsp' : ∃ x ∈ l, x.kind ≠ 0 := by
        obtain ⟨y, hy, hyk⟩ := hsp
        rcases List.mem_cons.1 hy with rfl | hy
        · exact absurd rfl hyk
        · exact ⟨y, hy, hyk⟩
      have hcase : topTerm (.mk 0 c esc neg mark cls alts) = rune c ∧ (c ≠ 92 ∧ c ≠ 42 ∧ c ≠ 63 ∧ c ≠ 91 ∧ c ≠ 123) ∨ topTerm (.mk 0 c esc neg mark cls alts) = 92 :: rune c := by
        rw [topTerm_mk]
        by_cases hA : (0 : Int) = 0 ∧ esc = false ∧ (c = 44 ∨ c = 93)
        · rw [if_pos hA]
          exact .inl ⟨rfl, by omega⟩
        · rw [if_neg hA, if_neg (by omega), term, if_pos rfl]
          by_cases hB : (esc || special c) = true
          · rw [if_pos hB]
            exact .inr rfl
          · rw [if_neg hB]
            simp only [Bool.not_eq_true, Bool.or_eq_false_iff, special, beq_eq_false_iff_ne] at hB
            exact .inl ⟨rfl, by omega⟩
      rcases hcase with ⟨he, hc⟩ | he
      · have e : pre ++ (topT (.mk 0 c esc neg mark cls alts :: l) ++ t) = pre ++ (rune c ++ (topT l ++ t)) := by simp [topT, he]
        have e' : pre ++ (topT (.mk 0 c esc neg mark cls alts :: l) ++ t) = (pre ++ rune c) ++ (topT l ++ t) := by simp [topT, he]
        have h1 := go_rune (X := X) (a := a) (b := b) pre (topT l ++ t) c sp (by rw [hX, e]) (by rw [← e]; exact hl) hf (by omega)
        obtain ⟨pre', rest, c', h2, h3, h4⟩ := ih (pre ++ rune c) t sp (by rw [hX, e']) (by rw [← e']; exact hl) (fun y hy => hok y (by simp [hy])) hsp'
        exact ⟨pre', rest, c', by rw [e', h2], h3, h1.trans h4⟩
      · have e : pre ++ (topT (.mk 0 c esc neg mark cls alts :: l) ++ t) = pre ++ (92 :: (rune c ++ (topT l ++ t))) := by simp [topT, he]
        have e' : pre ++ (topT (.mk 0 c esc neg mark cls alts :: l) ++ t) = (pre ++ (92 :: rune c)) ++ (topT l ++ t) := by simp [topT, he]
        have h1 := go_esc_rune (X := X) (a := a) (b := b) pre (topT l ++ t) c sp (by rw [hX, e]) (by rw [← e]; exact hl) hf
        obtain ⟨pre', rest, c', h2, h3, h4⟩ := ih (pre ++ (92 :: rune c)) t sp (by rw [hX, e']) (by rw [← e']; exact hl) (fun y hy => hok y (by simp [hy])) hsp'
        exact ⟨pre', rest, c', by rw [e', h2], h3, h1.trans h4⟩
    · exact ⟨pre, topT l ++ t, 63, by simp [topT, topTerm, Term.kind, term], by decide, Go1.refl _ _⟩
    · exact ⟨pre, topT l ++ t, 42, by simp [topT, topTerm, Term.kind, term], by decide, Go1.refl _ _⟩
    · obtain ⟨r, hr⟩ : ∃ r, clsText (.mk 3 c esc neg mark cls alts) true = 91 :: r := by
        cases neg <;> cases esc <;> exact ⟨_, rfl⟩
      exact ⟨pre, r ++ (topT l ++ t), 91, by simp [topT, topTerm, Term.kind, hr], by decide, Go1.refl _ _⟩
    · exact ⟨pre, altsT true alts ++ [125] ++ (topT l ++ t), 123, by simp [topT, topTerm, Term.kind, term], by decide, Go1.refl _ _⟩
end

/-- The first part of a pattern has something special in it. -/
def firstSpecial (ps : List Part) : Prop := ∀ p, ps[0]? = some p → p.any = true ∨ ∃ t ∈ p.terms, t.kind ≠ 0

theorem go_pattern {X a b : ByteArray} (ps : List Part) (hr : right ps) (hf : firstSpecial ps) (pre : List UInt8) (sp : Int) (hX : X = S (pre ++ asT true ps)) (hl : (pre ++ asT true ps).length ≤ 1099511627776) (r : ByteArray × ByteArray)
    (h : ∃ k, doublestar_SplitPattern.j1 k X a b sp = some r) : ∃ k, doublestar_SplitPattern.l0 k X a b sp pre.length = some r := by
  cases ps with
  | nil => exact absurd hr.1 (by simp)
  | cons p ps =>
    have hf' := hf p rfl
    obtain ⟨any, l⟩ := p
    cases any
    · have e : asT true (⟨false, l⟩ :: ps) = topT l ++ asT false ps := by simp [asT, partT]
      rw [e] at hX hl
      rcases hf' with hf' | hf'
      · cases hf'
      · obtain ⟨pre', rest, c, h1, h2, h3⟩ := go_terms (X := X) (a := a) (b := b) l pre (asT false ps) sp hX hl (ok_mem (hr.2 ⟨false, l⟩ (by simp) rfl).2) hf'
        exact h3 r (go_stop pre' rest c sp (by rw [hX, h1]) h2 r h)
    · have e : asT true (⟨true, l⟩ :: ps) = 42 :: 42 :: asT false ps := by simp [asT, partT]
      rw [e] at hX
      exact go_stop pre _ 42 sp hX (by decide) r h

theorem S_extract (l : List UInt8) (i j : Nat) : (S l).extract i j = S ((l.take j).drop i) := by
  apply ByteArray.ext
  simp [S, ByteArray.data_extract, List.drop_take]

/-- A text whose first part has something special in it is not cut. -/
theorem cut_none (ps : List Part) (hr : right ps) (hf : firstSpecial ps) (hl : (asT true ps).length ≤ 1099511627776) : ∃ k, impl_GlobSplit.f k (S (asT true ps)) = some (S [46], S (asT true ps)) := by
  obtain ⟨k, h⟩ := go_pattern (X := S (asT true ps)) (a := ⟨#[46]⟩) (b := S (asT true ps)) ps hr hf [] (-1) (by simp) (by simpa using hl) (S [46], S (asT true ps)) ⟨1, by
    simp only [doublestar_SplitPattern.j1]
    rw [if_neg (by decide), if_neg (by decide)]
    rfl⟩
  refine ⟨k, ?_⟩
  unfold impl_GlobSplit.f doublestar_SplitPattern.f
  have h' : doublestar_SplitPattern.l0 k (S (asT true ps)) ⟨#[46]⟩ (S (asT true ps)) (-1) 0 = some (S [46], S (asT true ps)) := by simpa using h
  rw [h']
  rfl

theorem ex1 (q t : List UInt8) : (S (q ++ 47 :: t)).extract 0 ((q.length : Int)).toNat = S q := by
  rw [S_extract]
  simp
theorem ex2 (q t : List UInt8) : (S (q ++ 47 :: t)).extract ((q.length : Int) + 1).toNat (S (q ++ 47 :: t)).size = S t := by
  rw [S_extract, S_size, List.take_length]
  have : ((q.length : Int) + 1).toNat = q.length + 1 := by omega
  rw [this, ← List.drop_drop, List.drop_left]
  rfl
theorem cut_j1 (q t b : List UInt8) {ku : Nat} (hu : doublestar_unescapeMeta.f ku (S q) = some (S b)) (hq : 0 < q.length) (hl : (q ++ 47 :: t).length ≤ 1099511627776) (A B : ByteArray) :
    doublestar_SplitPattern.j1 (ku + 1) (S (q ++ 47 :: t)) A B q.length = some (S b, S t) := by
  have hs := S_sz (q ++ 47 :: t)
  simp only [List.length_append, List.length_cons] at hs hl
  rw [doublestar_SplitPattern.j1]
  rw [if_neg (by omega), if_pos (by omega), if_pos (by omega), if_pos (by omega), ex1, hu]
  rw [Option.bind_some]
  rw [w64 (n := (q.length : Int) + 1) (by omega) (by omega), if_pos (by omega), if_pos (by omega), ex2]

/-- A quoted name, a slash and such a text are cut at that slash. -/
theorem cut_some (rs : List Int) (ps : List Part) (hp : plainName rs) (hne : rs ≠ []) (hr : right ps) (hf : firstSpecial ps) (hl : (quoted rs ++ 47 :: asT true ps).length ≤ 1099511627776) :
    ∃ k, impl_GlobSplit.f k (S (quoted rs ++ 47 :: asT true ps)) = some (S (rs.flatMap rune), S (asT true ps)) := by
  have hl' := hl
  simp only [List.length_append, List.length_cons] at hl'
  have hq : 0 < (quoted rs).length := by
    cases rs with
    | nil => exact absurd rfl hne
    | cons c rs =>
      have := rune_pos c
      simp [quoted]
      omega
  obtain ⟨ku, hu⟩ := unescapes rs hp (by omega)
  have hj : ∃ k, doublestar_SplitPattern.j1 k (S (quoted rs ++ 47 :: asT true ps)) ⟨#[46]⟩ (S (quoted rs ++ 47 :: asT true ps)) (quoted rs).length = some (S (rs.flatMap rune), S (asT true ps)) := ⟨_, cut_j1 (quoted rs) (asT true ps) _ hu hq hl _ _⟩
  obtain ⟨sp', h1⟩ := go_quoted (X := S (quoted rs ++ 47 :: asT true ps)) (a := ⟨#[46]⟩) (b := S (quoted rs ++ 47 :: asT true ps)) rs [] (47 :: asT true ps) (-1) (by simp) (by simpa using hl) (fun c hc => (hp c hc).1)
  have h2 := go_slash (X := S (quoted rs ++ 47 :: asT true ps)) (a := ⟨#[46]⟩) (b := S (quoted rs ++ 47 :: asT true ps)) (quoted rs) (asT true ps) sp' rfl hl
  have h3 := go_pattern (X := S (quoted rs ++ 47 :: asT true ps)) (a := ⟨#[46]⟩) (b := S (quoted rs ++ 47 :: asT true ps)) ps hr hf (quoted rs ++ [47]) (quoted rs).length (by simp) (by simpa using hl) _ hj
  have e3 : ((quoted rs ++ [47]).length : Int) = ((quoted rs).length : Int) + 1 := by simp
  rw [e3] at h3
  obtain ⟨k, h⟩ := h1 _ (by simpa using h2 _ h3)
  refine ⟨k, ?_⟩
  unfold impl_GlobSplit.f doublestar_SplitPattern.f
  have h' : doublestar_SplitPattern.l0 k (S (quoted rs ++ 47 :: asT true ps)) ⟨#[46]⟩ (S (quoted rs ++ 47 :: asT true ps)) (-1) 0 = some (S (rs.flatMap rune), S (asT true ps)) := by simpa using h
  rw [h']
  rfl
end Pl
end Go.Proofs.Ythkbkiigpflonaa
