/-
  Letters and their bytes: what is decoded of a text is what was encoded. No program in sight.
-/
import Derived.Test.YthkbkiigpflonaaDoorPlain
import Derived.Lib.MapLaws
namespace Go.Proofs.YthkbkiigpflonaaDoor
namespace Pl

theorem rune_enc (c : Int) : rune c = Lib.encodeRune c := by
  unfold rune Lib.encodeRune Utf8.encode
  by_cases h : Utf8.valid c = true
  · rw [if_pos h]
    simp only [Utf8.valid, Bool.or_eq_true, Bool.and_eq_true, decide_eq_true_eq] at h
    have hc : ((c.toNat : Nat) : Int) = c := by omega
    by_cases h1 : c ≤ 127
    · rw [Lib.encodeRuneZ_one (by omega) h1]
      have : c.toNat < 128 := by omega
      simp [this]
    by_cases h2 : c ≤ 2047
    · rw [Lib.encodeRuneZ_two (by omega) h2]
      have a : ¬ c.toNat < 128 := by omega
      have b : c.toNat < 2048 := by omega
      have e1 : (192 + c / 64).toNat = 192 + c.toNat / 64 := by omega
      have e2 : (128 + c % 64).toNat = 128 + c.toNat % 64 := by omega
      simp [a, b, e1, e2]
    by_cases h3 : c ≤ 65535
    · rw [Lib.encodeRuneZ_three (by omega)]
      have a : ¬ c.toNat < 128 := by omega
      have b : ¬ c.toNat < 2048 := by omega
      have d : c.toNat < 65536 := by omega
      have e1 : (224 + c / 4096).toNat = 224 + c.toNat / 4096 := by omega
      have e2 : (128 + c / 64 % 64).toNat = 128 + c.toNat / 64 % 64 := by omega
      have e3 : (128 + c % 64).toNat = 128 + c.toNat % 64 := by omega
      simp [a, b, d, e1, e2, e3]
    · rw [Lib.encodeRuneZ_four (by omega) (by omega)]
      have a : ¬ c.toNat < 128 := by omega
      have b : ¬ c.toNat < 2048 := by omega
      have d : ¬ c.toNat < 65536 := by omega
      have e1 : (240 + c / 262144).toNat = 240 + c.toNat / 262144 := by omega
      have e2 : (128 + c / 4096 % 64).toNat = 128 + c.toNat / 4096 % 64 := by omega
      have e3 : (128 + c / 64 % 64).toNat = 128 + c.toNat / 64 % 64 := by omega
      have e4 : (128 + c % 64).toNat = 128 + c.toNat % 64 := by omega
      simp [a, b, d, e1, e2, e3, e4]
  · rw [if_neg h]
    simp only [Utf8.valid, Bool.or_eq_true, Bool.and_eq_true, decide_eq_true_eq] at h
    rw [Lib.encodeRuneZ_bad (by omega)]
    rfl

/-- A letter that UTF-8 has. -/
def fine (c : Int) : Prop := 0 ≤ c ∧ c ≤ 1114111 ∧ (c < 55296 ∨ 57343 < c)

/-- The bytes of a letter, by their number. -/
theorem rune_shape (c : Int) (h : fine c) :
    (c < 128 ∧ rune c = [c.toNat.toUInt8]) ∨
    (128 ≤ c ∧ c < 2048 ∧ ∃ b0 b1 : UInt8, rune c = [b0, b1] ∧ b0.toNat = 192 + c.toNat / 64 ∧ b1.toNat = 128 + c.toNat % 64) ∨
    (2048 ≤ c ∧ c < 65536 ∧ ∃ b0 b1 b2 : UInt8, rune c = [b0, b1, b2] ∧ b0.toNat = 224 + c.toNat / 4096 ∧ b1.toNat = 128 + c.toNat / 64 % 64 ∧ b2.toNat = 128 + c.toNat % 64) ∨
    (65536 ≤ c ∧ ∃ b0 b1 b2 b3 : UInt8, rune c = [b0, b1, b2, b3] ∧ b0.toNat = 240 + c.toNat / 262144 ∧ b1.toNat = 128 + c.toNat / 4096 % 64 ∧ b2.toNat = 128 + c.toNat / 64 % 64 ∧ b3.toNat = 128 + c.toNat % 64) := by
  obtain ⟨h0, h1, h2⟩ := h
  rw [rune_enc]
  unfold Lib.encodeRune
  by_cases k1 : c ≤ 127
  · left
    rw [Lib.encodeRuneZ_one h0 k1]
    exact ⟨by omega, rfl⟩
  by_cases k2 : c ≤ 2047
  · right; left
    rw [Lib.encodeRuneZ_two (by omega) k2]
    refine ⟨by omega, by omega, _, _, rfl, ?_, ?_⟩ <;> simp <;> omega
  by_cases k3 : c ≤ 65535
  · right; right; left
    rw [Lib.encodeRuneZ_three (by omega)]
    refine ⟨by omega, by omega, _, _, _, rfl, ?_, ?_, ?_⟩ <;> simp <;> omega
  · right; right; right
    rw [Lib.encodeRuneZ_four (by omega) (by omega)]
    refine ⟨by omega, _, _, _, _, rfl, ?_, ?_, ?_, ?_⟩ <;> simp <;> omega

/-- What is decoded at the bytes of a letter is the letter, and all of its bytes. -/
theorem decode_rune (c : Int) (h : fine c) (t : List UInt8) : Lib.decodeL (rune c ++ t) = (c.toNat, (rune c).length) := by
  have h' := h
  obtain ⟨h0, h1, h2⟩ := h'
  rw [Lib.decodeL_N]
  rcases rune_shape c h with ⟨k, e⟩ | ⟨k, k', b0, b1, e, e0, e1⟩ | ⟨k, k', b0, b1, b2, e, e0, e1, e2⟩ | ⟨k, b0, b1, b2, b3, e, e0, e1, e2, e3⟩
  · rw [e]
    have e0 : (c.toNat.toUInt8).toNat = c.toNat := by simp; omega
    simp only [List.cons_append, List.nil_append, List.getD_cons_zero, e0, List.length_cons, List.length_nil]
    unfold Lib.decodeN
    rw [if_pos (by omega)]
  · rw [e]
    simp only [List.cons_append, List.nil_append, List.getD_cons_zero, List.getD_cons_succ, List.length_cons, e0, e1, List.length_nil]
    unfold Lib.decodeN
    rw [if_neg (by omega), if_pos (by omega), if_pos (by omega)]
    congr 1
    omega
  · rw [e]
    simp only [List.cons_append, List.nil_append, List.getD_cons_zero, List.getD_cons_succ, List.length_cons, e0, e1, e2, List.length_nil]
    unfold Lib.decodeN
    rw [if_neg (by omega), if_neg (by omega), if_pos (by omega), if_pos (by omega)]
    congr 1
    omega
  · rw [e]
    simp only [List.cons_append, List.nil_append, List.getD_cons_zero, List.getD_cons_succ, List.length_cons, e0, e1, e2, e3, List.length_nil]
    unfold Lib.decodeN
    rw [if_neg (by omega), if_neg (by omega), if_neg (by omega), if_pos (by omega), if_pos (by omega)]
    congr 1
    omega

theorem rune_pos (c : Int) : 0 < (rune c).length := by
  rw [rune_enc]
  unfold Lib.encodeRune Lib.encodeRuneZ
  repeat' split
  all_goals simp

/-- A byte of a letter is the letter, or above all signs. -/
theorem rune_byte (c : Int) (h : fine c) (x : UInt8) (hx : x ∈ rune c) : (c < 128 ∧ (x.toNat : Int) = c ∧ rune c = [x]) ∨ 128 ≤ c ∧ 128 ≤ x.toNat := by
  obtain ⟨h0, h1, h2⟩ := h
  rcases rune_shape c ⟨h0, h1, h2⟩ with ⟨k, e⟩ | ⟨k, k', b0, b1, e, e0, e1⟩ | ⟨k, k', b0, b1, b2, e, e0, e1, e2⟩ | ⟨k, b0, b1, b2, b3, e, e0, e1, e2, e3⟩
  · rw [e] at hx ⊢
    simp at hx
    subst hx
    exact .inl ⟨k, by simp; omega, rfl⟩
  all_goals
    right
    rw [e] at hx
    simp only [List.mem_cons, List.not_mem_nil, or_false] at hx
    refine ⟨by omega, ?_⟩
    first
      | (rcases hx with rfl | rfl <;> omega)
      | (rcases hx with rfl | rfl | rfl <;> omega)
      | (rcases hx with rfl | rfl | rfl | rfl <;> omega)

theorem letter_fine {c : Int} (h : letter c = true ∨ c = 47) : fine c := by
  unfold fine
  rcases h with h | h
  · simp only [letter, Bool.and_eq_true, Bool.or_eq_true, decide_eq_true_eq] at h
    omega
  · omega

/-- What is decoded of a text, if it is a letter of names or a slash, is just these bytes. -/
theorem decoded (l : List UInt8) (hne : l ≠ []) (h : letter (Lib.decodeL l).1 = true ∨ ((Lib.decodeL l).1 : Int) = 47) : rune ((Lib.decodeL l).1 : Int) = l.take (Lib.decodeL l).2 := by
  rw [rune_enc]
  refine Lib.encode_decode l hne fun hb => ?_
  rw [hb.1] at h
  rcases h with h | h
  · revert h
    decide
  · omega

/-- The bytes that a decoded letter takes: the letter alone, or all above the signs. -/
theorem decoded_bytes (l : List UInt8) (hne : l ≠ []) (x : UInt8) (hx : x ∈ l.take (Lib.decodeL l).2) : x.toNat = (Lib.decodeL l).1 ∨ 128 ≤ x.toNat := by
  have hl : 0 < l.length := List.length_pos_iff.2 hne
  rw [Lib.decodeL_N] at hx ⊢
  rcases Lib.decodeN_shape l.length (l.getD 0 0).toNat (l.getD 1 0).toNat (l.getD 2 0).toNat (l.getD 3 0).toNat with ⟨c, e⟩ | ⟨c1, c2, c3, cv, e⟩ | ⟨c1, c2, c3, c4, cv, cs, e⟩ | ⟨c1, c2, c3, c4, c5, cv, cw, e⟩ | e
  · rw [e] at hx ⊢
    rw [Lib.takeA l hl] at hx
    simp at hx
    subst hx
    exact .inl (by simp)
  · rw [e] at hx ⊢
    rw [Lib.takeB l c2] at hx
    simp only [List.mem_cons, List.not_mem_nil, or_false] at hx
    right
    rcases hx with rfl | rfl <;> omega
  · rw [e] at hx ⊢
    rw [Lib.takeC l c2] at hx
    simp only [List.mem_cons, List.not_mem_nil, or_false] at hx
    right
    rcases hx with rfl | rfl | rfl <;> omega
  · rw [e] at hx ⊢
    rw [Lib.takeD l c2] at hx
    simp only [List.mem_cons, List.not_mem_nil, or_false] at hx
    right
    rcases hx with rfl | rfl | rfl | rfl <;> omega
  · by_cases hb : (l.getD 0 0).toNat < 128
    · have e' : Lib.decodeN l.length (l.getD 0 0).toNat (l.getD 1 0).toNat (l.getD 2 0).toNat (l.getD 3 0).toNat = ((l.getD 0 0).toNat, 1) := by
        unfold Lib.decodeN
        rw [if_pos hb]
      rw [e'] at hx ⊢
      rw [Lib.takeA l hl] at hx
      simp at hx
      subst hx
      exact .inl (by simp)
    · rw [e] at hx ⊢
      rw [Lib.takeA l hl] at hx
      simp only [List.mem_cons, List.not_mem_nil, or_false] at hx
      right
      subst hx
      omega

/-- A name: letters and slashes, the first one no slash. -/
structure Named (l : List UInt8) (rs : List Int) : Prop where
  eq : l = rs.flatMap rune
  fit : ∀ c ∈ rs, letter c = true ∨ c = 47
  ne : rs ≠ []
  head : rs.head? ≠ some 47

/-- A name letter by letter, special ones behind a backslash. -/
def quoted (rs : List Int) : List UInt8 := rs.flatMap fun c => (if special c then [92] else []) ++ rune c

end Pl
end Go.Proofs.YthkbkiigpflonaaDoor
