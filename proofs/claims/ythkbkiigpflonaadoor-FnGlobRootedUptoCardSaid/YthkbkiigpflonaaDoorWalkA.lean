/-
  Walks of the small functions on letters.
-/
import Derived.Test.YthkbkiigpflonaaDoorPlain
import Derived.Test.YthkbkiigpflonaaDoorRows
import Derived.WalkKit
import Derived.WalkSpells
import Derived.WalkLawsBesides
import Derived.Lib.Hide
namespace Go.Proofs.YthkbkiigpflonaaDoor
open Go.RowKit

theorem str_eq {a b : ByteArray} (h : a = b) : Value.string a = Value.string b := by rw [h]

/-- Behind a call that makes memory: the old cells and marks read as before. -/
theorem bcell {W w1 : World} (hb : Below W.heap.size W w1) : (∀ b o, b < W.heap.size → w1.cell? ⟨b, o, none⟩ = W.cell? ⟨b, o, none⟩) ∧ (∀ b o, b < W.heap.size → w1.frozen? ⟨b, o, none⟩ = W.frozen? ⟨b, o, none⟩) :=
  ⟨fun b o h => hb.cell (p := ⟨b, o, none⟩) h, fun b o h => hb.frozen (p := ⟨b, o, none⟩) h⟩

set_option maxHeartbeats 400000 in
theorem special_any (c : Int) (w : World) :
    Calls Tryd.prog 15 #[.int .i32 c] w fun e w' => e = .returned (.bool (Pl.special c)) ∧ w = w' := by
  by_cases h : Pl.special c = true
  · rw [h]
    simp only [Pl.special, Bool.or_eq_true, beq_iff_eq] at h
    rcases h with ((((((h | h) | h) | h) | h) | h) | h) | h <;> subst h <;> (go_enter Tryd.func15, Tryd.ntmps15; go_wp2; go_ret; exact ⟨rfl, rfl⟩)
  · simp only [Bool.not_eq_true] at h
    rw [h]
    simp only [Pl.special, Bool.or_eq_false_iff] at h
    obtain ⟨⟨⟨⟨⟨⟨⟨h1, h2⟩, h3⟩, h4⟩, h5⟩, h6⟩, h7⟩, h8⟩ := h
    go_enter Tryd.func15, Tryd.ntmps15
    go_wp2
    go_ret
    exact ⟨rfl, rfl⟩

set_option maxHeartbeats 1000000 in
theorem letter_any (c : Int) (w : World) :
    Calls Tryd.prog 21 #[.int .i32 c] w fun e w' => e = .returned (.bool (Pl.letter c)) ∧ w = w' := by
  have H : Hid (Pl.letter c = (decide (0 < c) && decide (c ≤ 1114111) && (decide (c < 55296) || decide (57343 < c)) && c != 65533 && c != 47)) := Lib.hid rfl
  by_cases h1 : 0 < c
  · have d1 : decide (0 < c) = true := decide_eq_true h1
    by_cases h2 : c ≤ 1114111
    · have d2 : decide (c ≤ 1114111) = true := decide_eq_true h2
      by_cases h3 : c < 55296
      · have d3 : decide (c < 55296) = true := decide_eq_true h3
        have h5 : (c != 65533) = true := by rw [bne_iff_ne]; omega
        by_cases h6 : c = 47
        · replace h6 : (c != 47) = false := by rw [h6]; rfl
          go_enter Tryd.func21, Tryd.ntmps21
          go_wp2
          go_ret
          exact ⟨by rw [H.out]; simp [*], rfl⟩
        · replace h6 : (c != 47) = true := by rw [bne_iff_ne]; omega
          go_enter Tryd.func21, Tryd.ntmps21
          go_wp2
          go_ret
          exact ⟨by rw [H.out]; simp [*], rfl⟩
      · have d3 : decide (c < 55296) = false := decide_eq_false h3
        have h6 : (c != 47) = true := by rw [bne_iff_ne]; omega
        by_cases h4 : 57343 < c
        · have d4 : decide (57343 < c) = true := decide_eq_true h4
          by_cases h5 : c = 65533
          · replace h5 : (c != 65533) = false := by rw [h5]; rfl
            go_enter Tryd.func21, Tryd.ntmps21
            go_wp2
            go_ret
            exact ⟨by rw [H.out]; simp [*], rfl⟩
          · replace h5 : (c != 65533) = true := by rw [bne_iff_ne]; omega
            go_enter Tryd.func21, Tryd.ntmps21
            go_wp2
            go_ret
            exact ⟨by rw [H.out]; simp [*], rfl⟩
        · have d4 : decide (57343 < c) = false := decide_eq_false h4
          go_enter Tryd.func21, Tryd.ntmps21
          go_wp2
          go_ret
          exact ⟨by rw [H.out]; simp [*], rfl⟩
    · have d2 : decide (c ≤ 1114111) = false := decide_eq_false h2
      go_enter Tryd.func21, Tryd.ntmps21
      go_wp2
      go_ret
      exact ⟨by rw [H.out]; simp [*], rfl⟩
  · have d1 : decide (0 < c) = false := decide_eq_false h1
    go_enter Tryd.func21, Tryd.ntmps21
    go_wp2
    go_ret
    exact ⟨by rw [H.out]; simp [*], rfl⟩

/-- 'string([]rune{c})', the rune in a new cell. -/
theorem conv_one (c : Int) (u : World) (a : Addr) (h : u.cell? a = some (.int .i32 c)) :
    (convert 54 9 (.slice (some a) 1 1)).run Tryd.prog u = .ok (.string (Utf8.encode c)) u := by
  have := run_convert_runes (P := Tryd.prog) u 54 9 21 a 1 1 [c] (by simp) Tryd.underlying54 Tryd.underlying21 Tryd.underlying9 (by
    intro j hj
    simp at hj
    subst hj
    simpa [Addr.add] using h)
  rw [this]
  have e : runesBytes ([c].take 1) = Utf8.encode c := by
    apply ByteArray.ext
    simp [runesBytes]
  rw [e]

theorem conv_new (c : Int) (u : World) (n : Nat) (h : n = u.heap.size) :
    (convert 54 9 (.slice (some ⟨n, 0, none⟩) 1 1)).run Tryd.prog (u.alloc (.cells #[.int .i32 c] 21)) = .ok (.string (Utf8.encode c)) (u.alloc (.cells #[.int .i32 c] 21)) := by
  subst h
  exact conv_one c _ _ (by simp)

set_option maxHeartbeats 1000000 in
theorem inClass_any (c : Int) (p : Bool) (w : World) :
    Calls Tryd.prog 27 #[.int .i32 c, .bool p] w fun e w' => e = .returned (.string (Pl.S (Pl.inClass c p))) ∧ Below w.heap.size w w' := by
  have hcv := fun (u : World) => conv_one c (u.alloc (.cells #[.int .i32 c] 21)) ⟨u.heap.size, 0, none⟩ (by simp)
  have hle := encode_size_le c
  have he : 92 :: Pl.rune c = [92] ++ Pl.rune c := rfl
  by_cases h : (p && Pl.bare c) = true
  · have H : Hid (Pl.S (Pl.inClass c p) = Utf8.encode c) := Lib.hid (by simp [Pl.inClass, h, Pl.S_rune])
    simp only [Bool.and_eq_true] at h
    obtain ⟨rfl, h⟩ := h
    clear he
    simp only [Pl.bare, Bool.or_eq_true, beq_iff_eq] at h
    rcases h with (h | h) | h
    all_goals
      subst h
      go_enter Tryd.func27, Tryd.ntmps27
      go_wp2_with fail
      go_ret
      exact ⟨by rw [H.out]; rfl, (Below.refl _ _).alloc (Nat.le_refl _) _⟩
  · by_cases hs : Pl.inSet c = true
    · have H : Hid (Pl.S (Pl.inClass c p) = ⟨#[92]⟩ ++ Utf8.encode c) := Lib.hid (by
        simp only [Pl.inClass, if_neg h, if_pos hs]
        rw [he, ← Pl.S_add, Pl.S_rune]
        rfl)
      clear he
      simp only [Pl.inSet, Bool.or_eq_true, beq_iff_eq] at hs
      cases p
      · clear h
        rcases hs with (((((((hs | hs) | hs) | hs) | hs) | hs) | hs) | hs) | hs
        all_goals
          subst hs
          go_enter Tryd.func27, Tryd.ntmps27
          go_wp2_with fail
          go_ret
          exact ⟨by rw [H.out]; rfl, (Below.refl _ _).alloc (Nat.le_refl _) _⟩
      · simp only [Bool.true_and, Pl.bare, Bool.or_eq_true, beq_iff_eq] at h
        rcases hs with (((((((hs | hs) | hs) | hs) | hs) | hs) | hs) | hs) | hs
        all_goals
          subst hs
          try (exfalso; simp at h; done)
        all_goals
          clear h
          go_enter Tryd.func27, Tryd.ntmps27
          go_wp2_with fail
          go_ret
          exact ⟨by rw [H.out]; rfl, (Below.refl _ _).alloc (Nat.le_refl _) _⟩
    · have H : Hid (Pl.S (Pl.inClass c p) = Utf8.encode c) := Lib.hid (by simp only [Pl.inClass, if_neg h, if_neg hs, Pl.S_rune])
      clear he
      simp only [Bool.not_eq_true, Pl.inSet, Bool.or_eq_false_iff] at hs
      obtain ⟨⟨⟨⟨⟨⟨⟨⟨h1, h2⟩, h3⟩, h4⟩, h5⟩, h6⟩, h7⟩, h8⟩, h9⟩ := hs
      cases p
      · clear h
        go_enter Tryd.func27, Tryd.ntmps27
        go_wp2_with fail
        go_ret
        exact ⟨by rw [H.out]; rfl, (Below.refl _ _).alloc (Nat.le_refl _) _⟩
      · clear h
        go_enter Tryd.func27, Tryd.ntmps27
        go_wp2_with fail
        go_ret
        exact ⟨by rw [H.out]; rfl, (Below.refl _ _).alloc (Nat.le_refl _) _⟩
end Go.Proofs.YthkbkiigpflonaaDoor
