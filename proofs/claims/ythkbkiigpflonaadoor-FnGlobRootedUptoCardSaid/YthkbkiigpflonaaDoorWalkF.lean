/-
  The walk of the reference's look at one term, and both together.
-/
import Derived.Test.YthkbkiigpflonaaDoorWalkE
namespace Go.Proofs.YthkbkiigpflonaaDoor
open Go.RowKit

theorem cls_take (l : List (Int × Int)) (q : Nat) (x1 x2 : Int) (h : l[q]? = some (x1, x2)) :
    ((l.take (q + 1)).all fun x => Pl.letter x.1 && Pl.letter x.2 && decide (x.1 ≤ x.2) && decide (x.2 < 1114111)) =
    (((l.take q).all fun x => Pl.letter x.1 && Pl.letter x.2 && decide (x.1 ≤ x.2) && decide (x.2 < 1114111)) && (Pl.letter x1 && Pl.letter x2 && decide (x1 ≤ x2) && decide (x2 < 1114111))) := by
  obtain ⟨hk, hx⟩ := List.getElem?_eq_some_iff.1 h
  rw [List.take_succ_eq_append_getElem hk, hx, List.all_append]
  simp

set_option maxHeartbeats 4000000 in
theorem end_plain (n : Nat) (v : Value) (t : Pl.Term) (w : World) (B g : Nat) (deep : Nat) (x : Int) (ht : Rd.TermV w B n v t) (hB : B ≤ g) (h0 : 0 ≤ x) (h1 : x ≤ 65536) (hg : w.heap[g]? = some (.cells #[.int .i64 x] 3 (0, 0)))
    (hk3 : t.kind ≠ 3) (hk4 : t.kind ≠ 4) :
    Calls Tryd.prog 25 #[v, .int .i64 deep, .pointer (some ⟨g, 0, none⟩)] w (EndsPost g w (Pl.gTerm t deep x)) := by
  obtain ⟨vo, va, rfl, hr⟩ := ht
  obtain ⟨k, c, esc, neg, mark, cls, alts⟩ := t
  obtain ⟨A1, cap1, rfl, _, _⟩ := hr.1.form
  obtain ⟨A2, cap2, rfl, _, _⟩ := hr.2.form
  simp only [Pl.Term.kind, Pl.Term.char, Pl.Term.esc, Pl.Term.neg, Pl.Term.mark, Pl.Term.cls, Pl.Term.alts] at hk3 hk4 ⊢
  clear hr
  have hL := Lib.hid (Lf.refl hg)
  clear hg
  by_cases hk0 : k = 0
  · subst hk0
    clear hk3 hk4
    cases hl : Pl.letter c
    · have HR : Hid (Pl.gTerm (.mk 0 c esc neg mark cls alts) deep x = none) := Lib.hid (by simp [Pl.gTerm, hl])
      go_enter Tryd.func25, Tryd.ntmps25
      go_wp2_with (go_at_call 21; refine (letter_any _ _).mono ?_; rintro e w1 ⟨rfl, rfl⟩)
      go_returns
      exact ⟨_, _, _, _, x, rfl, hL.out.alloc _, .inr ⟨rfl, HR.out, rfl, rfl, rfl⟩⟩
    · have HR : Hid (Pl.gTerm (.mk 0 c esc neg mark cls alts) deep x = some (false, false, false, x)) := Lib.hid (by simp [Pl.gTerm, hl])
      go_enter Tryd.func25, Tryd.ntmps25
      go_wp2_with (go_at_call 21; refine (letter_any _ _).mono ?_; rintro e w1 ⟨rfl, rfl⟩)
      go_returns
      exact ⟨_, _, _, _, x, rfl, hL.out.alloc _, .inl ⟨rfl, HR.out, h0, h1⟩⟩
  by_cases hk1 : k = 1
  · subst hk1
    clear hk3 hk4 hk0
    have HR : Hid (Pl.gTerm (.mk 1 c esc neg mark cls alts) deep x = some (false, false, false, x)) := Lib.hid (by simp [Pl.gTerm])
    go_enter Tryd.func25, Tryd.ntmps25
    go_wp2_with fail
    go_returns
    exact ⟨_, _, _, _, x, rfl, hL.out.alloc _, .inl ⟨rfl, HR.out, h0, h1⟩⟩
  by_cases hk2 : k = 2
  · subst hk2
    clear hk3 hk4 hk0 hk1
    have HR : Hid (Pl.gTerm (.mk 2 c esc neg mark cls alts) deep x = some (true, true, true, x)) := Lib.hid (by simp [Pl.gTerm])
    go_enter Tryd.func25, Tryd.ntmps25
    go_wp2_with fail
    go_returns
    exact ⟨_, _, _, _, x, rfl, hL.out.alloc _, .inl ⟨rfl, HR.out, h0, h1⟩⟩
  · have HR : Hid (Pl.gTerm (.mk k c esc neg mark cls alts) deep x = none) := Lib.hid (by simp [Pl.gTerm, hk0, hk1, hk2, hk3, hk4])
    have d0 : (k == 0) = false := beq_eq_false_iff_ne.2 hk0
    have d1 : (k == 1) = false := beq_eq_false_iff_ne.2 hk1
    have d2 : (k == 2) = false := beq_eq_false_iff_ne.2 hk2
    have d3 : (k == 3) = false := beq_eq_false_iff_ne.2 hk3
    have d4 : (k == 4) = false := beq_eq_false_iff_ne.2 hk4
    clear hk0 hk1 hk2 hk3 hk4
    go_enter Tryd.func25, Tryd.ntmps25
    go_wp2_with fail
    go_returns
    exact ⟨_, _, _, _, x, rfl, hL.out.alloc _, .inr ⟨rfl, HR.out, rfl, rfl, rfl⟩⟩

set_option maxHeartbeats 4000000 in
theorem end_class (n : Nat) (v : Value) (t : Pl.Term) (w : World) (B g : Nat) (deep : Nat) (x : Int) (ht : Rd.TermV w B n v t) (hB : B ≤ g) (h0 : 0 ≤ x) (h1 : x ≤ 65536) (hg : w.heap[g]? = some (.cells #[.int .i64 x] 3 (0, 0)))
    (hk3 : t.kind = 3) :
    Calls Tryd.prog 25 #[v, .int .i64 deep, .pointer (some ⟨g, 0, none⟩)] w (EndsPost g w (Pl.gTerm t deep x)) := by
  obtain ⟨vo, va, rfl, hr⟩ := ht
  obtain ⟨k, c, esc, neg, mark, cls, alts⟩ := t
  obtain ⟨A1, cap1, rfl, hm, hx⟩ := hr.1.form
  obtain ⟨A2, cap2, rfl, _, _⟩ := hr.2.form
  simp only [Pl.Term.kind, Pl.Term.char, Pl.Term.esc, Pl.Term.neg, Pl.Term.mark, Pl.Term.cls, Pl.Term.alts] at hk3 hm hx ⊢
  subst hk3
  have HX := Lib.hid hx
  have hL0 := Lf.refl hg
  have hgw := hL0.lt
  clear hr hx hg
  have HR : Hid (Pl.gTerm (.mk 3 c esc neg mark cls alts) deep x = if Pl.clsOk cls then some (false, false, false, x) else none) := Lib.hid (by simp [Pl.gTerm])
  go_enter Tryd.func25, Tryd.ntmps25
  go_wp2_with fail
  go_loopw [9, 38] (fun o i wr => ∃ (q : Nat) (ob : Bool), q ≤ cls.length ∧ i = .int .i64 q ∧ o = .bool ob ∧ Hid (ob = (!cls.isEmpty && (cls.take q).all fun x => Pl.letter x.1 && Pl.letter x.2 && decide (x.1 ≤ x.2) && decide (x.2 < 1114111))) ∧ Lf g w wr x) (fun _ i _ => cls.length - (intOf i).toNat)
  case atStart => exact ⟨0, !cls.isEmpty, by simp, rfl, by cases cls <;> simp <;> omega, Lib.hid (by simp), hL0.alloc _⟩
  case round =>
    obtain ⟨q, ob, hq, rfl, rfl, HO, hL⟩ := hrel
    by_cases hlt : q < cls.length
    · obtain ⟨⟨x1, x2⟩, hxq⟩ : ∃ x, cls[q]? = some x := ⟨_, List.getElem?_eq_getElem hlt⟩
      have HT := Lib.hid (cls_take cls q x1 x2 hxq)
      obtain ⟨b, off, rfl, hbl, hp0, hp1⟩ := HX.out q _ hxq
      simp only at hp0 hp1
      have hc0 := (hL.far (p := ⟨b, off + q * 2, none⟩) (by show b < _; omega) (by show b ≠ g; omega)).trans hp0
      have hc1 := (hL.far (p := ⟨b, off + q * 2 + 1, none⟩) (by show b < _; omega) (by show b ≠ g; omega)).trans hp1
      have hgl := hL.lt
      have hbl' : b < wr.heap.size := by omega
      clear hp0 hp1 HX hxq
      cases ob
      · go_wp2_with fail
        go_roundw
        case measure => simp [intOf]; omega
        case rel => exact ⟨_, _, hlt, by go_num, rfl, Lib.hid (by rw [HT.out, ← Bool.and_assoc, ← HO.out]; rfl), hL.alloc _⟩
      · cases hl1 : Pl.letter x1
        · go_wp2_with (go_at_call 21; refine (letter_any _ _).mono ?_; rintro e w1 ⟨rfl, rfl⟩)
          go_roundw
          case measure => simp [intOf]; omega
          case rel => exact ⟨_, _, hlt, by go_num, rfl, Lib.hid (by rw [HT.out, ← Bool.and_assoc, ← HO.out, hl1]; rfl), hL.alloc _⟩
        cases hl2 : Pl.letter x2
        · go_wp2_with (go_at_call 21; refine (letter_any _ _).mono ?_; rintro e w1 ⟨rfl, rfl⟩)
          go_roundw
          case measure => simp [intOf]; omega
          case rel => exact ⟨_, _, hlt, by go_num, rfl, Lib.hid (by rw [HT.out, ← Bool.and_assoc, ← HO.out, hl1, hl2]; rfl), hL.alloc _⟩
        cases hl3 : decide (x1 ≤ x2)
        · go_wp2_with (go_at_call 21; refine (letter_any _ _).mono ?_; rintro e w1 ⟨rfl, rfl⟩)
          go_roundw
          case measure => simp [intOf]; omega
          case rel => exact ⟨_, _, hlt, by go_num, rfl, Lib.hid (by rw [HT.out, ← Bool.and_assoc, ← HO.out, hl1, hl2, hl3]; rfl), hL.alloc _⟩
        cases hl4 : decide (x2 < 1114111)
        all_goals
          go_wp2_with (go_at_call 21; refine (letter_any _ _).mono ?_; rintro e w1 ⟨rfl, rfl⟩)
          go_roundw
          case measure => simp [intOf]; omega
          case rel => exact ⟨_, _, hlt, by go_num, rfl, Lib.hid (by rw [HT.out, ← Bool.and_assoc, ← HO.out, hl1, hl2, hl3, hl4]; rfl), hL.alloc _⟩
    · have hob : Hid (ob = Pl.clsOk cls) := Lib.hid (by rw [HO.out, List.take_of_length_le (by omega)]; rfl)
      clear HO HX
      cases ob
      · go_wp2_with fail
        go_returns
        exact ⟨_, _, _, _, x, rfl, hL, .inr ⟨rfl, by rw [HR.out, ← hob.out]; rfl, rfl, rfl, rfl⟩⟩
      · go_wp2_with fail
        go_returns
        exact ⟨_, _, _, _, x, rfl, hL, .inl ⟨rfl, by rw [HR.out, ← hob.out]; rfl, h0, h1⟩⟩
end Go.Proofs.YthkbkiigpflonaaDoor
