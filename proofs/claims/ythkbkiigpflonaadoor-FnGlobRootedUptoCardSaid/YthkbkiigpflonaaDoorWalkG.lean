/-
  The walk of the reference's look at alternatives; the look at terms, whole.
-/
import Derived.Test.YthkbkiigpflonaaDoorWalkF
namespace Go.Proofs.YthkbkiigpflonaaDoor
open Go.RowKit

set_option maxHeartbeats 4000000 in
theorem end_alts (n : Nat) (IH : EndsSaid n) (v : Value) (t : Pl.Term) (w : World) (B g : Nat) (deep : Nat) (x : Int) (ht : Rd.TermV w B n v t) (hB : B ≤ g) (hd : deep ≤ 100) (h0 : 0 ≤ x) (h1 : x ≤ 65536) (hg : w.heap[g]? = some (.cells #[.int .i64 x] 3 (0, 0)))
    (hk4 : t.kind = 4) :
    Calls Tryd.prog 25 #[v, .int .i64 deep, .pointer (some ⟨g, 0, none⟩)] w (EndsPost g w (Pl.gTerm t deep x)) := by
  obtain ⟨vo, va, rfl, hr⟩ := ht
  obtain ⟨k, c, esc, neg, mark, cls, alts⟩ := t
  obtain ⟨A1, cap1, rfl, _, _⟩ := hr.1.form
  obtain ⟨A2, cap2, rfl, hm, hx⟩ := hr.2.form
  simp only [Pl.Term.kind, Pl.Term.char, Pl.Term.esc, Pl.Term.neg, Pl.Term.mark, Pl.Term.cls, Pl.Term.alts] at hk4 hm hx ⊢
  subst hk4
  have HX := Lib.hid hx
  have hL0 := Lf.refl hg
  have hgw := hL0.lt
  clear hr hx hg
  have HR : Hid (Pl.gTerm (.mk 4 c esc neg mark cls alts) deep x = if alts.isEmpty || decide (deep < 1) then none else Pl.gAlts alts (deep - 1) x false false false) := Lib.hid (by simp [Pl.gTerm])
  rcases Nat.eq_zero_or_pos alts.length with ha | ha
  · have HF : Hid (Pl.gTerm (.mk 4 c esc neg mark cls alts) deep x = none) := Lib.hid (by
      rw [HR.out, List.eq_nil_of_length_eq_zero ha]
      rfl)
    have hal : ((alts.length : Int) == 0) = true := by simp [ha]
    clear ha HX
    go_enter Tryd.func25, Tryd.ntmps25
    go_wp2_with fail
    go_returns
    exact ⟨_, _, _, _, x, rfl, hL0.alloc _, .inr ⟨rfl, HF.out, rfl, rfl, rfl⟩⟩
  have hal : ((alts.length : Int) == 0) = false := by
    rw [beq_eq_false_iff_ne]
    omega
  by_cases hdz : deep < 1
  · have HF : Hid (Pl.gTerm (.mk 4 c esc neg mark cls alts) deep x = none) := Lib.hid (by
      rw [HR.out]
      simp [hdz])
    clear HX
    go_enter Tryd.func25, Tryd.ntmps25
    go_wp2_with fail
    go_returns
    exact ⟨_, _, _, _, x, rfl, hL0.alloc _, .inr ⟨rfl, HF.out, rfl, rfl, rfl⟩⟩
  obtain ⟨d, rfl⟩ : ∃ d, deep = d + 1 := ⟨deep - 1, by omega⟩
  have HF : Hid (Pl.gTerm (.mk 4 c esc neg mark cls alts) (d + 1) x = Pl.gAlts alts d x false false false) := Lib.hid (by
    rw [HR.out, if_neg]
    · rfl
    · cases alts
      · simp at ha
      · simp)
  clear HR hdz
  go_enter Tryd.func25, Tryd.ntmps25
  go_wp2_with fail
  go_loopw [6, 7, 8, 80] (fun s e m i wr => ∃ (q : Nat) (y : Int) (sb eb mb : Bool), q ≤ alts.length ∧ i = .int .i64 q ∧ s = .bool sb ∧ e = .bool eb ∧ m = .bool mb ∧ 0 ≤ y ∧ y ≤ 65536 ∧ Hid (Pl.gAlts (alts.drop q) d y sb eb mb = Pl.gAlts alts d x false false false) ∧ Lf g w wr y) (fun _ _ _ i _ => alts.length - (intOf i).toNat)
  case atStart => exact ⟨0, x, false, false, false, by simp, rfl, rfl, rfl, rfl, h0, h1, Lib.hid rfl, hL0.alloc _⟩
  case round =>
    obtain ⟨q, y, sb, eb, mb, hq, rfl, rfl, rfl, rfl, hy0, hy1, HE, hL⟩ := hrel
    by_cases hlt : q < alts.length
    · obtain ⟨a, hxq⟩ : ∃ x, alts[q]? = some x := ⟨_, List.getElem?_eq_getElem hlt⟩
      have HD : Hid (alts.drop q = a :: alts.drop (q + 1)) := Lib.hid (by
        rw [List.drop_eq_getElem_cons hlt]
        rw [List.getElem?_eq_getElem hlt] at hxq
        rw [Option.some.inj hxq])
      obtain ⟨b, off, rfl, hbl, va, hc, hl⟩ := HX.out q _ hxq
      rw [Nat.mul_one] at hc
      have hkeep : ∀ p : Addr, p.block < B → wr.cell? p = w.cell? p := fun p hp => hL.far (by omega) (by omega)
      have hc0 := (hkeep ⟨b, off + q, none⟩ hbl).trans hc
      have hl1 : Rd.Terms wr B n va a := Rd.Terms.keep hkeep (Nat.le_refl _) hl
      clear hc hl HX hxq hkeep
      obtain ⟨A3, cap3, rfl, _, _⟩ := hl1.form
      have HL1 := Lib.hid hl1
      clear hl1
      have hgc := hL.cell
      have hgf := hL.frozen
      have hgl := hL.lt
      have hbl' : b < wr.heap.size := by omega
      have hbg : b ≠ g := by omega
      by_cases hneg : y - 1 < 0
      · have HN : Hid (Pl.gAlts alts d x false false false = none) := Lib.hid (by rw [← HE.out, HD.out, Pl.gAlts, if_pos hneg])
        go_wp2_with fail
        go_returns
        exact ⟨_, _, _, _, y - 1, rfl, hL.set _, .inr ⟨rfl, by rw [HF.out, HN.out], rfl, rfl, rfl⟩⟩
      · have HLW : Hid (Lf g wr (wr.setCell ⟨g, 0, none⟩ (.int .i64 (y - 1))) (y - 1)) := Lib.hid ((Lf.refl hL.blk).set _)
        go_wp2_with fail
        refine (IH _ a _ B g d (y - 1) (Rd.Terms.keep (fun p hp => HLW.out.far (by omega) (by omega)) (Nat.le_refl _) HL1.out) hB (by omega) (by omega) (by omega) HLW.out.blk).mono ?_
        rintro e w1 ⟨s1, d1, n1, ok1, x1, rfl, hL1, hcase⟩
        have hL2 := hL.trans (HLW.out.trans hL1)
        clear hc0 hgc hgf HLW hL1 HL1
        rcases hcase with ⟨rfl, hr, hx0, hx1⟩ | ⟨rfl, hr, rfl, rfl, rfl⟩
        · have HS : Hid (Pl.gAlts alts d x false false false = Pl.gAlts (alts.drop (q + 1)) d x1 (sb || s1) (eb || d1) (mb || n1)) := Lib.hid (by
            rw [← HE.out, HD.out, Pl.gAlts, if_neg (by omega), hr])
          clear hr
          cases sb <;> cases eb <;> cases mb
          all_goals
            go_wp2_with fail
            go_roundw
            case measure => simp [intOf]; omega
            case rel =>
              (repeat apply Exists.intro)
              exact ⟨⟨_, _, _, _, _, hlt, by go_num, rfl, rfl, rfl, hx0, hx1, Lib.hid HS.out.symm, hL2⟩, rfl⟩
        · have HN : Hid (Pl.gAlts alts d x false false false = none) := Lib.hid (by rw [← HE.out, HD.out, Pl.gAlts, if_neg (by omega), hr])
          clear hr
          go_wp2_with fail
          go_returns
          exact ⟨_, _, _, _, x1, rfl, hL2, .inr ⟨rfl, by rw [HF.out, HN.out], rfl, rfl, rfl⟩⟩
    · have HN : Hid (Pl.gAlts alts d x false false false = some (sb, eb, mb, y)) := Lib.hid (by
        rw [← HE.out, List.drop_eq_nil_of_le (by omega), Pl.gAlts])
      clear HX
      go_wp2_with fail
      go_returns
      exact ⟨_, _, _, _, y, rfl, hL, .inl ⟨rfl, by rw [HF.out, HN.out], hy0, hy1⟩⟩

theorem end_all (n : Nat) (IH : EndsSaid n) : EndSaid n := by
  intro v t w B g deep x ht hB hd h0 h1 hg
  by_cases h3 : t.kind = 3
  · exact end_class n v t w B g deep x ht hB h0 h1 hg h3
  by_cases h4 : t.kind = 4
  · exact end_alts n IH v t w B g deep x ht hB hd h0 h1 hg h4
  · exact end_plain n v t w B g deep x ht hB h0 h1 hg h3 h4

/-- The look at terms hands back what it is by definition. -/
theorem ends_all (n : Nat) : EndsSaid n := by
  induction n with
  | zero => exact ends_nil 0 rfl
  | succ n ih => exact ends_succ n (end_all n ih)
end Go.Proofs.YthkbkiigpflonaaDoor
