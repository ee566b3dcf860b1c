/-
  The walk of terms' text.
-/
import Derived.Test.YthkbkiigpflonaaDoorWalkB
namespace Go.Proofs.YthkbkiigpflonaaDoor
open Go.RowKit

set_option maxHeartbeats 4000000 in
theorem terms_any (n : Nat) : ∀ (v : Value) (l : List Pl.Term) (w : World), Rd.Terms w w.heap.size n v l → (Pl.terms l).length ≤ 1099511627776 →
    Calls Tryd.prog 7 #[v] w fun e w' => e = .returned (.string (Pl.S (Pl.terms l))) ∧ Below w.heap.size w w' := by
  induction n with
  | zero =>
    intro v l w hv _
    obtain ⟨A, cap, rfl, _, hx⟩ := hv.form
    obtain rfl : l = [] := by
      cases l with
      | nil => rfl
      | cons t r =>
        obtain ⟨_, _, _, _, h⟩ := hx 0 t rfl
        exact h.elim
    clear hx hv
    go_enter Tryd.func7, Tryd.ntmps7
    go_wp2_with fail
    refine wp_loop_rounds 1 ?_
    rw [rounds_succ]
    go_wp2_with fail
    go_ret
    exact ⟨by simp [Pl.terms, Pl.lit0], Below.refl _ _⟩
  | succ n ih =>
    intro v l w hv hlen
    have IH := Lib.hid ih
    clear ih
    obtain ⟨A, cap, rfl, hm, hx⟩ := hv.form
    have HX := Lib.hid hx
    clear hx hv
    go_enter Tryd.func7, Tryd.ntmps7
    go_wp2_with fail
    go_loopw [3, 10] (fun s i wr => ∃ q : Nat, q ≤ l.length ∧ i = .int .i64 q ∧ s = .string (Pl.S (Pl.terms (l.take q))) ∧ Below w.heap.size w wr) (fun _ i _ => l.length - (intOf i).toNat)
    case atStart => exact ⟨0, by simp, rfl, by simp [Pl.terms, Pl.lit0], Below.refl _ _⟩
    case round =>
      obtain ⟨q, hq, rfl, rfl, hb⟩ := hrel
      by_cases hlt : q < l.length
      · obtain ⟨t, hxq⟩ : ∃ x, l[q]? = some x := ⟨_, List.getElem?_eq_getElem hlt⟩
        have hle := Pl.terms_le l q t hxq
        obtain ⟨b, off, rfl, hbl, vo, va, hc, hr⟩ := HX.out q _ hxq
        have hsz := hb.size
        have ht := (Rd.Cells.keep (fun _ hp => hb.cell hp) hbl hc)
        have hr1 : Rd.Rest wr wr.heap.size (Rd.Terms wr wr.heap.size n) vo va t := hr.keep (fun _ hp => hb.cell hp) hsz fun _ _ hl => Rd.Terms.keep (fun _ hp => hb.cell hp) hsz hl
        have HT : Hid (Pl.terms (l.take (q + 1)) = Pl.terms (l.take q) ++ Pl.term t) := Lib.hid (Pl.terms_take l q t hxq)
        clear hc hr HX hxq
        obtain ⟨k, c, esc, neg, mark, cls, alts⟩ := t
        obtain ⟨A1, cap1, rfl, _, _⟩ := hr1.1.form
        obtain ⟨A2, cap2, rfl, hm2, hx2⟩ := hr1.2.form
        simp only [Pl.Term.alts] at hm2 hx2
        have HX2 := Lib.hid hx2
        have HR := Lib.hid hr1
        clear hr1 hx2
        obtain ⟨h0, h1, h2, h3, h4, h5, h6⟩ := ht
        simp only [Pl.Term.kind, Pl.Term.char, Pl.Term.esc, Pl.Term.neg, Pl.Term.mark, Pl.Term.cls, Pl.Term.alts] at h0 h1 h2 h3 h4 h5 h6
        have hbl' : b < wr.heap.size := by omega
        have hs1 : (Pl.S (Pl.terms (l.take q))).size ≤ 1099511627776 := by rw [Pl.S_size]; omega
        by_cases hk0 : k = 0
        · subst hk0
          have hcv := conv_new c
          have hcl := encode_size_le c
          have e : Hid (Pl.term (.mk 0 c esc neg mark cls alts) = (if esc || Pl.special c then [92] else []) ++ Pl.rune c) := Lib.hid (by simp [Pl.term])
          cases esc
          · cases hsp : Pl.special c
            all_goals
              have hsp' := special_any c
              rw [hsp] at e hsp'
              clear hsp
              have HSP := Lib.hid hsp'
              clear hsp'
              go_wp2_with (go_at_call 15; refine (HSP.out _).mono ?_; rintro e w1 ⟨rfl, rfl⟩)
              go_roundw
              case measure => simp [intOf]; omega
              case rel => exact ⟨_, hlt, by go_num, str_eq (by rw [HT.out, e.out]; simp [← Pl.S_rune, Pl.lit1, Pl.S_add]), (hb.alloc hsz _).alloc (by simp; omega) _⟩
          · go_wp2_with fail
            go_roundw
            case measure => simp [intOf]; omega
            case rel => exact ⟨_, hlt, by go_num, str_eq (by rw [HT.out, e.out]; simp [← Pl.S_rune, Pl.lit1, Pl.S_add]), (hb.alloc hsz _).alloc (by simp; omega) _⟩
        by_cases hk1 : k = 1
        · subst hk1
          have e : Hid (Pl.term (.mk 1 c esc neg mark cls alts) = [63]) := Lib.hid (by simp [Pl.term])
          go_wp2_with fail
          go_roundw
          case measure => simp [intOf]; omega
          case rel => exact ⟨_, hlt, by go_num, str_eq (by rw [HT.out, e.out, ← Pl.S_add]; rfl), hb.alloc hsz _⟩
        by_cases hk2 : k = 2
        · subst hk2
          have e : Hid (Pl.term (.mk 2 c esc neg mark cls alts) = [42]) := Lib.hid (by simp [Pl.term])
          go_wp2_with fail
          go_roundw
          case measure => simp [intOf]; omega
          case rel => exact ⟨_, hlt, by go_num, str_eq (by rw [HT.out, e.out, ← Pl.S_add]; rfl), hb.alloc hsz _⟩
        have d0 : (k == 0) = false := beq_eq_false_iff_ne.2 hk0
        have d1 : (k == 1) = false := beq_eq_false_iff_ne.2 hk1
        have d2 : (k == 2) = false := beq_eq_false_iff_ne.2 hk2
        by_cases hk3 : k = 3
        · subst hk3
          have e : Hid (Pl.term (.mk 3 c esc neg mark cls alts) = Pl.clsText (.mk 3 c esc neg mark cls alts) false) := Lib.hid (by simp [Pl.term])
          have hcl : (Pl.clsText (.mk 3 c esc neg mark cls alts) false).length ≤ 1099511627776 := by rw [← e.out]; omega
          have hcs : (Pl.S (Pl.clsText (.mk 3 c esc neg mark cls alts) false)).size ≤ 1099511627776 := by rw [Pl.S_size]; exact hcl
          clear hk0 hk1 hk2 d0 d1 d2
          go_wp2_with (go_at_call 16; refine (class_any n _ (.mk 3 c esc neg mark cls alts) false _ ⟨_, _, rfl, HR.out.keep (fun p hp => World.cell?_alloc_lt wr _ p hp) (by simp) fun _ _ hl => Rd.Terms.keep (fun p hp => World.cell?_alloc_lt wr _ p hp) (by simp) hl⟩ hcl).mono ?_; rintro e w1 ⟨rfl, hb1⟩)
          go_roundw
          case measure => simp [intOf]; omega
          case rel => exact ⟨_, hlt, by go_num, str_eq (by rw [HT.out, e.out]; simp [Pl.S_add]), (hb.alloc hsz _).trans (hb1.mono (by simp; omega))⟩
        · have d3 : (k == 3) = false := beq_eq_false_iff_ne.2 hk3
          have e : Hid (Pl.term (.mk k c esc neg mark cls alts) = 123 :: (Pl.altsT true alts ++ [125])) := Lib.hid (by simp [Pl.term, hk0, hk1, hk2, hk3])
          have hcl : (Pl.terms (l.take q)).length + (Pl.altsT true alts).length + 2 ≤ 1099511627776 := by
            rw [e.out] at hle
            simp at hle
            omega
          clear hk0 hk1 hk2 hk3 hle
          obtain ⟨wo, rfl⟩ : ∃ wo : World, wo = wr := ⟨_, rfl⟩
          go_wp2_with fail
          go_loopw [3, 21] (fun s i wi => ∃ j : Nat, j ≤ alts.length ∧ i = .int .i64 j ∧ s = .string (Pl.S (Pl.terms (l.take q) ++ 123 :: Pl.altsT true (alts.take j))) ∧ Below wo.heap.size wo wi) (fun _ i _ => alts.length - (intOf i).toNat)
          case atStart => exact ⟨0, by simp, rfl, str_eq (by simp [Pl.altsT, Pl.lit1, Pl.S_add]), (Below.refl _ _).alloc (Nat.le_refl _) _⟩
          case round =>
            obtain ⟨j, hj, rfl, rfl, hbi⟩ := hrel
            have hal := Pl.altsT_take_le alts j
            have hs2 : (Pl.S (Pl.terms (l.take q) ++ 123 :: Pl.altsT true (alts.take j))).size ≤ 1099511627776 := by rw [Pl.S_size]; simp; omega
            by_cases hlj : j < alts.length
            · obtain ⟨a, hja⟩ : ∃ x, alts[j]? = some x := ⟨_, List.getElem?_eq_getElem hlj⟩
              have hale := Pl.altsT_le alts j a hja
              have HA := Lib.hid (Pl.altsT_take alts j a hja)
              obtain ⟨b2, off2, rfl, hb2, v2, hcell2, hT2⟩ := HX2.out j a hja
              rw [Nat.mul_one] at hcell2
              clear hja HX2
              have hc2 := (hbi.cell (p := ⟨b2, off2 + j, none⟩) hb2).trans hcell2
              have hT3 : Hid (Rd.Terms wr wr.heap.size n v2 a) := Lib.hid (Rd.Terms.keep (fun _ hp => hbi.cell hp) hbi.size hT2)
              clear hcell2 hT2
              have hsa : (Pl.S (Pl.terms a)).size ≤ 1099511627776 := by rw [Pl.S_size]; omega
              have hla : (Pl.terms a).length ≤ 1099511627776 := by omega
              rcases Nat.lt_or_ge 0 j with hj0 | hj0
              · have hjd : Hid (¬ j = 0) := Lib.hid (by omega)
                go_wp2_with (go_at_call 7; refine (IH.out _ a _ hT3.out hla).mono ?_; rintro e w1 ⟨rfl, hb1⟩)
                go_roundw
                case measure => simp [intOf]; omega
                case rel => exact ⟨_, hlj, by go_num, str_eq (by rw [HA.out, if_neg hjd.out]; simp [Pl.lit1, Pl.S_add]), hbi.trans (hb1.mono hbi.size)⟩
              · have hjd : Hid (j = 0) := Lib.hid (by omega)
                go_wp2_with (go_at_call 7; refine (IH.out _ a _ hT3.out hla).mono ?_; rintro e w1 ⟨rfl, hb1⟩)
                go_roundw
                case measure => simp [intOf]; omega
                case rel => exact ⟨_, hlj, by go_num, str_eq (by rw [HA.out, if_pos hjd.out]; simp [Pl.lit1, Pl.S_add]), hbi.trans (hb1.mono hbi.size)⟩
            · go_wp2_with fail
              go_roundw
              case measure => simp [intOf]; omega
              case rel =>
                have ej : j = alts.length := by omega
                subst ej
                exact ⟨_, hlt, by go_num, str_eq (by rw [HT.out, e.out]; simp [Pl.lit1, Pl.S_add]), hb.trans (hbi.mono hsz)⟩
      · go_wp2_with fail
        go_ret
        have e : q = l.length := by omega
        subst e
        exact ⟨by simp, hb⟩
end Go.Proofs.YthkbkiigpflonaaDoor
