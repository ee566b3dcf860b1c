/-
  The walks of a pattern's text.
-/
import Derived.Test.YthkbkiigpflonaaDoorWalkC
namespace Go.Proofs.YthkbkiigpflonaaDoor
open Go.RowKit

set_option maxHeartbeats 4000000 in
theorem top_any (n : Nat) : ∀ (v : Value) (l : List Pl.Term) (w : World), Rd.Terms w w.heap.size n v l → (Pl.topT l).length ≤ 1099511627776 →
    Calls Tryd.prog 37 #[v] w fun e w' => e = .returned (.string (Pl.S (Pl.topT l))) ∧ Below w.heap.size w w' := by
    intro v l w hv hlen
    obtain ⟨A, cap, rfl, hm, hx⟩ := hv.form
    have HX := Lib.hid hx
    clear hx hv
    go_enter Tryd.func37, Tryd.ntmps37
    go_wp2_with fail
    go_loopw [3, 8] (fun s i wr => ∃ q : Nat, q ≤ l.length ∧ i = .int .i64 q ∧ s = .string (Pl.S (Pl.topT (l.take q))) ∧ Below w.heap.size w wr) (fun _ i _ => l.length - (intOf i).toNat)
    case atStart => exact ⟨0, by simp, rfl, by simp [Pl.topT, Pl.lit0], Below.refl _ _⟩
    case round =>
      obtain ⟨q, hq, rfl, rfl, hb⟩ := hrel
      by_cases hlt : q < l.length
      · obtain ⟨t, hxq⟩ : ∃ x, l[q]? = some x := ⟨_, List.getElem?_eq_getElem hlt⟩
        have hle := Pl.topT_le l q t hxq
        obtain ⟨b, off, rfl, hbl, hta⟩ := HX.out q _ hxq
        cases n with
        | zero => exact hta.elim
        | succ n =>
        obtain ⟨vo, va, hc, hr⟩ := hta
        have hsz := hb.size
        have ht := (Rd.Cells.keep (fun _ hp => hb.cell hp) hbl hc)
        have hr1 : Rd.Rest wr wr.heap.size (Rd.Terms wr wr.heap.size n) vo va t := hr.keep (fun _ hp => hb.cell hp) hsz fun _ _ hl => Rd.Terms.keep (fun _ hp => hb.cell hp) hsz hl
        have HT : Hid (Pl.topT (l.take (q + 1)) = Pl.topT (l.take q) ++ Pl.topTerm t) := Lib.hid (Pl.topT_take l q t hxq)
        clear hc hr HX hxq
        obtain ⟨k, c, esc, neg, mark, cls, alts⟩ := t
        obtain ⟨A1, cap1, rfl, _, _⟩ := hr1.1.form
        obtain ⟨A2, cap2, rfl, _, _⟩ := hr1.2.form
        have HR := Lib.hid hr1
        clear hr1
        obtain ⟨h0, h1, h2, h3, h4, h5, h6⟩ := ht
        simp only [Pl.Term.kind, Pl.Term.char, Pl.Term.esc, Pl.Term.neg, Pl.Term.mark, Pl.Term.cls, Pl.Term.alts] at h0 h1 h2 h3 h4 h5 h6
        have hbl' : b < wr.heap.size := by omega
        have hs1 : (Pl.S (Pl.topT (l.take q))).size ≤ 1099511627776 := by rw [Pl.S_size]; omega
        by_cases hA : k = 0 ∧ esc = false ∧ (c = 44 ∨ c = 93)
        · have e : Hid (Pl.topTerm (.mk k c esc neg mark cls alts) = Pl.rune c) := Lib.hid (if_pos hA)
          obtain ⟨rfl, rfl, hA⟩ := hA
          have hcv := conv_new c
          have hcl := encode_size_le c
          rcases hA with rfl | rfl
          all_goals
            go_wp2_with fail
            go_roundw
            case measure => simp [intOf]; omega
            case rel => exact ⟨_, hlt, by go_num, str_eq (by rw [HT.out, e.out]; simp [← Pl.S_rune, Pl.S_add]), (hb.alloc hsz _).alloc (by simp; omega) _⟩
        by_cases hk3 : k = 3
        · subst hk3
          have e : Hid (Pl.topTerm (.mk 3 c esc neg mark cls alts) = Pl.clsText (.mk 3 c esc neg mark cls alts) true) := Lib.hid (by simp [Pl.topTerm, Pl.Term.kind])
          have hcl : (Pl.clsText (.mk 3 c esc neg mark cls alts) true).length ≤ 1099511627776 := by rw [← e.out]; omega
          have hcs : (Pl.S (Pl.clsText (.mk 3 c esc neg mark cls alts) true)).size ≤ 1099511627776 := by rw [Pl.S_size]; exact hcl
          clear hA
          go_wp2_with (go_at_call 16; refine (class_any n _ (.mk 3 c esc neg mark cls alts) true _ ⟨_, _, rfl, HR.out.keep (fun p hp => World.cell?_alloc_lt wr _ p hp) (by simp) fun _ _ hl => Rd.Terms.keep (fun p hp => World.cell?_alloc_lt wr _ p hp) (by simp) hl⟩ hcl).mono ?_; rintro e w1 ⟨rfl, hb1⟩)
          go_roundw
          case measure => simp [intOf]; omega
          case rel => exact ⟨_, hlt, by go_num, str_eq (by rw [HT.out, e.out]; simp [Pl.S_add]), (hb.alloc hsz _).trans (hb1.mono (by simp; omega))⟩
        · have e : Hid (Pl.topTerm (.mk k c esc neg mark cls alts) = Pl.terms [.mk k c esc neg mark cls alts]) := Lib.hid ((if_neg hA).trans ((if_neg hk3).trans (by simp [Pl.terms])))
          have d3 : (k == 3) = false := beq_eq_false_iff_ne.2 hk3
          have hcl : (Pl.terms [.mk k c esc neg mark cls alts]).length ≤ 1099511627776 := by rw [← e.out]; omega
          have hcs : (Pl.S (Pl.terms [.mk k c esc neg mark cls alts])).size ≤ 1099511627776 := by rw [Pl.S_size]; exact hcl
          have hT : Hid (∀ W1 W2 : World, W1 = wr.alloc (.cells #[.int .i64 k, .int .i32 c, .bool esc, .bool neg, .bool mark, .slice A1 cls.length cap1, .slice A2 alts.length cap2] 52) → W2 = W1.alloc (.cells #[.int .i64 k, .int .i32 c, .bool esc, .bool neg, .bool mark, .slice A1 cls.length cap1, .slice A2 alts.length cap2] 52) →
              Rd.Terms W2 W2.heap.size (n + 1) (.slice (some ⟨wr.heap.size + 1, 0, none⟩) 1 1) [.mk k c esc neg mark cls alts]) := Lib.hid (by
            rintro W1 W2 rfl rfl
            refine .inr ⟨by simp, _, _, _, rfl, by simp, by simp, fun i x hi => ?_⟩
            obtain ⟨rfl, rfl⟩ : i = 0 ∧ x = .mk k c esc neg mark cls alts := by
              cases i with
              | zero => simp at hi; exact ⟨rfl, hi.symm⟩
              | succ i => simp at hi
            refine ⟨_, _, ⟨?_, ?_, ?_, ?_, ?_, ?_, ?_⟩, HR.out.up (((Below.refl _ _).alloc (Nat.le_refl _) _).alloc (by simp) _)⟩
            all_goals simp [Pl.Term.kind, Pl.Term.char, Pl.Term.esc, Pl.Term.neg, Pl.Term.mark, Pl.Term.cls, Pl.Term.alts])
          have hg : (k == 0) = false ∨ (k == 0) = true ∧ esc = true ∨ (k == 0) = true ∧ esc = false ∧ (c == 44) = false ∧ (c == 93) = false := by
            by_cases h0 : k = 0
            · cases esc
              · right; right
                have h4 : ¬ c = 44 := fun h => hA ⟨h0, rfl, .inl h⟩
                have h9 : ¬ c = 93 := fun h => hA ⟨h0, rfl, .inr h⟩
                exact ⟨by simp [h0], rfl, by simp [h4], by simp [h9]⟩
              · right; left; exact ⟨by simp [h0], rfl⟩
            · left; simp [h0]
          clear hA hk3 hle
          rcases hg with hg | ⟨hg, rfl⟩ | ⟨hg, rfl, hg4, hg9⟩
          all_goals
            go_wp2_with (go_at_call 7; refine (terms_any (n + 1) _ _ _ (hT.out _ _ rfl rfl) hcl).mono ?_; rintro e w1 ⟨rfl, hb1⟩)
            go_roundw
            case measure => simp [intOf]; omega
            case rel => exact ⟨_, hlt, by go_num, str_eq (by rw [HT.out, e.out]; simp [Pl.S_add]), ((hb.alloc hsz _).alloc (by simp; omega) _).trans (hb1.mono (by simp; omega))⟩
      · go_wp2_with fail
        go_ret
        have e : q = l.length := by omega
        subst e
        exact ⟨by simp, hb⟩

set_option maxHeartbeats 4000000 in
theorem as_any (n : Nat) (gv : Value) (ps : List Pl.Part) (w : World) (hg : Rd.GlobV w w.heap.size n gv ps) (hlen : (Pl.asT true ps).length ≤ 1099511627776) :
    Calls Tryd.prog 30 #[gv, .bool true] w fun e w' => e = .returned (.string (Pl.S (Pl.asT true ps))) ∧ Below w.heap.size w w' := by
  obtain ⟨vs, rfl, hv⟩ := hg
  obtain ⟨A, cap, rfl, hm, hx⟩ := hv.form
  have HX := Lib.hid hx
  clear hx hv
  go_enter Tryd.func30, Tryd.ntmps30
  go_wp2_with fail
  go_loopw [5, 11] (fun s i wr => ∃ q : Nat, q ≤ ps.length ∧ i = .int .i64 q ∧ s = .string (Pl.S (Pl.asT true (ps.take q))) ∧ Below w.heap.size w wr) (fun _ i _ => ps.length - (intOf i).toNat)
  case atStart => exact ⟨0, by simp, rfl, by simp [Pl.asT, Pl.lit0], (Below.refl _ _).alloc (Nat.le_refl _) _⟩
  case round =>
    obtain ⟨q, hq, rfl, rfl, hb⟩ := hrel
    by_cases hlt : q < ps.length
    · obtain ⟨⟨any, l⟩, hxq⟩ : ∃ x, ps[q]? = some x := ⟨_, List.getElem?_eq_getElem hlt⟩
      have hle := Pl.asT_le ps q _ hxq
      have HT := Lib.hid (Pl.asT_take ps q _ hxq)
      obtain ⟨b, off, rfl, hbl, v, hc0, hc1, hl⟩ := HX.out q _ hxq
      have hsz := hb.size
      have h0 := (hb.cell (p := ⟨b, off + q * 2, none⟩) hbl).trans hc0
      have h1 := (hb.cell (p := ⟨b, off + q * 2 + 1, none⟩) hbl).trans hc1
      have hl1 : Rd.Terms wr wr.heap.size n v l := hl.keep (fun _ hp => hb.cell hp) hsz
      clear hc0 hc1 hl HX hxq
      obtain ⟨A1, cap1, rfl, _, _⟩ := hl1.form
      have HR := Lib.hid hl1
      clear hl1
      simp only at h0 h1
      have hbl' : b < wr.heap.size := by omega
      have hs1 : (Pl.S (Pl.asT true (ps.take q))).size ≤ 1099511627776 := by rw [Pl.S_size]; omega
      cases any
      · have hcl : (Pl.topT l).length ≤ 1099511627776 := by simp only [Pl.partT] at hle; simp at hle; omega
        have hcs : (Pl.S (Pl.topT l)).size ≤ 1099511627776 := by rw [Pl.S_size]; exact hcl
        rcases Nat.lt_or_ge 0 q with hq0 | hq0
        · have hqd : Hid (¬ q = 0) := Lib.hid (by omega)
          go_wp2_with (go_at_call 37; refine (top_any n _ l _ (HR.out.up ((Below.refl _ _).alloc (Nat.le_refl _) _)) hcl).mono ?_; rintro e w1 ⟨rfl, hb1⟩)
          go_roundw
          case measure => simp [intOf]; omega
          case rel => exact ⟨_, hlt, by go_num, str_eq (by rw [HT.out, if_neg hqd.out]; simp [Pl.partT, Pl.lit1, Pl.S_add]), (hb.alloc hsz _).trans (hb1.mono (by simp; omega))⟩
        · have hqd : Hid (q = 0) := Lib.hid (by omega)
          go_wp2_with (go_at_call 37; refine (top_any n _ l _ (HR.out.up ((Below.refl _ _).alloc (Nat.le_refl _) _)) hcl).mono ?_; rintro e w1 ⟨rfl, hb1⟩)
          go_roundw
          case measure => simp [intOf]; omega
          case rel => exact ⟨_, hlt, by go_num, str_eq (by rw [HT.out, if_pos hqd.out]; simp [Pl.partT, Pl.S_add]), (hb.alloc hsz _).trans (hb1.mono (by simp; omega))⟩
      · rcases Nat.lt_or_ge 0 q with hq0 | hq0
        · have hqd : Hid (¬ q = 0) := Lib.hid (by omega)
          go_wp2_with fail
          go_roundw
          case measure => simp [intOf]; omega
          case rel => exact ⟨_, hlt, by go_num, str_eq (by rw [HT.out, if_neg hqd.out]; simp [Pl.partT, Pl.lit1, Pl.lit2, Pl.S_add]), hb.alloc hsz _⟩
        · have hqd : Hid (q = 0) := Lib.hid (by omega)
          go_wp2_with fail
          go_roundw
          case measure => simp [intOf]; omega
          case rel => exact ⟨_, hlt, by go_num, str_eq (by rw [HT.out, if_pos hqd.out]; simp [Pl.partT, Pl.lit2, Pl.S_add]), hb.alloc hsz _⟩
    · go_wp2_with fail
      go_ret
      have e : q = ps.length := by omega
      subst e
      exact ⟨by simp, hb⟩

set_option maxHeartbeats 1000000 in
theorem text_any (n : Nat) (gv : Value) (ps : List Pl.Part) (w : World) (hg : Rd.GlobV w w.heap.size n gv ps) (hlen : (Pl.asT true ps).length ≤ 1099511627776) :
    Calls Tryd.prog 20 #[gv] w fun e w' => e = .returned (.string (Pl.S (Pl.asT true ps))) ∧ Below w.heap.size w w' := by
  obtain ⟨vs, rfl, hv⟩ := hg
  obtain ⟨A, cap, rfl, _, _⟩ := hv.form
  have HG : Hid (Rd.GlobV w w.heap.size n (.agg #[.slice A ps.length cap]) ps) := Lib.hid ⟨_, rfl, hv⟩
  clear hv
  go_enter Tryd.func20, Tryd.ntmps20
  go_wp2_with (go_at_call 30; refine (as_any n _ ps _ (HG.out.up ((Below.refl _ _).alloc (Nat.le_refl _) _)) hlen).mono ?_; rintro e w1 ⟨rfl, hb1⟩)
  go_ret
  exact ⟨rfl, ((Below.refl _ _).alloc (Nat.le_refl _) _).trans (hb1.mono (by simp))⟩
end Go.Proofs.YthkbkiigpflonaaDoor
