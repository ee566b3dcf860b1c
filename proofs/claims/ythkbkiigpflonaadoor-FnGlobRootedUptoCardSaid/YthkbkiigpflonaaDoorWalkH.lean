/-
  The walks of the reference's look at a pattern: whether it may be one.
-/
import Derived.Test.YthkbkiigpflonaaDoorWalkG
import Derived.Test.YthkbkiigpflonaaDoorWalkD
namespace Go.Proofs.YthkbkiigpflonaaDoor
open Go.RowKit

/-- A bool comes back, whatever it is; what there was stays. -/
def BoolPost (w : World) (e : Ending) (w' : World) : Prop := ∃ b : Bool, e = .returned (.bool b) ∧ Below w.heap.size w w'

set_option maxHeartbeats 4000000 in
theorem vanish_any (n : Nat) : ∀ (v : Value) (l : List Pl.Term) (w : World), Rd.Terms w w.heap.size n v l →
    Calls Tryd.prog 29 #[v] w (BoolPost w) := by
  induction n with
  | zero =>
    intro v l w hv
    obtain ⟨A, cap, rfl, _, hx⟩ := hv.form
    obtain rfl : l = [] := by
      cases l with
      | nil => rfl
      | cons t r =>
        obtain ⟨_, _, _, _, h⟩ := hx 0 t rfl
        exact h.elim
    clear hx hv
    go_enter Tryd.func29, Tryd.ntmps29
    go_wp2_with fail
    refine wp_loop_rounds 1 ?_
    rw [rounds_succ]
    go_wp2_with fail
    go_ret
    exact ⟨_, rfl, Below.refl _ _⟩
  | succ n ih =>
    intro v l w hv
    have IH := Lib.hid ih
    clear ih
    obtain ⟨A, cap, rfl, hm, hx⟩ := hv.form
    have HX := Lib.hid hx
    clear hx hv
    go_enter Tryd.func29, Tryd.ntmps29
    go_wp2_with fail
    go_loopw [10] (fun i wr => ∃ q : Nat, q ≤ l.length ∧ i = .int .i64 q ∧ Below w.heap.size w wr) (fun i _ => l.length - (intOf i).toNat)
    case atStart => exact ⟨0, by simp, rfl, Below.refl _ _⟩
    case round =>
      obtain ⟨q, hq, rfl, hb⟩ := hrel
      by_cases hlt : q < l.length
      · obtain ⟨t, hxq⟩ : ∃ x, l[q]? = some x := ⟨_, List.getElem?_eq_getElem hlt⟩
        obtain ⟨b, off, rfl, hbl, vo, va, hc, hr⟩ := HX.out q _ hxq
        have hsz := hb.size
        have ht := (Rd.Cells.keep (fun _ hp => hb.cell hp) hbl hc)
        have hr1 : Rd.Rest wr wr.heap.size (Rd.Terms wr wr.heap.size n) vo va t := hr.keep (fun _ hp => hb.cell hp) hsz fun _ _ hl => Rd.Terms.keep (fun _ hp => hb.cell hp) hsz hl
        clear hc hr HX hxq
        obtain ⟨k, c, esc, neg, mark, cls, alts⟩ := t
        obtain ⟨A1, cap1, rfl, _, _⟩ := hr1.1.form
        obtain ⟨A2, cap2, rfl, hm2, hx2⟩ := hr1.2.form
        simp only [Pl.Term.alts] at hm2 hx2
        have HX2 := Lib.hid hx2
        clear hr1 hx2
        obtain ⟨h0, h1, h2, h3, h4, h5, h6⟩ := ht
        simp only [Pl.Term.kind, Pl.Term.char, Pl.Term.esc, Pl.Term.neg, Pl.Term.mark, Pl.Term.cls, Pl.Term.alts] at h0 h1 h2 h3 h4 h5 h6
        have hbl' : b < wr.heap.size := by omega
        obtain ⟨wo, rfl⟩ : ∃ wo : World, wo = wr := ⟨_, rfl⟩
        go_wp2_with fail
        go_loopw [5, 17] (fun gn i wi => ∃ (j : Nat) (gb : Bool), j ≤ alts.length ∧ i = .int .i64 j ∧ gn = .bool gb ∧ Below (wo.heap.size + 1) (wo.alloc (.cells #[.int .i64 k, .int .i32 c, .bool esc, .bool neg, .bool mark, .slice A1 cls.length cap1, .slice A2 alts.length cap2] 52)) wi) (fun _ i _ => alts.length - (intOf i).toNat)
        case atStart => exact ⟨0, false, by simp, rfl, rfl, Below.refl _ _⟩
        case round =>
          obtain ⟨j, gb, hj, rfl, rfl, hbi⟩ := hrel
          have hsi : wo.heap.size < wr.heap.size := by have := hbi.size; simp at this; omega
          by_cases hlj : j < alts.length
          · obtain ⟨a, hja⟩ : ∃ x, alts[j]? = some x := ⟨_, List.getElem?_eq_getElem hlj⟩
            obtain ⟨b2, off2, rfl, hb2, v2, hcell2, hT2⟩ := HX2.out j a hja
            rw [Nat.mul_one] at hcell2
            clear hja HX2
            have hkeep : ∀ p : Addr, p.block < wo.heap.size → wr.cell? p = wo.cell? p := fun p hp => (hbi.cell (by omega)).trans (World.cell?_alloc_lt wo _ p hp)
            have hc2 := (hkeep ⟨b2, off2 + j, none⟩ hb2).trans hcell2
            have hT3 : Hid (Rd.Terms wr wr.heap.size n v2 a) := Lib.hid (Rd.Terms.keep hkeep (by omega) hT2)
            have hk : wr.cell? ⟨wo.heap.size, 0, none⟩ = some (.int .i64 k) := (hbi.cell (p := ⟨wo.heap.size, 0, none⟩) (by show wo.heap.size < _; omega)).trans (by simp)
            clear hcell2 hT2 hkeep
            cases gb
            · cases hk4 : k == 4
              · go_wp2_with fail
                go_roundw
                case measure => simp [intOf]; omega
                case rel => exact ⟨_, _, hlj, by go_num, rfl, hbi⟩
              · go_wp2_with (go_at_call 29; refine (IH.out _ a _ hT3.out).mono ?_; rintro e w1 ⟨bb, rfl, hb1⟩)
                go_roundw
                case measure => simp [intOf]; omega
                case rel => exact ⟨_, _, hlj, by go_num, rfl, hbi.trans (hb1.mono (by omega))⟩
            · go_wp2_with fail
              go_roundw
              case measure => simp [intOf]; omega
              case rel => exact ⟨_, _, hlj, by go_num, rfl, hbi⟩
          · have hw := ((Below.refl wo.heap.size wo).alloc (Nat.le_refl _) _).trans (hbi.mono (by omega))
            cases gb
            · go_wp2_with fail
              go_ret
              exact ⟨_, rfl, hb.trans (hw.mono hsz)⟩
            · go_wp2_with fail
              go_roundw
              case measure => simp [intOf]; omega
              case rel => exact ⟨_, hlt, by go_num, hb.trans (hw.mono hsz)⟩
      · go_wp2_with fail
        go_ret
        exact ⟨_, rfl, hb⟩

set_option maxHeartbeats 4000000 in
theorem vanishes_any (n : Nat) (gv : Value) (ps : List Pl.Part) (w : World) (hg : Rd.GlobV w w.heap.size n gv ps) :
    Calls Tryd.prog 19 #[gv] w (BoolPost w) := by
  obtain ⟨vs, rfl, hv⟩ := hg
  obtain ⟨A, cap, rfl, hm, hx⟩ := hv.form
  have HX := Lib.hid hx
  clear hx hv
  go_enter Tryd.func19, Tryd.ntmps19
  go_wp2_with fail
  go_loopw [8] (fun i wr => ∃ q : Nat, q ≤ ps.length ∧ i = .int .i64 q ∧ Below w.heap.size w wr) (fun i _ => ps.length - (intOf i).toNat)
  case atStart => exact ⟨0, by simp, rfl, (Below.refl _ _).alloc (Nat.le_refl _) _⟩
  case round =>
    obtain ⟨q, hq, rfl, hb⟩ := hrel
    by_cases hlt : q < ps.length
    · obtain ⟨⟨any, l⟩, hxq⟩ : ∃ x, ps[q]? = some x := ⟨_, List.getElem?_eq_getElem hlt⟩
      obtain ⟨b, off, rfl, hbl, v, hc0, hc1, hl⟩ := HX.out q _ hxq
      have hsz := hb.size
      have h0 := (hb.cell (p := ⟨b, off + q * 2, none⟩) hbl).trans hc0
      have h1 := (hb.cell (p := ⟨b, off + q * 2 + 1, none⟩) hbl).trans hc1
      have hl1 : Rd.Terms wr wr.heap.size n v l := hl.keep (fun _ hp => hb.cell hp) hsz
      clear hc0 hc1 hl HX hxq
      obtain ⟨A1, cap1, rfl, _, _⟩ := hl1.form
      have HR := Lib.hid hl1
      clear hl1
      simp only at h0 h1
      have hbl' : b < wr.heap.size := by omega
      cases any
      · go_wp2_with (go_at_call 29; refine (vanish_any n _ l _ (HR.out.up ((Below.refl _ _).alloc (Nat.le_refl _) _))).mono ?_; rintro e w1 ⟨bb, rfl, hb1⟩; cases bb)
        · go_roundw
          case measure => simp [intOf]; omega
          case rel => exact ⟨_, hlt, by go_num, (hb.alloc hsz _).trans (hb1.mono (by simp; omega))⟩
        · go_ret
          exact ⟨_, rfl, (hb.alloc hsz _).trans (hb1.mono (by simp; omega))⟩
      · go_wp2_with fail
        go_roundw
        case measure => simp [intOf]; omega
        case rel => exact ⟨_, hlt, by go_num, hb.alloc hsz _⟩
    · go_wp2_with fail
      go_ret
      exact ⟨_, rfl, hb⟩
end Go.Proofs.YthkbkiigpflonaaDoor
