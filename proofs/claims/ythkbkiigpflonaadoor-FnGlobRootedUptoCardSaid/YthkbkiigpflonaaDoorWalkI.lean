/-
  The walk of the reference's look at a pattern, whole.
-/
import Derived.Test.YthkbkiigpflonaaDoorWalkH
namespace Go.Proofs.YthkbkiigpflonaaDoor
open Go.RowKit

theorem Lf.below {g : Nat} {w w1 : World} {x : Int} (h : Lf g w w1 x) {B : Nat} (hB : B ≤ g) (hw : B ≤ w.heap.size) : Below B w w1 :=
  ⟨h.grown.os, h.grown.tape, h.grown.output, h.grown.size, fun k hk => h.grown.block k (by omega) (fun e => by have := Option.some.inj e; omega)⟩

def RightPost (ps : List Pl.Part) (w : World) (e : Ending) (w' : World) : Prop := ∃ b : Bool, e = .returned (.bool b) ∧ Below w.heap.size w w' ∧ (b = true → Pl.right ps)

set_option maxHeartbeats 4000000 in
theorem right_any (n : Nat) (gv : Value) (ps : List Pl.Part) (w : World) (hg : Rd.GlobV w w.heap.size n gv ps) :
    Calls Tryd.prog 17 #[gv] w (RightPost ps w) := by
  obtain ⟨vs, rfl, hv⟩ := hg
  obtain ⟨A, cap, rfl, hm, hx⟩ := hv.form
  have HX := Lib.hid hx
  have HG : Hid (Rd.GlobV w w.heap.size n (.agg #[.slice A ps.length cap]) ps) := Lib.hid ⟨_, rfl, hv⟩
  have hL0 : Lf (w.heap.size + 1) ((w.alloc (.cells #[.slice A ps.length cap] 30)).alloc (.cells #[.int .i64 65536] 3)) ((w.alloc (.cells #[.slice A ps.length cap] 30)).alloc (.cells #[.int .i64 65536] 3)) 65536 :=
    Lf.refl (by have := heap_alloc_new (w.alloc (.cells #[.slice A ps.length cap] 30)) (.cells #[.int .i64 65536] 3); simpa using this)
  have hW0 : Below w.heap.size w ((w.alloc (.cells #[.slice A ps.length cap] 30)).alloc (.cells #[.int .i64 65536] 3)) := ((Below.refl _ _).alloc (Nat.le_refl _) _).alloc (by simp) _
  clear hx hv
  go_enter Tryd.func17, Tryd.ntmps17
  go_wp2_with fail
  go_loopw [13] (fun i wr => ∃ (q : Nat) (y : Int), q ≤ ps.length ∧ i = .int .i64 q ∧ 0 ≤ y ∧ y ≤ 65536 ∧ Lf (w.heap.size + 1) ((w.alloc (.cells #[.slice A ps.length cap] 30)).alloc (.cells #[.int .i64 65536] 3)) wr y ∧ Hid (∀ p ∈ ps.take q, p.any = false → p.terms ≠ [] ∧ Pl.okTerms p.terms)) (fun i _ => ps.length - (intOf i).toNat)
  case atStart => exact ⟨0, 65536, by simp, rfl, by omega, by omega, hL0, Lib.hid (by simp)⟩
  case round =>
    obtain ⟨q, y, hq, rfl, hy0, hy1, hL, HO⟩ := hrel
    have hb : Below w.heap.size w wr := hW0.trans (hL.below (by omega) (by simp; omega))
    have hgl := hL.lt
    have hbx : wr.cell? ⟨w.heap.size, 0, none⟩ = some (.slice A ps.length cap) := (hL.far (p := ⟨w.heap.size, 0, none⟩) (by simp; omega) (by show w.heap.size ≠ w.heap.size + 1; omega)).trans (by simp)
    by_cases hlt : q < ps.length
    · obtain ⟨⟨any, l⟩, hxq⟩ : ∃ x, ps[q]? = some x := ⟨_, List.getElem?_eq_getElem hlt⟩
      have HT : Hid (ps.take (q + 1) = ps.take q ++ [⟨any, l⟩]) := Lib.hid (by
        obtain ⟨hk, hx⟩ := List.getElem?_eq_some_iff.1 hxq
        rw [List.take_succ_eq_append_getElem hk, hx])
      obtain ⟨b, off, rfl, hbl, v, hc0, hc1, hl⟩ := HX.out q _ hxq
      have hsz := hb.size
      have h0 := (hb.cell (p := ⟨b, off + q * 2, none⟩) hbl).trans hc0
      have h1 := (hb.cell (p := ⟨b, off + q * 2 + 1, none⟩) hbl).trans hc1
      have hl1 : Rd.Terms wr w.heap.size n v l := hl.keep (fun _ hp => hb.cell hp) (Nat.le_refl _)
      clear hc0 hc1 hl HX hxq
      obtain ⟨A1, cap1, rfl, _, _⟩ := hl1.form
      have HR := Lib.hid hl1
      clear hl1
      simp only at h0 h1
      have hbl' : b < wr.heap.size := by omega
      cases any
      · have HLW : Hid (Lf (w.heap.size + 1) wr (wr.alloc (.cells #[.bool false, .slice A1 l.length cap1] 38)) y) := Lib.hid ((Lf.refl hL.blk).alloc _)
        go_wp2_with fail
        refine (ends_all n _ l _ w.heap.size (w.heap.size + 1) 100 y (Rd.Terms.keep (fun p hp => HLW.out.far (by omega) (by omega)) (Nat.le_refl _) HR.out) (by omega) (by omega) hy0 hy1 HLW.out.blk).mono ?_
        rintro e w1 ⟨s1, d1, n1, ok1, x1, rfl, hL1, hcase⟩
        have hk1 : w1.cell? ⟨wr.heap.size, 1, none⟩ = some (.slice A1 l.length cap1) := (hL1.far (p := ⟨wr.heap.size, 1, none⟩) (by simp) (by show wr.heap.size ≠ w.heap.size + 1; omega)).trans (by simp)
        have hL2 := hL.trans (HLW.out.trans hL1)
        have hb2 : Below w.heap.size w w1 := hW0.trans (hL2.below (by omega) (by simp; omega))
        clear h0 h1 hbx HLW hL1 HR
        rcases hcase with ⟨rfl, hr, hx0, hx1⟩ | ⟨rfl, hr, rfl, rfl, rfl⟩
        · rcases Nat.eq_zero_or_pos l.length with hl0 | hl0
          · have hl0' : ((l.length : Int) == 0) = true := by simp [hl0]
            clear hl0 hr
            go_wp2_with fail
            go_ret
            exact ⟨_, rfl, hb2, fun h => by cases h⟩
          · have hl0' : ((l.length : Int) == 0) = false := by
              rw [beq_eq_false_iff_ne]
              omega
            have HN : Hid (∀ p ∈ ps.take (q + 1), p.any = false → p.terms ≠ [] ∧ Pl.okTerms p.terms) := Lib.hid (by
              rw [HT.out]
              intro p hp
              rcases List.mem_append.1 hp with hp | hp
              · exact HO.out p hp
              · simp at hp
                subst hp
                exact fun _ => ⟨fun e => by simp only at e; rw [e] at hl0; simp at hl0, ⟨100, y, _, hr⟩⟩)
            clear hr HO
            go_wp2_with fail
            go_roundw
            case measure => simp [intOf]; omega
            case rel => exact ⟨_, _, hlt, by go_num, hx0, hx1, hL2, HN⟩
        · clear hr
          go_wp2_with fail
          go_ret
          exact ⟨_, rfl, hb2, fun h => by cases h⟩
      · have HN : Hid (∀ p ∈ ps.take (q + 1), p.any = false → p.terms ≠ [] ∧ Pl.okTerms p.terms) := Lib.hid (by
          rw [HT.out]
          intro p hp
          rcases List.mem_append.1 hp with hp | hp
          · exact HO.out p hp
          · simp at hp
            subst hp
            exact fun h => by cases h)
        clear HO
        go_wp2_with fail
        go_roundw
        case measure => simp [intOf]; omega
        case rel => exact ⟨_, _, hlt, by go_num, hy0, hy1, hL.alloc _, HN⟩
    · have HN : Hid (∀ p ∈ ps, p.any = false → p.terms ≠ [] ∧ Pl.okTerms p.terms) := Lib.hid (by
        have := HO.out
        rwa [List.take_of_length_le (by omega)] at this)
      clear HO HX
      rcases Nat.lt_trichotomy ps.length 1 with hl | hl | hl
      · have hl1 : ((ps.length : Int) == 1) = false := by
          rw [beq_eq_false_iff_ne]
          omega
        go_wp2_with fail
        go_ret
        exact ⟨_, rfl, hb, fun h => by cases h⟩
      · have hl1 : ((ps.length : Int) == 1) = true := by simp [hl]
        have HL : Hid (0 < ps.length) := Lib.hid (by omega)
        clear hl
        go_wp2_with fail
        go_ret
        exact ⟨_, rfl, hb, fun _ => ⟨HL.out, HN.out⟩⟩
      · have hl1 : ((ps.length : Int) == 1) = false := by
          rw [beq_eq_false_iff_ne]
          omega
        go_wp2_with (go_at_call 19; refine (vanishes_any n _ ps _ (HG.out.up hb)).mono ?_; rintro e w1 ⟨bb, rfl, hb1⟩)
        go_ret
        exact ⟨_, rfl, hb.trans (hb1.mono hb.size), fun _ => ⟨by omega, HN.out⟩⟩

set_option maxHeartbeats 400000 in
theorem fits_any (n : Nat) (gv : Value) (ps : List Pl.Part) (w : World) (hg : Rd.GlobV w w.heap.size n gv ps) (hl : ps.length ≤ 1048576) :
    Calls Tryd.prog 8 #[gv] w fun e w' => e = .returned (.bool true) ∧ Below w.heap.size w w' := by
  obtain ⟨vs, rfl, hv⟩ := hg
  obtain ⟨A, cap, rfl, hm, hx⟩ := hv.form
  clear hx hv
  go_enter Tryd.func8, Tryd.ntmps8
  go_wp2_with fail
  go_ret
  exact ⟨rfl, (Below.refl _ _).alloc (Nat.le_refl _) _⟩
end Go.Proofs.YthkbkiigpflonaaDoor
