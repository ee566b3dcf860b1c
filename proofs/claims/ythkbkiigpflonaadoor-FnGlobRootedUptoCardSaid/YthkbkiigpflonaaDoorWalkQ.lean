/-
  The walks of the reference's looks at a pattern's classes: whether a class of what is not in it occurs.
-/
import Derived.Test.YthkbkiigpflonaaDoorWalkI
import Derived.Test.YthkbkiigpflonaaDoorToks
namespace Go.Proofs.YthkbkiigpflonaaDoor
open Go.RowKit

theorem neA_take (l : List (List Pl.Term)) (q : Nat) (a : List Pl.Term) (h : l[q]? = some a) : Pl.neA (l.take (q + 1)) = (Pl.neA (l.take q) || Pl.neL a) := by
  obtain ⟨hk, hx⟩ := List.getElem?_eq_some_iff.1 h
  rw [List.take_succ_eq_append_getElem hk, hx]
  have : ∀ (x : List (List Pl.Term)), Pl.neA (x ++ [a]) = (Pl.neA x || Pl.neL a) := by
    intro x
    induction x with
    | nil => simp [Pl.neA]
    | cons y x ih => simp [Pl.neA, ih, Bool.or_assoc]
  exact this _
theorem neL_take (l : List Pl.Term) (q : Nat) (t : Pl.Term) (h : l[q]? = some t) : Pl.neL (l.take (q + 1)) = (Pl.neL (l.take q) || Pl.neT t) := by
  obtain ⟨hk, hx⟩ := List.getElem?_eq_some_iff.1 h
  rw [List.take_succ_eq_append_getElem hk, hx]
  have : ∀ (x : List Pl.Term), Pl.neL (x ++ [t]) = (Pl.neL x || Pl.neT t) := by
    intro x
    induction x with
    | nil => simp [Pl.neL]
    | cons y x ih => simp [Pl.neL, ih, Bool.or_assoc]
  exact this _

/-- If it says no, there is none. -/
def NotPost (l : List Pl.Term) (w : World) (e : Ending) (w' : World) : Prop := ∃ b : Bool, e = .returned (.bool b) ∧ Below w.heap.size w w' ∧ (b = false → Pl.neL l = false)

set_option maxHeartbeats 4000000 in
set_option maxRecDepth 100000 in
theorem not_any (n : Nat) : ∀ (v : Value) (l : List Pl.Term) (w : World), Rd.Terms w w.heap.size n v l →
    Calls Tryd.prog 28 #[v] w (NotPost l w) := by
  induction n with
  | zero =>
    intro v l w hv
    obtain ⟨A, cap, rfl, _, hx⟩ := hv.form
    obtain rfl : l = [] := by
      cases l with
      | nil => rfl
      | cons t r =>
        obtain ⟨_, _, _, _, h⟩ := hx 0 t rfl
        exact h.elim
    clear hx hv
    go_enter Tryd.func28, Tryd.ntmps28
    go_wp2_with fail
    refine wp_loop_rounds 1 ?_
    rw [rounds_succ]
    go_wp2_with fail
    go_ret
    exact ⟨_, rfl, Below.refl _ _, fun _ => rfl⟩
  | succ n ih =>
    intro v l w hv
    have IH := Lib.hid ih
    clear ih
    obtain ⟨A, cap, rfl, hm, hx⟩ := hv.form
    have HX := Lib.hid hx
    clear hx hv
    go_enter Tryd.func28, Tryd.ntmps28
    go_wp2_with fail
    go_loopw [11] (fun i wr => ∃ q : Nat, q ≤ l.length ∧ i = .int .i64 q ∧ Below w.heap.size w wr ∧ Hid (Pl.neL (l.take q) = false)) (fun i _ => l.length - (intOf i).toNat)
    case atStart => exact ⟨0, by simp, rfl, Below.refl _ _, Lib.hid rfl⟩
    case round =>
      obtain ⟨q, hq, rfl, hb, HQ⟩ := hrel
      by_cases hlt : q < l.length
      · obtain ⟨t, hxq⟩ : ∃ x, l[q]? = some x := ⟨_, List.getElem?_eq_getElem hlt⟩
        have HL := Lib.hid (neL_take l q t hxq)
        obtain ⟨b, off, rfl, hbl, vo, va, hc, hr⟩ := HX.out q _ hxq
        have hsz := hb.size
        have ht := (Rd.Cells.keep (fun _ hp => hb.cell hp) hbl hc)
        have hr1 : Rd.Rest wr wr.heap.size (Rd.Terms wr wr.heap.size n) vo va t := hr.keep (fun _ hp => hb.cell hp) hsz fun _ _ hl => Rd.Terms.keep (fun _ hp => hb.cell hp) hsz hl
        clear hc hr HX hxq
        obtain ⟨k, c, esc, neg, mark, cls, alts⟩ := t
        obtain ⟨A1, cap1, rfl, hm1, hx1⟩ := hr1.1.form
        obtain ⟨A2, cap2, rfl, hm2, hx2⟩ := hr1.2.form
        simp only [Pl.Term.alts, Pl.Term.cls] at hm1 hx1 hm2 hx2
        have HX1 := Lib.hid hx1
        have HX2 := Lib.hid hx2
        clear hr1 hx1 hx2
        obtain ⟨h0, h1, h2, h3, h4, h5, h6⟩ := ht
        simp only [Pl.Term.kind, Pl.Term.char, Pl.Term.esc, Pl.Term.neg, Pl.Term.mark, Pl.Term.cls, Pl.Term.alts] at h0 h1 h2 h3 h4 h5 h6
        have hbl' : b < wr.heap.size := by omega
        obtain ⟨wo, rfl⟩ : ∃ wo : World, wo = wr := ⟨_, rfl⟩
        cases hk3 : k == 3
        · have HK : Hid ((k == 3 && neg) = false) := Lib.hid (by rw [hk3]; rfl)
          go_wp2_with fail
          go_loopw [25] (fun i wi => ∃ j : Nat, j ≤ cls.length ∧ i = .int .i64 j ∧ Below (wo.heap.size + 1) (wo.alloc (.cells #[.int .i64 k, .int .i32 c, .bool esc, .bool neg, .bool mark, .slice A1 cls.length cap1, .slice A2 alts.length cap2] 52)) wi) (fun i _ => cls.length - (intOf i).toNat)
          case atStart => exact ⟨0, by simp, rfl, Below.refl _ _⟩
          case round =>
            obtain ⟨j, hj, rfl, hbi⟩ := hrel
            have hsi : wo.heap.size < wr.heap.size := by have := hbi.size; simp at this; omega
            have hw := ((Below.refl wo.heap.size wo).alloc (Nat.le_refl _) _).trans (hbi.mono (by omega))
            have hk : wr.cell? ⟨wo.heap.size, 0, none⟩ = some (.int .i64 k) := (hbi.cell (p := ⟨wo.heap.size, 0, none⟩) (by show wo.heap.size < _; omega)).trans (by simp)
            by_cases hlj : j < cls.length
            · obtain ⟨⟨x1, x2⟩, hxj⟩ : ∃ x, cls[j]? = some x := ⟨_, List.getElem?_eq_getElem hlj⟩
              obtain ⟨b2, off2, rfl, hb2, hp0, hp1⟩ := HX1.out j _ hxj
              simp only at hp0 hp1
              have hkeep : ∀ p : Addr, p.block < wo.heap.size → wr.cell? p = wo.cell? p := fun p hp => (hbi.cell (by omega)).trans (World.cell?_alloc_lt wo _ p hp)
              have hc0 := (hkeep ⟨b2, off2 + j * 2, none⟩ hb2).trans hp0
              have hc1 := (hkeep ⟨b2, off2 + j * 2 + 1, none⟩ hb2).trans hp1
              clear hp0 hp1 hkeep HX1 HX2 hxj
              go_wp2_with fail
              go_roundw
              case measure => simp [intOf]; omega
              case rel => exact ⟨_, hlj, by go_num, hbi.alloc (by omega) _⟩
            · have hk5 : wr.cell? ⟨wo.heap.size, 6, none⟩ = some (.slice A2 alts.length cap2) := (hbi.cell (p := ⟨wo.heap.size, 6, none⟩) (by show wo.heap.size < _; omega)).trans (by simp)
              obtain ⟨wm, rfl⟩ : ∃ wm : World, wm = wr := ⟨_, rfl⟩
              clear HX1
              go_wp2_with fail
              go_loopw [46] (fun i wi => ∃ j : Nat, j ≤ alts.length ∧ i = .int .i64 j ∧ Below wm.heap.size wm wi ∧ Hid ((k == 4 && Pl.neA (alts.take j)) = false)) (fun i _ => alts.length - (intOf i).toNat)
              case atStart => exact ⟨0, by simp, rfl, Below.refl _ _, Lib.hid (by simp [Pl.neA])⟩
              case round =>
                obtain ⟨j, hj, rfl, hbj, HA⟩ := hrel
                have hsj := hbj.size
                have hw2 := hw.trans (hbj.mono (by omega))
                have hk0 := (hbj.cell (p := ⟨wo.heap.size, 0, none⟩) hsi).trans hk
                by_cases hlj : j < alts.length
                · obtain ⟨a, hja⟩ : ∃ x, alts[j]? = some x := ⟨_, List.getElem?_eq_getElem hlj⟩
                  have HT := Lib.hid (neA_take alts j a hja)
                  obtain ⟨b2, off2, rfl, hb2, v2, hcell2, hT2⟩ := HX2.out j a hja
                  rw [Nat.mul_one] at hcell2
                  clear hja HX2
                  have hkeep : ∀ p : Addr, p.block < wo.heap.size → wr.cell? p = wo.cell? p := fun p hp => (hbj.cell (by omega)).trans ((hbi.cell (by omega)).trans (World.cell?_alloc_lt wo _ p hp))
                  have hc2 := (hkeep ⟨b2, off2 + j, none⟩ hb2).trans hcell2
                  have hT3 : Hid (Rd.Terms wr wr.heap.size n v2 a) := Lib.hid (Rd.Terms.keep hkeep (by omega) hT2)
                  have hsr : wo.heap.size < wr.heap.size := by omega
                  clear hcell2 hT2 hkeep
                  cases hk4 : k == 4
                  · go_wp2_with fail
                    go_roundw
                    case measure => simp [intOf]; omega
                    case rel => exact ⟨_, hlj, by go_num, hbj, Lib.hid (by simp)⟩
                  · have HK4 := Lib.hid hk4
                    go_wp2_with (go_at_call 28; refine (IH.out _ a _ hT3.out).mono ?_; rintro e w1 ⟨bb, rfl, hb1, hbb⟩; have HBB := Lib.hid hbb; clear hbb; cases bb)
                    · go_roundw
                      case measure => simp [intOf]; omega
                      case rel => exact ⟨_, hlj, by go_num, hbj.trans (hb1.mono hsj), Lib.hid (by have h := HA.out; rw [HK4.out, Bool.true_and] at h; rw [HT.out, h, (by first | exact HBB.out rfl | exact HBB.out trivial | exact HBB.out : Pl.neL a = false)]; rfl)⟩
                    · go_ret
                      exact ⟨_, rfl, hb.trans ((hw2.trans (hb1.mono (by omega))).mono hsz), fun h => by cases h⟩
                · have HE : Hid (Pl.neL (l.take (q + 1)) = false) := Lib.hid (by
                    have h1 := HA.out
                    rw [List.take_of_length_le (by omega)] at h1
                    rw [HL.out, HQ.out, Pl.neT, h1, HK.out]
                    rfl)
                  go_wp2_with fail
                  go_roundw
                  case measure => simp [intOf]; omega
                  case rel => exact ⟨_, hlt, by go_num, hb.trans (hw2.mono hsz), HE⟩
        · cases neg
          · have HK : Hid ((k == 3 && false) = false) := Lib.hid (by simp)
            go_wp2_with fail
            go_loopw [25] (fun i wi => ∃ j : Nat, j ≤ cls.length ∧ i = .int .i64 j ∧ Below (wo.heap.size + 1) (wo.alloc (.cells #[.int .i64 k, .int .i32 c, .bool esc, .bool false, .bool mark, .slice A1 cls.length cap1, .slice A2 alts.length cap2] 52)) wi) (fun i _ => cls.length - (intOf i).toNat)
            case atStart => exact ⟨0, by simp, rfl, Below.refl _ _⟩
            case round =>
              obtain ⟨j, hj, rfl, hbi⟩ := hrel
              have hsi : wo.heap.size < wr.heap.size := by have := hbi.size; simp at this; omega
              have hw := ((Below.refl wo.heap.size wo).alloc (Nat.le_refl _) _).trans (hbi.mono (by omega))
              have hk : wr.cell? ⟨wo.heap.size, 0, none⟩ = some (.int .i64 k) := (hbi.cell (p := ⟨wo.heap.size, 0, none⟩) (by show wo.heap.size < _; omega)).trans (by simp)
              by_cases hlj : j < cls.length
              · obtain ⟨⟨x1, x2⟩, hxj⟩ : ∃ x, cls[j]? = some x := ⟨_, List.getElem?_eq_getElem hlj⟩
                obtain ⟨b2, off2, rfl, hb2, hp0, hp1⟩ := HX1.out j _ hxj
                simp only at hp0 hp1
                have hkeep : ∀ p : Addr, p.block < wo.heap.size → wr.cell? p = wo.cell? p := fun p hp => (hbi.cell (by omega)).trans (World.cell?_alloc_lt wo _ p hp)
                have hc0 := (hkeep ⟨b2, off2 + j * 2, none⟩ hb2).trans hp0
                have hc1 := (hkeep ⟨b2, off2 + j * 2 + 1, none⟩ hb2).trans hp1
                clear hp0 hp1 hkeep HX1 HX2 hxj
                cases hx1 : decide (x1 < 47)
                · go_wp2_with fail
                  go_roundw
                  case measure => simp [intOf]; omega
                  case rel => exact ⟨_, hlj, by go_num, hbi.alloc (by omega) _⟩
                · cases hx2 : decide (47 < x2)
                  · go_wp2_with fail
                    go_roundw
                    case measure => simp [intOf]; omega
                    case rel => exact ⟨_, hlj, by go_num, hbi.alloc (by omega) _⟩
                  · go_wp2_with fail
                    go_ret
                    exact ⟨_, rfl, hb.trans ((hw.alloc (by omega) _).mono hsz), fun h => by cases h⟩
              · have hk5 : wr.cell? ⟨wo.heap.size, 6, none⟩ = some (.slice A2 alts.length cap2) := (hbi.cell (p := ⟨wo.heap.size, 6, none⟩) (by show wo.heap.size < _; omega)).trans (by simp)
                obtain ⟨wm, rfl⟩ : ∃ wm : World, wm = wr := ⟨_, rfl⟩
                clear HX1
                go_wp2_with fail
                go_loopw [46] (fun i wi => ∃ j : Nat, j ≤ alts.length ∧ i = .int .i64 j ∧ Below wm.heap.size wm wi ∧ Hid ((k == 4 && Pl.neA (alts.take j)) = false)) (fun i _ => alts.length - (intOf i).toNat)
                case atStart => exact ⟨0, by simp, rfl, Below.refl _ _, Lib.hid (by simp [Pl.neA])⟩
                case round =>
                  obtain ⟨j, hj, rfl, hbj, HA⟩ := hrel
                  have hsj := hbj.size
                  have hw2 := hw.trans (hbj.mono (by omega))
                  have hk0 := (hbj.cell (p := ⟨wo.heap.size, 0, none⟩) hsi).trans hk
                  by_cases hlj : j < alts.length
                  · obtain ⟨a, hja⟩ : ∃ x, alts[j]? = some x := ⟨_, List.getElem?_eq_getElem hlj⟩
                    have HT := Lib.hid (neA_take alts j a hja)
                    obtain ⟨b2, off2, rfl, hb2, v2, hcell2, hT2⟩ := HX2.out j a hja
                    rw [Nat.mul_one] at hcell2
                    clear hja HX2
                    have hkeep : ∀ p : Addr, p.block < wo.heap.size → wr.cell? p = wo.cell? p := fun p hp => (hbj.cell (by omega)).trans ((hbi.cell (by omega)).trans (World.cell?_alloc_lt wo _ p hp))
                    have hc2 := (hkeep ⟨b2, off2 + j, none⟩ hb2).trans hcell2
                    have hT3 : Hid (Rd.Terms wr wr.heap.size n v2 a) := Lib.hid (Rd.Terms.keep hkeep (by omega) hT2)
                    have hsr : wo.heap.size < wr.heap.size := by omega
                    clear hcell2 hT2 hkeep
                    cases hk4 : k == 4
                    · go_wp2_with fail
                      go_roundw
                      case measure => simp [intOf]; omega
                      case rel => exact ⟨_, hlj, by go_num, hbj, Lib.hid (by simp)⟩
                    · have HK4 := Lib.hid hk4
                      go_wp2_with (go_at_call 28; refine (IH.out _ a _ hT3.out).mono ?_; rintro e w1 ⟨bb, rfl, hb1, hbb⟩; have HBB := Lib.hid hbb; clear hbb; cases bb)
                      · go_roundw
                        case measure => simp [intOf]; omega
                        case rel => exact ⟨_, hlj, by go_num, hbj.trans (hb1.mono hsj), Lib.hid (by have h := HA.out; rw [HK4.out, Bool.true_and] at h; rw [HT.out, h, (by first | exact HBB.out rfl | exact HBB.out trivial | exact HBB.out : Pl.neL a = false)]; rfl)⟩
                      · go_ret
                        exact ⟨_, rfl, hb.trans ((hw2.trans (hb1.mono (by omega))).mono hsz), fun h => by cases h⟩
                  · have HE : Hid (Pl.neL (l.take (q + 1)) = false) := Lib.hid (by
                      have h1 := HA.out
                      rw [List.take_of_length_le (by omega)] at h1
                      rw [HL.out, HQ.out, Pl.neT, h1, HK.out]
                      rfl)
                    go_wp2_with fail
                    go_roundw
                    case measure => simp [intOf]; omega
                    case rel => exact ⟨_, hlt, by go_num, hb.trans (hw2.mono hsz), HE⟩
          · go_wp2_with fail
            go_ret
            exact ⟨_, rfl, hb.trans (((Below.refl wo.heap.size wo).alloc (Nat.le_refl _) _).mono hsz), fun h => by cases h⟩
      · have HE : Hid (Pl.neL l = false) := Lib.hid (by
          have := HQ.out
          rwa [List.take_of_length_le (by omega)] at this)
        go_wp2_with fail
        go_ret
        exact ⟨_, rfl, hb, fun _ => HE.out⟩

def OpenPost (ps : List Pl.Part) (w : World) (e : Ending) (w' : World) : Prop := ∃ b : Bool, e = .returned (.bool b) ∧ Below w.heap.size w w' ∧ (b = false → ∀ p ∈ ps, p.any = false → Pl.neL p.terms = false)
set_option maxHeartbeats 4000000 in
theorem open_any (n : Nat) (gv : Value) (ps : List Pl.Part) (w : World) (hg : Rd.GlobV w w.heap.size n gv ps) :
    Calls Tryd.prog 18 #[gv] w (OpenPost ps w) := by
  obtain ⟨vs, rfl, hv⟩ := hg
  obtain ⟨A, cap, rfl, hm, hx⟩ := hv.form
  have HX := Lib.hid hx
  clear hx hv
  go_enter Tryd.func18, Tryd.ntmps18
  go_wp2_with fail
  go_loopw [8] (fun i wr => ∃ q : Nat, q ≤ ps.length ∧ i = .int .i64 q ∧ Below w.heap.size w wr ∧ Hid (∀ p ∈ ps.take q, p.any = false → Pl.neL p.terms = false)) (fun i _ => ps.length - (intOf i).toNat)
  case atStart => exact ⟨0, by simp, rfl, (Below.refl _ _).alloc (Nat.le_refl _) _, Lib.hid (by simp)⟩
  case round =>
    obtain ⟨q, hq, rfl, hb, HO⟩ := hrel
    by_cases hlt : q < ps.length
    · obtain ⟨⟨any, l⟩, hxq⟩ : ∃ x, ps[q]? = some x := ⟨_, List.getElem?_eq_getElem hlt⟩
      have HT : Hid (ps.take (q + 1) = ps.take q ++ [⟨any, l⟩]) := Lib.hid (by
        obtain ⟨hk, hx⟩ := List.getElem?_eq_some_iff.1 hxq
        rw [List.take_succ_eq_append_getElem hk, hx])
      obtain ⟨b, off, rfl, hbl, v, hc0, hc1, hl⟩ := HX.out q _ hxq
      have hsz := hb.size
      have h0 := (hb.cell (p := ⟨b, off + q * 2, none⟩) hbl).trans hc0
      have h1 := (hb.cell (p := ⟨b, off + q * 2 + 1, none⟩) hbl).trans hc1
      have hl1 : Rd.Terms wr wr.heap.size n v l := hl.keep (fun _ hp => hb.cell hp) hsz
      clear hc0 hc1 hl HX hxq
      obtain ⟨A1, cap1, rfl, _, _⟩ := hl1.form
      have HR := Lib.hid hl1
      clear hl1
      simp only at h0 h1
      have hbl' : b < wr.heap.size := by omega
      cases any
      · go_wp2_with (go_at_call 28; refine (not_any n _ l _ (HR.out.up ((Below.refl _ _).alloc (Nat.le_refl _) _))).mono ?_; rintro e w1 ⟨bb, rfl, hb1, hbb⟩; have HBB := Lib.hid hbb; clear hbb; cases bb)
        · have HN : Hid (∀ p ∈ ps.take (q + 1), p.any = false → Pl.neL p.terms = false) := Lib.hid (by
            rw [HT.out]
            intro p hp
            rcases List.mem_append.1 hp with hp | hp
            · exact HO.out p hp
            · simp at hp
              subst hp
              exact fun _ => (by first | exact HBB.out rfl | exact HBB.out trivial | exact HBB.out))
          clear HO
          go_roundw
          case measure => simp [intOf]; omega
          case rel => exact ⟨_, hlt, by go_num, (hb.alloc hsz _).trans (hb1.mono (by simp; omega)), HN⟩
        · go_ret
          exact ⟨_, rfl, (hb.alloc hsz _).trans (hb1.mono (by simp; omega)), fun h => by cases h⟩
      · have HN : Hid (∀ p ∈ ps.take (q + 1), p.any = false → Pl.neL p.terms = false) := Lib.hid (by
          rw [HT.out]
          intro p hp
          rcases List.mem_append.1 hp with hp | hp
          · exact HO.out p hp
          · simp at hp
            subst hp
            exact fun h => by cases h)
        clear HO
        go_wp2_with fail
        go_roundw
        case measure => simp [intOf]; omega
        case rel => exact ⟨_, hlt, by go_num, hb.alloc hsz _, HN⟩
    · have HE : Hid (∀ p ∈ ps, p.any = false → Pl.neL p.terms = false) := Lib.hid (by
        have := HO.out
        rwa [List.take_of_length_le (by omega)] at this)
      clear HO
      go_wp2_with fail
      go_ret
      exact ⟨_, rfl, hb, fun _ => HE.out⟩
end Go.Proofs.YthkbkiigpflonaaDoor
