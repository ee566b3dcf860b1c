/-
  The walks of the reference's look at terms.
-/
import Derived.Test.YthkbkiigpflonaaDoorWalkA
import Derived.Test.YthkbkiigpflonaaDoorRead
import Derived.Handy
import Derived.Deep.RegionHeld
namespace Go.Proofs.YthkbkiigpflonaaDoor
open Go.RowKit

/-- The counter's block g holds x in w'; else w' is w and new blocks. -/
structure Lf (g : Nat) (w w' : World) (x : Int) : Prop where
  grown : w.grownBy w' (some g)
  blk : w'.heap[g]? = some (.cells #[.int .i64 x] 3 (0, 0))

section
variable {g : Nat} {w w1 w2 : World} {x y : Int}
theorem Lf.lt (h : Lf g w w1 x) : g < w1.heap.size := (Array.getElem?_eq_some_iff.1 h.blk).1
theorem Lf.refl (h : w.heap[g]? = some (.cells #[.int .i64 x] 3 (0, 0))) : Lf g w w x := ⟨World.grownBy.refl w _, h⟩
theorem Lf.alloc (h : Lf g w w1 x) (o : Obj) : Lf g w (w1.alloc o) x :=
  ⟨⟨h.grown.os, h.grown.tape, h.grown.output, Nat.le_trans h.grown.size (by simp), fun k hk hne => (Below.heap_alloc w1 o k (Nat.lt_of_lt_of_le hk h.grown.size)).trans (h.grown.block k hk hne)⟩,
    (Below.heap_alloc w1 o g h.lt).trans h.blk⟩
theorem Lf.set (h : Lf g w w1 x) (y : Int) : Lf g w (w1.setCell ⟨g, 0, none⟩ (.int .i64 y)) y :=
  ⟨⟨h.grown.os, h.grown.tape, h.grown.output, Nat.le_trans h.grown.size (by simp), fun k hk hne => (Below.heap_setCell w1 ⟨g, 0, none⟩ _ k (fun e => hne (by rw [e]))).trans (h.grown.block k hk hne)⟩, by
    have hb := h.blk
    simp [World.setCell, Array.getElem?_modify, hb]⟩
theorem Lf.trans (h : Lf g w w1 x) (k : Lf g w1 w2 y) : Lf g w w2 y :=
  ⟨⟨k.grown.os.trans h.grown.os, k.grown.tape.trans h.grown.tape, k.grown.output.trans h.grown.output, Nat.le_trans h.grown.size k.grown.size,
    fun i hi hne => (k.grown.block i (Nat.lt_of_lt_of_le hi h.grown.size) hne).trans (h.grown.block i hi hne)⟩, k.blk⟩
theorem Lf.cell (h : Lf g w w1 x) : w1.cell? ⟨g, 0, none⟩ = some (.int .i64 x) := by
  have hb := h.blk
  simp [World.cell?, hb]
theorem Lf.frozen (h : Lf g w w1 x) : w1.frozen? ⟨g, 0, none⟩ = false := by
  have hb := h.blk
  simp [World.frozen?, hb]
theorem Lf.far (h : Lf g w w1 x) {p : Addr} (hp : p.block < w.heap.size) (hne : p.block ≠ g) : w1.cell? p = w.cell? p :=
  World.cell?_of_block (h.grown.block _ hp (fun e => hne (Option.some.inj e)))
end

/-- What the look at terms hands back. -/
def EndsPost (g : Nat) (w : World) (r : Option (Bool × Bool × Bool × Int)) (e : Ending) (w' : World) : Prop :=
  ∃ (s d n ok : Bool) (x : Int), e = .returned (.tuple #[.bool s, .bool d, .bool n, .bool ok]) ∧ Lf g w w' x ∧
    ((ok = true ∧ r = some (s, d, n, x) ∧ 0 ≤ x ∧ x ≤ 65536) ∨ (ok = false ∧ r = none ∧ s = false ∧ d = false ∧ n = false))

def EndsSaid (n : Nat) : Prop := ∀ (v : Value) (l : List Pl.Term) (w : World) (B g : Nat) (deep : Nat) (x : Int), Rd.Terms w B n v l → B ≤ g → deep ≤ 100 → 0 ≤ x → x ≤ 65536 → w.heap[g]? = some (.cells #[.int .i64 x] 3 (0, 0)) →
    Calls Tryd.prog 13 #[v, .int .i64 deep, .pointer (some ⟨g, 0, none⟩)] w (EndsPost g w (Pl.gEnds l deep x false false true))
def EndSaid (n : Nat) : Prop := ∀ (v : Value) (t : Pl.Term) (w : World) (B g : Nat) (deep : Nat) (x : Int), Rd.TermV w B n v t → B ≤ g → deep ≤ 100 → 0 ≤ x → x ≤ 65536 → w.heap[g]? = some (.cells #[.int .i64 x] 3 (0, 0)) →
    Calls Tryd.prog 25 #[v, .int .i64 deep, .pointer (some ⟨g, 0, none⟩)] w (EndsPost g w (Pl.gTerm t deep x))

set_option maxHeartbeats 4000000 in
theorem ends_nil (n : Nat) (hn : n = 0) : EndsSaid n := by
  subst hn
  intro v l w B g deep x hv hB hd h0 h1 hg
  obtain ⟨A, cap, rfl, _, hx⟩ := hv.form
  obtain rfl : l = [] := by
    cases l with
    | nil => rfl
    | cons t r =>
      obtain ⟨_, _, _, _, h⟩ := hx 0 t rfl
      exact h.elim
  clear hx hv
  have HG := Lib.hid hg
  clear hg
  go_enter Tryd.func13, Tryd.ntmps13
  go_wp2_with fail
  refine wp_loop_rounds 1 ?_
  rw [rounds_succ]
  go_wp2_with fail
  go_returns
  exact ⟨_, _, _, _, x, rfl, Lf.refl HG.out, .inl ⟨rfl, by simp [Pl.gEnds], h0, h1⟩⟩

set_option maxHeartbeats 4000000 in
theorem ends_succ (n : Nat) (IH : EndSaid n) : EndsSaid (n + 1) := by
  intro v l w B g deep x hv hB hd h0 h1 hg
  obtain ⟨A, cap, rfl, hm, hx⟩ := hv.form
  have HX := Lib.hid hx
  have hL0 := Lf.refl hg
  have hgw := hL0.lt
  clear hx hv hg
  go_enter Tryd.func13, Tryd.ntmps13
  go_wp2_with fail
  go_loopw [6, 7, 8, 18] (fun s e m i wr => ∃ (q : Nat) (y : Int) (sb eb mb : Bool), q ≤ l.length ∧ i = .int .i64 q ∧ s = .bool sb ∧ e = .bool eb ∧ m = .bool mb ∧ 0 ≤ y ∧ y ≤ 65536 ∧ Hid (Pl.gEnds (l.drop q) deep y sb eb mb = Pl.gEnds l deep x false false true) ∧ Lf g w wr y) (fun _ _ _ i _ => l.length - (intOf i).toNat)
  case atStart => exact ⟨0, x, false, false, true, by simp, rfl, rfl, rfl, rfl, h0, h1, Lib.hid rfl, hL0⟩
  case round =>
    obtain ⟨q, y, sb, eb, mb, hq, rfl, rfl, rfl, rfl, hy0, hy1, HE, hL⟩ := hrel
    by_cases hlt : q < l.length
    · obtain ⟨t, hxq⟩ : ∃ x, l[q]? = some x := ⟨_, List.getElem?_eq_getElem hlt⟩
      have HD : Hid (l.drop q = t :: l.drop (q + 1)) := Lib.hid (by
        rw [List.drop_eq_getElem_cons hlt]
        rw [List.getElem?_eq_getElem hlt] at hxq
        rw [Option.some.inj hxq])
      obtain ⟨b, off, rfl, hbl, vo, va, hc, hr⟩ := HX.out q _ hxq
      have hkeep : ∀ p : Addr, p.block < B → wr.cell? p = w.cell? p := fun p hp => hL.far (by omega) (by omega)
      have ht := Rd.Cells.keep hkeep hbl hc
      have hr1 : Rd.Rest wr B (Rd.Terms wr B n) vo va t := hr.keep hkeep (Nat.le_refl _) fun _ _ hl => Rd.Terms.keep hkeep (Nat.le_refl _) hl
      clear hc hr HX hxq hkeep
      obtain ⟨k, c, esc, neg, mark, cls, alts⟩ := t
      obtain ⟨A1, cap1, rfl, _, _⟩ := hr1.1.form
      obtain ⟨A2, cap2, rfl, _, _⟩ := hr1.2.form
      have HR := Lib.hid hr1
      clear hr1
      obtain ⟨h0, h1, h2, h3, h4, h5, h6⟩ := ht
      simp only [Pl.Term.kind, Pl.Term.char, Pl.Term.esc, Pl.Term.neg, Pl.Term.mark, Pl.Term.cls, Pl.Term.alts] at h0 h1 h2 h3 h4 h5 h6
      have hgc := hL.cell
      have hgf := hL.frozen
      have hgl := hL.lt
      have hbl' : b < wr.heap.size := by omega
      have hbg : b ≠ g := by omega
      by_cases hneg : y - 1 < 0
      · have HF : Hid (Pl.gEnds l deep x false false true = none) := Lib.hid (by rw [← HE.out, HD.out, Pl.gEnds, if_pos hneg])
        clear hm
        go_wp2_with fail
        go_returns
        exact ⟨_, _, _, _, y - 1, rfl, (hL.set _).alloc _, .inr ⟨rfl, HF.out, rfl, rfl, rfl⟩⟩
      · have HLW : Hid (Lf g wr ((wr.setCell ⟨g, 0, none⟩ (.int .i64 (y - 1))).alloc (.cells #[.int .i64 k, .int .i32 c, .bool esc, .bool neg, .bool mark, .slice A1 cls.length cap1, .slice A2 alts.length cap2] 52)) (y - 1)) := Lib.hid (((Lf.refl hL.blk).set _).alloc _)
        go_wp2_with fail
        refine (IH _ (.mk k c esc neg mark cls alts) _ B g deep (y - 1) ⟨_, _, rfl, HR.out.keep (fun p hp => HLW.out.far (by omega) (by omega)) (Nat.le_refl _) fun _ _ hl => Rd.Terms.keep (fun p hp => HLW.out.far (by omega) (by omega)) (Nat.le_refl _) hl⟩ hB hd (by omega) (by omega) HLW.out.blk).mono ?_
        rintro e w1 ⟨s1, d1, n1, ok1, x1, rfl, hL1, hcase⟩
        have hk1 : w1.cell? ⟨wr.heap.size, 0, none⟩ = some (.int .i64 k) := (hL1.far (p := ⟨wr.heap.size, 0, none⟩) (by simp) (by show wr.heap.size ≠ g; omega)).trans (by rw [World.cell?_alloc_at _ _ _ _ (by simp)]; rfl)
        have hL2 := hL.trans (HLW.out.trans hL1)
        clear h0 h1 h2 h3 h4 h5 h6 hgc hgf HLW hL1 HR
        rcases hcase with ⟨rfl, hr, hx0, hx1⟩ | ⟨rfl, hr, rfl, rfl, rfl⟩
        · have HR := Lib.hid hr
          clear hr
          have HS : Hid (Pl.gEnds l deep x false false true = if eb && (s1 || k == 4) then none else Pl.gEnds (l.drop (q + 1)) deep x1 (sb || mb && s1) (d1 || n1 && eb) (mb && n1)) := Lib.hid (by
            rw [← HE.out, HD.out, Pl.gEnds, if_neg (by omega), HR.out]
            rfl)
          cases hbad : (eb && (s1 || k == 4))
          · rw [hbad] at HS
            have hbad' : eb = false ∨ eb = true ∧ s1 = false ∧ (k == 4) = false := by
              cases eb <;> cases s1 <;> simp_all
            clear hbad
            rcases hbad' with rfl | ⟨rfl, rfl, hk4⟩ <;> cases sb <;> cases mb <;> cases d1 <;> cases n1
            all_goals
              go_wp2_with fail
              go_roundw
              case measure => simp [intOf]; omega
              case rel => exact ⟨_, _, _, _, _, hlt, by go_num, rfl, rfl, rfl, hx0, hx1, Lib.hid HS.out.symm, hL2⟩
          · rw [hbad] at HS
            have hbad' : eb = true ∧ s1 = true ∨ eb = true ∧ s1 = false ∧ (k == 4) = true := by
              cases eb <;> cases s1 <;> simp_all
            clear hbad
            rcases hbad' with ⟨rfl, rfl⟩ | ⟨rfl, rfl, hk4⟩
            all_goals
              go_wp2_with fail
              go_returns
              exact ⟨_, _, _, _, x1, rfl, hL2, .inr ⟨rfl, HS.out, rfl, rfl, rfl⟩⟩
        · have HF : Hid (Pl.gEnds l deep x false false true = none) := Lib.hid (by rw [← HE.out, HD.out, Pl.gEnds, if_neg (by omega), hr])
          clear hr
          go_wp2_with fail
          go_returns
          exact ⟨_, _, _, _, x1, rfl, hL2, .inr ⟨rfl, HF.out, rfl, rfl, rfl⟩⟩
    · have HF : Hid (Pl.gEnds l deep x false false true = some (sb, eb, mb, y)) := Lib.hid (by
        rw [← HE.out, List.drop_eq_nil_of_le (by omega), Pl.gEnds])
      go_wp2_with fail
      go_returns
      exact ⟨_, _, _, _, y, rfl, hL, .inl ⟨rfl, HF.out, hy0, hy1⟩⟩
end Go.Proofs.YthkbkiigpflonaaDoor
