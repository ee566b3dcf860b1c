/-
  The walk of a class's text.
-/
import Derived.Test.YthkbkiigpflonaaDoorWalkA
import Derived.Test.YthkbkiigpflonaaDoorRead
import Derived.Deep.DeepCutAuto
import Derived.Deep.CutBlock
namespace Go.Proofs.YthkbkiigpflonaaDoor
open Go.RowKit

/-- What one round of the class's loop adds to its text. -/
theorem class_round {acc : List UInt8} {top mark : Bool} {cls : List (Int × Int)} {q : Nat} {x1 x2 : Int} {s : ByteArray} (hx : cls[q]? = some (x1, x2))
    (hs : s = Pl.S acc ++ Pl.S (Pl.inClass x1 (top && !decide (q = 0) && !mark)) ++ if x1 != x2 || mark then Pl.S [45] ++ Pl.S (Pl.inClass x2 (top && !mark)) else Pl.S []) (h : List UInt8)
    (ha : acc = h ++ Pl.items top mark true (cls.take q)) :
    Value.string s = .string (Pl.S (h ++ Pl.items top mark true (cls.take (q + 1)))) := by
  rw [hs, Pl.items_take _ _ _ _ _ hx, ha, Pl.item]
  congr 1
  split <;> simp [Pl.S_add]

set_option maxHeartbeats 4000000 in
theorem class_any (n : Nat) (tv : Value) (t : Pl.Term) (top : Bool) (w : World) (ht : Rd.TermV w w.heap.size n tv t) (hlen : (Pl.clsText t top).length ≤ 1099511627776) :
    Calls Tryd.prog 16 #[tv, .bool top] w fun e w' => e = .returned (.string (Pl.S (Pl.clsText t top))) ∧ Below w.heap.size w w' := by
  obtain ⟨vo, va, rfl, hr⟩ := ht
  obtain ⟨k, c, esc, neg, mark, cls, alts⟩ := t
  obtain ⟨A, cap, hvo, hm, hx⟩ := hr.1.form
  simp only [Pl.clsText, Pl.Term.kind, Pl.Term.char, Pl.Term.esc, Pl.Term.neg, Pl.Term.mark, Pl.Term.cls] at hvo hm hx hlen ⊢
  subst hvo
  have HX := Lib.hid hx
  have HL : Hid (∀ q, (Pl.S (Pl.clsHead neg esc ++ Pl.items top mark true (cls.take q))).size ≤ 1099511627776) := Lib.hid (by
    intro q
    have e : Pl.items top mark true cls = Pl.items top mark true (cls.take q) ++ Pl.items top mark (true && (cls.take q).isEmpty) (cls.drop q) := by
      conv => lhs; rw [← List.take_append_drop q cls]
      exact Pl.items_append ..
    rw [Pl.S_size]
    rw [e] at hlen
    simp only [List.length_append] at hlen ⊢
    omega)
  clear hx hr hlen
  go_enter Tryd.func16, Tryd.ntmps16
  go_upto_region 2 with (fail)
  go_cut [13] (fun v wc => (∃ d, v = .bool d ∧ Hid (d = (neg && esc))) ∧ wc = (w.alloc (.cells #[.int .i64 k, .int .i32 c, .bool esc, .bool neg, .bool mark, .slice A cls.length cap, va] 52)))
  case first =>
    cases neg <;> cases esc
    all_goals
      go_wp2_with fail
      go_meet
      case rel => exact ⟨⟨_, rfl, Lib.hid rfl⟩, rfl⟩
  case rest =>
   obtain ⟨⟨d, rfl, hd⟩, rfl⟩ := hcut
   go_upto_if 13 with (fail)
   go_cut [5] (fun v wc => v = .string (Pl.S (Pl.clsHead neg esc)) ∧ wc = (w.alloc (.cells #[.int .i64 k, .int .i32 c, .bool esc, .bool neg, .bool mark, .slice A cls.length cap, va] 52)))
   case first =>
    obtain rfl := hd.out
    clear hd
    cases neg <;> cases esc
    all_goals
      go_wp2_with fail
      go_meet
      case rel => exact ⟨rfl, rfl⟩
   case rest =>
    obtain ⟨rfl, rfl⟩ := hcut
    clear hd
    go_wp2_with fail
    go_loopw [5, 23] (fun s i wr => ∃ q : Nat, q ≤ cls.length ∧ i = .int .i64 q ∧ s = .string (Pl.S (Pl.clsHead neg esc ++ Pl.items top mark true (cls.take q))) ∧ Below (w.heap.size + 1) (w.alloc (.cells #[.int .i64 k, .int .i32 c, .bool esc, .bool neg, .bool mark, .slice A cls.length cap, va] 52)) wr) (fun _ i _ => cls.length - (intOf i).toNat)
    case atStart => exact ⟨0, by simp, rfl, by simp [Pl.items], Below.refl _ _⟩
    case round =>
      obtain ⟨q, hq, rfl, rfl, hb⟩ := hrel
      have hsz : w.heap.size < wr.heap.size := by have := hb.size; simp at this; omega
      have hs0 := HL.out q
      by_cases hlt : q < cls.length
      · obtain ⟨⟨x1, x2⟩, hxq⟩ : ∃ x, cls[q]? = some x := ⟨_, List.getElem?_eq_getElem hlt⟩
        have HXQ := Lib.hid hxq
        obtain ⟨b, off, rfl, hbl, hp0, hp1⟩ := HX.out q _ hxq
        simp only at hp0 hp1
        clear hxq HX
        have hc0 := (hb.cell (p := ⟨b, off + q * 2, none⟩) (by show b < _; omega)).trans ((World.cell?_alloc_lt w (.cells #[.int .i64 k, .int .i32 c, .bool esc, .bool neg, .bool mark, .slice (some ⟨b, off, none⟩) cls.length cap, va] 52) _ (by exact hbl)).trans hp0)
        have hc1 := (hb.cell (p := ⟨b, off + q * 2 + 1, none⟩) (by show b < _; omega)).trans ((World.cell?_alloc_lt w (.cells #[.int .i64 k, .int .i32 c, .bool esc, .bool neg, .bool mark, .slice (some ⟨b, off, none⟩) cls.length cap, va] 52) _ (by exact hbl)).trans hp1)
        have hc4 : wr.cell? ⟨w.heap.size, 4, none⟩ = some (.bool mark) := (hb.cell (p := ⟨w.heap.size, 4, none⟩) (by show w.heap.size < _; omega)).trans (by simp)
        have i1 := Pl.inClass_le x1 true
        have i2 := Pl.inClass_le x1 false
        have i3 := Pl.inClass_le x2 true
        have i4 := Pl.inClass_le x2 false
        clear hp0 hp1
        cases top <;> cases mark
        case' true.false => rcases Nat.lt_or_ge 0 q with hq0 | hq0
        all_goals
          go_wp2_with (go_at_call 27; refine (inClass_any _ _ _).mono ?_; rintro e w1 ⟨rfl, hb1⟩; obtain ⟨hcc, hff⟩ := bcell hb1; have hz1 := hb1.size; first | (have hb := (hb.alloc (by omega) _).trans (hb1.mono (by simp; omega)); simp only [World.size_alloc] at hz1 hcc; clear hb1) | (have hb := hb.trans (hb1.mono (by omega)); clear hb1))
          all_goals
            go_roundw
            case measure => simp [intOf]; omega
            case rel => refine ⟨_, hlt, by go_num, class_round HXQ.out ?_ _ rfl, by assumption⟩; first | (have hq1 : decide (q = 0) = true := decide_eq_true (by omega); rw [hq1]; simp [*, Pl.lit1, Pl.S_add]; done) | (have hq1 : decide (q = 0) = false := decide_eq_false (by omega); rw [hq1]; simp [*, Pl.lit1, Pl.S_add]; done) | (simp [*, Pl.lit1, Pl.S_add]; done)
      · go_wp2_with fail
        go_ret
        refine ⟨?_, (Below.refl _ _).alloc (Nat.le_refl _) _ |>.trans (hb.mono (by omega))⟩
        have e : q = cls.length := by omega
        subst e
        simp [Pl.lit1, Pl.S_add]
end Go.Proofs.YthkbkiigpflonaaDoor
