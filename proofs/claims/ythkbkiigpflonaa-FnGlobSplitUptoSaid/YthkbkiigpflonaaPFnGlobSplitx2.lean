-- PRINTED BY print.sh 35421559b90ae4d0a3588c463048766b98c2df88dd9212a6774a882060cdf62d: not written by this session
import Derived.Test.YthkbkiigpflonaaPFnGlobSplitx0
import Derived.Test.YthkbkiigpflonaaPFnGlobSplitx1
namespace Go.Proofs.Ythkbkiigpflonaa.PFnGlobSplit
open Go.RowKit Go.Proofs.YthkbkiigpflonaaW.PrintWords Go.Proofs.YthkbkiigpflonaaW.PrintLast Go.Proofs.YthkbkiigpflonaaW.PrintMore
attribute [local go_sem] max2_int min2_int max_two min_two max_three min_three max_four min_four   -- for this text's walks alone
set_option linter.unusedVariables false
set_option linter.unusedSimpArgs false

/-! ### doublestar_SplitPattern: function 16 -/
mutual
def doublestar_SplitPattern.j1 : Nat → ByteArray → ByteArray → ByteArray → Int → Option (ByteArray × ByteArray)
  | 0, _, _, _, _ => none
  | k + 1, x0, x2, x3, x4 => if x4 = 0 then (if 1 ≤ (x0.size : Int) then (some ((⟨#[47]⟩ : ByteArray), x0.extract 1 x0.size)) else (none)) else (if x4 > 0 then (if 0 ≤ x4 then (if x4 ≤ (x0.size : Int) then ((doublestar_unescapeMeta.f k (x0.extract 0 (x4 : Int).toNat)).bind fun t128 => (if 0 ≤ (wrap64 (x4 + 1)) then (if (wrap64 (x4 + 1)) ≤ (x0.size : Int) then (some (t128, x0.extract ((wrap64 (x4 + 1)) : Int).toNat x0.size)) else (none)) else (none))) else (none)) else (none)) else (some (x2, x3)))
def doublestar_SplitPattern.l0 : Nat → ByteArray → ByteArray → ByteArray → Int → Int → Option (ByteArray × ByteArray)
  | 0, _, _, _, _, _ => none
  | k + 1, x0, x2, x3, x4, x5 => if x5 < (x0.size : Int) then (if 0 ≤ x5 then (if (bt x0 x5) = 92 then (doublestar_SplitPattern.l0 k x0 x2 x3 x4 (wrap64 ((wrap64 (x5 + 1)) + 1))) else (if (bt x0 x5) = 47 then (doublestar_SplitPattern.l0 k x0 x2 x3 x5 (wrap64 (x5 + 1))) else (if (bt x0 x5) = 42 then (doublestar_SplitPattern.j1 k x0 x2 x3 x4) else (if (bt x0 x5) = 63 then (doublestar_SplitPattern.j1 k x0 x2 x3 x4) else (if (bt x0 x5) = 91 then (doublestar_SplitPattern.j1 k x0 x2 x3 x4) else (if (bt x0 x5) = 123 then (doublestar_SplitPattern.j1 k x0 x2 x3 x4) else (doublestar_SplitPattern.l0 k x0 x2 x3 x4 (wrap64 (x5 + 1))))))))) else (none)) else (doublestar_SplitPattern.j1 k x0 x2 x3 x4)
end
def doublestar_SplitPattern.f (k : Nat) (a0 : ByteArray) : Option (ByteArray × ByteArray) := doublestar_SplitPattern.l0 k a0 (⟨#[46]⟩ : ByteArray) a0 (-1) 0
theorem doublestar_SplitPattern.mono_l : ∀ k, (∀ y0 y1 y2 y3, LeO (doublestar_SplitPattern.j1 k y0 y1 y2 y3) (doublestar_SplitPattern.j1 (k + 1) y0 y1 y2 y3)) ∧ (∀ y0 y1 y2 y3 y4, LeO (doublestar_SplitPattern.l0 k y0 y1 y2 y3 y4) (doublestar_SplitPattern.l0 (k + 1) y0 y1 y2 y3 y4))
  | 0 => ⟨fun _ _ _ _ r h => by simp [doublestar_SplitPattern.j1] at h, fun _ _ _ _ _ r h => by simp [doublestar_SplitPattern.l0] at h⟩
  | k + 1 => by
    obtain ⟨ih0, ih1⟩ := doublestar_SplitPattern.mono_l k
    refine ⟨?_, ?_⟩
    · intro y0 y1 y2 y3
      unfold doublestar_SplitPattern.j1
      repeat' first
      | (with_reducible exact ih0 _ _ _ _)
      | (with_reducible exact ih1 _ _ _ _ _)
      | (with_reducible exact doublestar_unescapeMeta.mono _ _)
      | (with_reducible exact LeO.refl _)
      | (with_reducible exact LeO.none _)
      | (with_reducible refine LeO.ite ?_ ?_)
      | (with_reducible refine LeO.bind ?_ (fun _ => ?_))
      | exact ih0 _ _ _ _
      | exact ih1 _ _ _ _ _
      | exact doublestar_unescapeMeta.mono _ _
      | exact LeO.none _
      | refine LeO.ite ?_ ?_
      | refine LeO.bind ?_ (fun _ => ?_)
    · intro y0 y1 y2 y3 y4
      unfold doublestar_SplitPattern.l0
      repeat' first
      | (with_reducible exact ih0 _ _ _ _)
      | (with_reducible exact ih1 _ _ _ _ _)
      | (with_reducible exact doublestar_unescapeMeta.mono _ _)
      | (with_reducible exact LeO.refl _)
      | (with_reducible exact LeO.none _)
      | (with_reducible refine LeO.ite ?_ ?_)
      | (with_reducible refine LeO.bind ?_ (fun _ => ?_))
      | exact ih0 _ _ _ _
      | exact ih1 _ _ _ _ _
      | exact doublestar_unescapeMeta.mono _ _
      | exact LeO.none _
      | refine LeO.ite ?_ ?_
      | refine LeO.bind ?_ (fun _ => ?_)
theorem doublestar_SplitPattern.mono : ∀ a0 k, LeO (doublestar_SplitPattern.f k a0) (doublestar_SplitPattern.f (k + 1) a0) := by
  intro a0 k
  obtain ⟨ih0, ih1⟩ := doublestar_SplitPattern.mono_l k
  unfold doublestar_SplitPattern.f
  repeat' first
      | (with_reducible exact ih0 _ _ _ _)
      | (with_reducible exact ih1 _ _ _ _ _)
      | (with_reducible exact doublestar_unescapeMeta.mono _ _)
      | (with_reducible exact LeO.refl _)
      | (with_reducible exact LeO.none _)
      | (with_reducible refine LeO.ite ?_ ?_)
      | (with_reducible refine LeO.bind ?_ (fun _ => ?_))
      | exact ih0 _ _ _ _
      | exact ih1 _ _ _ _ _
      | exact doublestar_unescapeMeta.mono _ _
      | exact LeO.none _
      | refine LeO.ite ?_ ?_
      | refine LeO.bind ?_ (fun _ => ?_)
def doublestar_SplitPattern.T16 : Bool × List (List Nat × List Nat) := (true, [([], []), ([], []), ([0, 1], [0, 1]), ([2], [2]), ([], []), ([], []), ([5], [5]), ([4, 6], [4, 6]), ([3, 3, 0, 1, 2, 3], [3]), ([7, 8, 0, 1, 2, 3, 4, 5, 6, 7, 8], [7])])
def doublestar_SplitPattern.B16 : List Nat := [0, 0, 3, 7, 0, 0, 32, 112, 15, 511]
theorem doublestar_SplitPattern.tab16 : rtab .any (opsOf Try.f16 16) = doublestar_SplitPattern.T16 := by kernel_rfl
theorem doublestar_SplitPattern.bits16 : waitsOk doublestar_SplitPattern.T16.2 doublestar_SplitPattern.B16 = true := by kernel_rfl
set_option maxHeartbeats 8000000 in
set_option maxRecDepth 100000 in
theorem doublestar_SplitPattern.calls (k : Nat) (a0 : ByteArray) (r1 : ByteArray) (r2 : ByteArray) (w : World) (h : doublestar_SplitPattern.f k a0 = some (r1, r2)) :
    Calls Try.prog 16 #[.string a0] w fun e w' => e = .returned (.tuple #[.string r1, .string r2]) ∧ Below w.heap.size w w' := by
  have HB := Aside0.mk (Below.refl w.heap.size w)
  have H : (doublestar_SplitPattern.l0 k a0 (⟨#[46]⟩ : ByteArray) a0 (-1) 0) = some (r1, r2) := h
  clear h
  have HC2 := Aside0.mk H
  clear H
  go_enter Try.func16, Try.ntmps16
  go_upto_block 0 with (fail)
  go_cut [4] (fun v4 wc => ∃ (kq : Nat) (x4_1 : Int), v4 = .int .i64 x4_1 ∧ Aside0 (doublestar_SplitPattern.j1 kq a0 (⟨#[46]⟩ : ByteArray) a0 x4_1 = some (r1, r2)) ∧ Aside0 (kq ≤ k) ∧ Aside0 (Below w.heap.size w wc))
  case first =>
    have H := HC2.out
    clear HC2
    have H' := Aside0.mk H
    clear H
    go_wp2
    go_loopg [4, 5] k (fun kq v4 v5 w' => ∃ (x4_1 : Int) (x5_1 : Int), v4 = .int .i64 x4_1 ∧ v5 = .int .i64 x5_1 ∧ Aside0 (doublestar_SplitPattern.l0 kq a0 (⟨#[46]⟩ : ByteArray) a0 x4_1 x5_1 = some (r1, r2)) ∧ Aside0 (kq ≤ k) ∧ Aside0 (Below w.heap.size w w'))
    case atStart => exact ⟨((-1)), (0), (by first | rfl | (simp; done) | (simp [*]; done)), (by first | rfl | (simp; done) | (simp [*]; done)), H', ⟨Nat.le_refl _⟩, ⟨by repeat (first | (with_reducible first | exact HB.out | apply below_alloc | apply pw_below_drewN | apply below_drew1) | exact HB.out)⟩⟩
    case round =>
      clear H'
      try clear c1
      try clear p2
      obtain ⟨x4_1, x5_1, rfl, rfl, HA, HK1, HB⟩ := hrel
      cases gk with
      | zero => exact absurd HA.out (by simp [doublestar_SplitPattern.l0])
      | succ k1 =>
        have H := HA.out
        clear HA
        simp only [doublestar_SplitPattern.l0] at H
        by_cases c3 : x5_1 < (a0.size : Int)
        · rw [if_pos c3] at H
          have c3b0 : decide (x5_1 < (a0.size : Int)) = true := decide_eq_true c3
          clear c3
          (first | rw [c3b0] | (simp only [i64_w, i32_w]; rw [c3b0]) | skip)
          by_cases c4 : 0 ≤ x5_1
          · rw [if_pos c4] at H
            have c4b0 : decide (0 ≤ x5_1) = true := decide_eq_true c4
            clear c4
            by_cases c6 : (bt a0 x5_1) = 92
            · rw [if_pos c6] at H
              have c6b0 : ((bt a0 x5_1) == 92) = true := beq_iff_eq.mpr c6
              have c6b1 : ((bt a0 x5_1) != 92) = false := bne_eq_false_iff_eq.mpr c6
              clear c6
              have H' := Aside0.mk H
              clear H
              have p5 : 0 ≤ (x5_1 : Int) := of_decide_eq_true (by first | (with_reducible assumption) | assumption)
              have q5 : x5_1 < (a0.size : Int) := of_decide_eq_true (by first | (with_reducible assumption) | assumption)
              have hx5 := bt_at a0 x5_1
              replace p5 := eq_true p5
              replace q5 := eq_true q5
              go_wp2
              go_roundg k1
              case measure => have := HK1.out; omega
              case rel => exact ⟨(x4_1), (wrap64 ((wrap64 (x5_1 + 1)) + 1)), (by first | rfl | (simp; done) | (simp [*]; done)), (by first | rfl | (simp; done) | (simp [*]; done)), H', ⟨by have := HK1.out; omega⟩, ⟨by repeat (first | (with_reducible first | exact HB.out | apply below_alloc | apply pw_below_drewN | apply below_drew1) | exact HB.out)⟩⟩
            · rw [if_neg c6] at H
              have c6b0 : ((bt a0 x5_1) == 92) = false := beq_eq_false_iff_ne.mpr c6
              have c6b1 : ((bt a0 x5_1) != 92) = true := bne_iff_ne.mpr c6
              by_cases c7 : (bt a0 x5_1) = 47
              · rw [if_pos c7] at H
                have c7b0 : ((bt a0 x5_1) == 47) = true := beq_iff_eq.mpr c7
                have c7b1 : ((bt a0 x5_1) != 47) = false := bne_eq_false_iff_eq.mpr c7
                clear c7
                have H' := Aside0.mk H
                clear H
                have p5 : 0 ≤ (x5_1 : Int) := of_decide_eq_true (by first | (with_reducible assumption) | assumption)
                have q5 : x5_1 < (a0.size : Int) := of_decide_eq_true (by first | (with_reducible assumption) | assumption)
                have hx5 := bt_at a0 x5_1
                replace p5 := eq_true p5
                replace q5 := eq_true q5
                go_wp2
                go_roundg k1
                case measure => have := HK1.out; omega
                case rel => exact ⟨(x5_1), (wrap64 (x5_1 + 1)), (by first | rfl | (simp; done) | (simp [*]; done)), (by first | rfl | (simp; done) | (simp [*]; done)), H', ⟨by have := HK1.out; omega⟩, ⟨by repeat (first | (with_reducible first | exact HB.out | apply below_alloc | apply pw_below_drewN | apply below_drew1) | exact HB.out)⟩⟩
              · rw [if_neg c7] at H
                have c7b0 : ((bt a0 x5_1) == 47) = false := beq_eq_false_iff_ne.mpr c7
                have c7b1 : ((bt a0 x5_1) != 47) = true := bne_iff_ne.mpr c7
                by_cases c8 : (bt a0 x5_1) = 42
                · rw [if_pos c8] at H
                  have c8b0 : ((bt a0 x5_1) == 42) = true := beq_iff_eq.mpr c8
                  have c8b1 : ((bt a0 x5_1) != 42) = false := bne_eq_false_iff_eq.mpr c8
                  clear c8
                  have H' := Aside0.mk H
                  clear H
                  have p5 : 0 ≤ (x5_1 : Int) := of_decide_eq_true (by first | (with_reducible assumption) | assumption)
                  have q5 : x5_1 < (a0.size : Int) := of_decide_eq_true (by first | (with_reducible assumption) | assumption)
                  have hx5 := bt_at a0 x5_1
                  replace p5 := eq_true p5
                  replace q5 := eq_true q5
                  go_wp2
                  go_meet
                  case rel => exact ⟨_, (x4_1), (by first | rfl | (simp; done) | (simp [*]; done)), H', ⟨by have := HK1.out; first | omega | exact Nat.le_refl _⟩, ⟨by repeat (first | (with_reducible first | exact HB.out | apply below_alloc | apply pw_below_drewN | apply below_drew1) | exact HB.out)⟩⟩
                · rw [if_neg c8] at H
                  have c8b0 : ((bt a0 x5_1) == 42) = false := beq_eq_false_iff_ne.mpr c8
                  have c8b1 : ((bt a0 x5_1) != 42) = true := bne_iff_ne.mpr c8
                  by_cases c9 : (bt a0 x5_1) = 63
                  · rw [if_pos c9] at H
                    have c9b0 : ((bt a0 x5_1) == 63) = true := beq_iff_eq.mpr c9
                    have c9b1 : ((bt a0 x5_1) != 63) = false := bne_eq_false_iff_eq.mpr c9
                    clear c9
                    have H' := Aside0.mk H
                    clear H
                    have p5 : 0 ≤ (x5_1 : Int) := of_decide_eq_true (by first | (with_reducible assumption) | assumption)
                    have q5 : x5_1 < (a0.size : Int) := of_decide_eq_true (by first | (with_reducible assumption) | assumption)
                    have hx5 := bt_at a0 x5_1
                    replace p5 := eq_true p5
                    replace q5 := eq_true q5
                    go_wp2
                    go_meet
                    case rel => exact ⟨_, (x4_1), (by first | rfl | (simp; done) | (simp [*]; done)), H', ⟨by have := HK1.out; first | omega | exact Nat.le_refl _⟩, ⟨by repeat (first | (with_reducible first | exact HB.out | apply below_alloc | apply pw_below_drewN | apply below_drew1) | exact HB.out)⟩⟩
                  · rw [if_neg c9] at H
                    have c9b0 : ((bt a0 x5_1) == 63) = false := beq_eq_false_iff_ne.mpr c9
                    have c9b1 : ((bt a0 x5_1) != 63) = true := bne_iff_ne.mpr c9
                    by_cases c10 : (bt a0 x5_1) = 91
                    · rw [if_pos c10] at H
                      have c10b0 : ((bt a0 x5_1) == 91) = true := beq_iff_eq.mpr c10
                      have c10b1 : ((bt a0 x5_1) != 91) = false := bne_eq_false_iff_eq.mpr c10
                      clear c10
                      have H' := Aside0.mk H
                      clear H
                      have p5 : 0 ≤ (x5_1 : Int) := of_decide_eq_true (by first | (with_reducible assumption) | assumption)
                      have q5 : x5_1 < (a0.size : Int) := of_decide_eq_true (by first | (with_reducible assumption) | assumption)
                      have hx5 := bt_at a0 x5_1
                      replace p5 := eq_true p5
                      replace q5 := eq_true q5
                      go_wp2
                      go_meet
                      case rel => exact ⟨_, (x4_1), (by first | rfl | (simp; done) | (simp [*]; done)), H', ⟨by have := HK1.out; first | omega | exact Nat.le_refl _⟩, ⟨by repeat (first | (with_reducible first | exact HB.out | apply below_alloc | apply pw_below_drewN | apply below_drew1) | exact HB.out)⟩⟩
                    · rw [if_neg c10] at H
                      have c10b0 : ((bt a0 x5_1) == 91) = false := beq_eq_false_iff_ne.mpr c10
                      have c10b1 : ((bt a0 x5_1) != 91) = true := bne_iff_ne.mpr c10
                      by_cases c11 : (bt a0 x5_1) = 123
                      · rw [if_pos c11] at H
                        have c11b0 : ((bt a0 x5_1) == 123) = true := beq_iff_eq.mpr c11
                        have c11b1 : ((bt a0 x5_1) != 123) = false := bne_eq_false_iff_eq.mpr c11
                        clear c11
                        have H' := Aside0.mk H
                        clear H
                        have p5 : 0 ≤ (x5_1 : Int) := of_decide_eq_true (by first | (with_reducible assumption) | assumption)
                        have q5 : x5_1 < (a0.size : Int) := of_decide_eq_true (by first | (with_reducible assumption) | assumption)
                        have hx5 := bt_at a0 x5_1
                        replace p5 := eq_true p5
                        replace q5 := eq_true q5
                        go_wp2
                        go_meet
                        case rel => exact ⟨_, (x4_1), (by first | rfl | (simp; done) | (simp [*]; done)), H', ⟨by have := HK1.out; first | omega | exact Nat.le_refl _⟩, ⟨by repeat (first | (with_reducible first | exact HB.out | apply below_alloc | apply pw_below_drewN | apply below_drew1) | exact HB.out)⟩⟩
                      · rw [if_neg c11] at H
                        have c11b0 : ((bt a0 x5_1) == 123) = false := beq_eq_false_iff_ne.mpr c11
                        have c11b1 : ((bt a0 x5_1) != 123) = true := bne_iff_ne.mpr c11
                        have H' := Aside0.mk H
                        clear H
                        have p5 : 0 ≤ (x5_1 : Int) := of_decide_eq_true (by first | (with_reducible assumption) | assumption)
                        have q5 : x5_1 < (a0.size : Int) := of_decide_eq_true (by first | (with_reducible assumption) | assumption)
                        have hx5 := bt_at a0 x5_1
                        replace p5 := eq_true p5
                        replace q5 := eq_true q5
                        go_wp2
                        go_roundg k1
                        case measure => have := HK1.out; omega
                        case rel => exact ⟨(x4_1), (wrap64 (x5_1 + 1)), (by first | rfl | (simp; done) | (simp [*]; done)), (by first | rfl | (simp; done) | (simp [*]; done)), H', ⟨by have := HK1.out; omega⟩, ⟨by repeat (first | (with_reducible first | exact HB.out | apply below_alloc | apply pw_below_drewN | apply below_drew1) | exact HB.out)⟩⟩
          · rw [if_neg c4] at H
            exact absurd H (by simp)
        · rw [if_neg c3] at H
          have c3b0 : decide (x5_1 < (a0.size : Int)) = false := decide_eq_false c3
          clear c3
          (first | rw [c3b0] | (simp only [i64_w, i32_w]; rw [c3b0]) | skip)
          have H' := Aside0.mk H
          clear H
          go_wp2
          go_meet
          case rel => exact ⟨_, (x4_1), (by first | rfl | (simp; done) | (simp [*]; done)), H', ⟨by have := HK1.out; first | omega | exact Nat.le_refl _⟩, ⟨by repeat (first | (with_reducible first | exact HB.out | apply below_alloc | apply pw_below_drewN | apply below_drew1) | exact HB.out)⟩⟩
  case rest =>
    clear HC2
    try clear c1
    try clear p2
    try clear c3
    try clear c3b0
    try clear c4
    try clear c4b0
    try clear p5
    try clear q5
    try clear hx5
    try clear c6
    try clear c6b0
    try clear c6b1
    try clear p6
    try clear c7
    try clear c7b0
    try clear c7b1
    try clear c8
    try clear c8b0
    try clear c8b1
    try clear c9
    try clear c9b0
    try clear c9b1
    try clear c10
    try clear c10b0
    try clear c10b1
    try clear c11
    try clear c11b0
    try clear c11b1
    try clear p2
    try clear p5
    try clear q5
    obtain ⟨kq, x4_1, rfl, HA, HJ1, HB⟩ := hcut
    cases kq with
    | zero => exact absurd HA.out (by simp [doublestar_SplitPattern.j1])
    | succ kj1 =>
      have H := HA.out
      clear HA
      simp only [doublestar_SplitPattern.j1] at H
      by_cases c12 : x4_1 = 0
      · rw [if_pos c12] at H
        have c12b0 : (x4_1 == 0) = true := beq_iff_eq.mpr c12
        have c12b1 : (x4_1 != 0) = false := bne_eq_false_iff_eq.mpr c12
        clear c12
        by_cases c13 : 1 ≤ (a0.size : Int)
        · rw [if_pos c13] at H
          have c13b0 := eq_true c13
          have c13b1 : decide (1 ≤ (a0.size : Int)) = true := decide_eq_true c13
          clear c13
          simp only [Option.some.injEq, Prod.mk.injEq] at H
          obtain ⟨rfl, rfl⟩ := H
          try go_wp2
          have n0_ := Aside0.mk (below_drew1 HB.out)
          clear HB
          have HB := n0_
          clear n0_
          refine start_ (n := 4) (S := fun w' => True) (ds := []) #[false, false, false, false] (by kernel_rfl) rfl rfl trivial (fun hHeld => ?_)
          generalize wc.drew = w14 at HB hHeld ⊢
          refine pure_ (i := 0) (N := some 40) (v := ?_) (a' := ?_) #[true, false, false, false] rfl rfl (by kernel_rfl) (fun _ _ _ h => h) (Or.inl ⟨by rfl, ?_⟩) ?_ ?_
          rotate_left
          · intro w'
            go_simp
            with_reducible rfl
          rotate_left
          · simp only [Act.put, List.setIfInBounds_toArray, List.set_cons_zero, List.set_cons_succ, i64_w, i32_w]
            rfl
          refine pure_ (i := 1) (N := some 41) (v := ?_) (a' := ?_) #[true, true, false, false] rfl rfl (by kernel_rfl) (fun _ _ _ h => h) (Or.inl ⟨by rfl, ?_⟩) ?_ ?_
          rotate_left
          · intro w'
            go_simp
            with_reducible rfl
          rotate_left
          · simp only [Act.put, List.setIfInBounds_toArray, List.set_cons_zero, List.set_cons_succ, i64_w, i32_w]
            rfl
          refine pure_ (i := 2) (N := some 2) (v := ?_) (a' := ?_) #[true, true, true, false] rfl rfl (by kernel_rfl) (fun _ _ _ h => h) (Or.inl ⟨by rfl, ?_⟩) ?_ ?_
          rotate_left
          · intro w'
            go_simp
            with_reducible rfl
          rotate_left
          · simp only [Act.put, List.setIfInBounds_toArray, List.set_cons_zero, List.set_cons_succ, i64_w, i32_w]
            rfl
          refine pure_ (i := 3) (N := some 3) (v := ?_) (a' := ?_) #[true, true, true, true] rfl rfl (by kernel_rfl) (fun _ _ _ h => h) (Or.inl ⟨by rfl, ?_⟩) ?_ ?_
          rotate_left
          · intro w'
            go_simp
            with_reducible rfl
          rotate_left
          · simp only [Act.put, List.setIfInBounds_toArray, List.set_cons_zero, List.set_cons_succ, i64_w, i32_w]
            rfl
          refine done_ (by kernel_rfl) ?_
          try go_wp2
          go_ret2
          exact ⟨by first | rfl | (simp [errW_none, errW_some] <;> rfl) | (simp [*, errW_none, errW_some] <;> rfl), by repeat (first | (with_reducible first | exact HB.out | apply below_alloc | apply pw_below_drewN | apply below_drew1) | exact HB.out)⟩
        · rw [if_neg c13] at H
          exact absurd H (by simp)
      · rw [if_neg c12] at H
        have c12b0 : (x4_1 == 0) = false := beq_eq_false_iff_ne.mpr c12
        have c12b1 : (x4_1 != 0) = true := bne_iff_ne.mpr c12
        by_cases c15 : x4_1 > 0
        · rw [if_pos c15] at H
          have c15b0 : decide (0 < x4_1) = true := decide_eq_true c15
          clear c15
          by_cases c16 : 0 ≤ x4_1
          · rw [if_pos c16] at H
            have c16b0 := eq_true c16
            have c16b1 : decide (0 ≤ x4_1) = true := decide_eq_true c16
            clear c16
            by_cases c17 : x4_1 ≤ (a0.size : Int)
            · rw [if_pos c17] at H
              have c17b0 := eq_true c17
              have c17b1 : decide (x4_1 ≤ (a0.size : Int)) = true := decide_eq_true c17
              clear c17
              replace H := Option.bind_eq_some_iff.mp H
              obtain ⟨t128, A180, H⟩ := H
              replace H : (if 0 ≤ (wrap64 (x4_1 + 1)) then (if (wrap64 (x4_1 + 1)) ≤ (a0.size : Int) then (some (t128, a0.extract ((wrap64 (x4_1 + 1)) : Int).toNat a0.size)) else (none)) else (none)) = some (r1, r2) := H
              have A18 := Aside0.mk A180
              clear A180
              obtain ⟨ji19, hji19⟩ : ∃ j_ : Int, (wrap64 (x4_1 + 1)) = j_ := ⟨_, rfl⟩
              replace H : (if 0 ≤ (ji19) then (if (ji19) ≤ (a0.size : Int) then (some (t128, a0.extract ((ji19) : Int).toNat a0.size)) else (none)) else (none)) = some (r1, r2) := by first | (rw [hji19] at H; exact H) | (simp only [hji19] at H ⊢; exact H)
              (try rw [hji19] at A18)
              have hji19w : (IntKind.i64.wrap (x4_1 + 1)) = ji19 := (i64_w _).trans hji19
              by_cases c20 : 0 ≤ (ji19)
              · rw [if_pos c20] at H
                have c20b0 := eq_true c20
                have c20b1 : decide (0 ≤ (ji19)) = true := decide_eq_true c20
                clear c20
                by_cases c21 : (ji19) ≤ (a0.size : Int)
                · rw [if_pos c21] at H
                  have c21b0 := eq_true c21
                  have c21b1 : decide ((ji19) ≤ (a0.size : Int)) = true := decide_eq_true c21
                  clear c21
                  simp only [Option.some.injEq, Prod.mk.injEq] at H
                  obtain ⟨rfl, rfl⟩ := H
                  try go_wp2
                  have n0_ := Aside0.mk (below_drew1 HB.out)
                  clear HB
                  have HB := n0_
                  clear n0_
                  refine start_ (n := 10) (S := fun w' => True) (ds := []) #[false, false, false, false, false, false, false, false, false, false] (by kernel_rfl) rfl rfl trivial (fun hHeld => ?_); refine with_tabW doublestar_SplitPattern.tab16 doublestar_SplitPattern.bits16 (fun HT_ HW_ => ?_)
                  generalize wc.drew = w22 at HB hHeld ⊢
                  refine pure_ (i := 0) (N := some 44) (v := ?_) (a' := ?_) #[true, false, false, false, false, false, false, false, false, false] rfl rfl (any_of HT_.out (by kernel_rfl)) (fun _ _ _ h => h) (Or.inl ⟨by rfl, ?_⟩) ?_ ?_
                  rotate_left
                  · intro w'
                    go_simp
                    with_reducible rfl
                  rotate_left
                  · simp only [Act.put, List.setIfInBounds_toArray, List.set_cons_zero, List.set_cons_succ, i64_w, i32_w]
                    rfl
                  refine pure_ (i := 1) (N := some 45) (v := ?_) (a' := ?_) #[true, true, false, false, false, false, false, false, false, false] rfl rfl (any_of HT_.out (by kernel_rfl)) (fun _ _ _ h => h) (Or.inl ⟨by rfl, ?_⟩) ?_ ?_
                  rotate_left
                  · intro w'
                    go_simp
                    with_reducible rfl
                  rotate_left
                  · simp only [Act.put, List.setIfInBounds_toArray, List.set_cons_zero, List.set_cons_succ, i64_w, i32_w]
                    rfl
                  refine pure_ (i := 2) (N := some 46) (v := ?_) (a' := ?_) #[true, true, true, false, false, false, false, false, false, false] rfl rfl (any_of HT_.out (by kernel_rfl)) (fun _ _ _ h => h) (Or.inl ⟨by rfl, ?_⟩) ?_ ?_
                  rotate_left
                  · intro w'
                    go_simp
                    with_reducible rfl
                  rotate_left
                  · simp only [Act.put, List.setIfInBounds_toArray, List.set_cons_zero, List.set_cons_succ, i64_w, i32_w]
                    rfl
                  refine pure_ (i := 4) (N := some 48) (v := ?_) (a' := ?_) #[true, true, true, false, true, false, false, false, false, false] rfl rfl (any_of HT_.out (by kernel_rfl)) (fun _ _ _ h => h) (Or.inl ⟨by rfl, ?_⟩) ?_ ?_
                  rotate_left
                  · intro w'
                    go_simp
                    with_reducible rfl
                  rotate_left
                  · simp only [Act.put, List.setIfInBounds_toArray, List.set_cons_zero, List.set_cons_succ, i64_w, i32_w]
                    rfl
                  refine pure_ (i := 5) (N := some 49) (v := ?_) (a' := ?_) #[true, true, true, false, true, true, false, false, false, false] rfl rfl (any_of HT_.out (by kernel_rfl)) (fun _ _ _ h => h) (Or.inl ⟨by rfl, ?_⟩) ?_ ?_
                  rotate_left
                  · intro w'
                    go_simp
                    with_reducible rfl
                  rotate_left
                  · simp only [Act.put, List.setIfInBounds_toArray, List.set_cons_zero, List.set_cons_succ, i64_w, i32_w]
                    rfl
                  refine pure_ (i := 6) (N := some 50) (v := ?_) (a' := ?_) #[true, true, true, false, true, true, true, false, false, false] rfl rfl (any_of HT_.out (by kernel_rfl)) (fun _ _ _ h => h) (Or.inl ⟨by rfl, ?_⟩) ?_ ?_
                  rotate_left
                  · intro w'
                    go_simp
                    with_reducible rfl
                  rotate_left
                  · simp only [Act.put, List.setIfInBounds_toArray, List.set_cons_zero, List.set_cons_succ, i64_w, i32_w]
                    rfl
                  refine pure_ (i := 7) (N := some 51) (v := ?_) (a' := ?_) #[true, true, true, false, true, true, true, true, false, false] rfl rfl (any_of HT_.out (by kernel_rfl)) (fun _ _ _ h => h) (Or.inl ⟨by rfl, ?_⟩) ?_ ?_
                  rotate_left
                  · intro w'
                    go_simp
                    with_reducible rfl
                  rotate_left
                  · simp only [Act.put, List.setIfInBounds_toArray, List.set_cons_zero, List.set_cons_succ, i64_w, i32_w]
                    rfl
                  refine one_ (i := 3) (N := some 47) #[true, true, true, true, true, true, true, true, false, false] rfl rfl (one_of HT_.out (by kernel_rfl)) (by decide) (fun K hK => ?_)
                  refine goes_ Try.func22 (by kernel_rfl) rfl #[.string (a0.extract 0 (x4_1 : Int).toNat)] (by rfl) rfl rfl (by (try simp only [List.map_toArray, List.map_cons, List.map_nil]); first | done | rfl | (simp only [List.length_drop, List.length_take]; rfl)) ?_
                  with_reducible refine (doublestar_unescapeMeta.calls kj1 (a0.extract 0 (x4_1 : Int).toNat) t128 _ A18.out).mono ?_
                  rintro e w23 ⟨rfl, hb⟩
                  refine ⟨_, rfl, ?_⟩
                  have n0_ := Aside0.mk (below_step (by repeat (first | (with_reducible first | exact HB.out | apply below_alloc | apply pw_below_drewN | apply below_drew1) | exact HB.out)) hb)
                  clear HB
                  have HB := n0_
                  clear n0_
                  (try clear hb)
                  (try clear hb2)
                  (try clear hk)
                  (try clear hi)
                  refine hK.out _ _ trivial (fun hHeld => ?_)
                  clear hK K
                  refine norm_ (a' := ?_) ?_ ?_
                  rotate_left
                  · show Act.put _ (some 47) _ = _
                    simp only [Act.put, List.setIfInBounds_toArray, List.set_cons_zero, List.set_cons_succ, i64_w, i32_w]
                    rfl
                  refine pure_ (i := 8) (N := some 2) (v := ?_) (a' := ?_) #[true, true, true, true, true, true, true, true, true, false] rfl rfl (any_of HT_.out (by kernel_rfl)) (fun _ _ _ h => h) (Or.inl ⟨by rfl, ?_⟩) ?_ ?_
                  rotate_left
                  · intro w'
                    go_simp
                    with_reducible rfl
                  rotate_left
                  · simp only [Act.put, List.setIfInBounds_toArray, List.set_cons_zero, List.set_cons_succ, i64_w, i32_w]
                    rfl
                  refine pure_ (i := 9) (N := some 3) (v := ?_) (a' := ?_) #[true, true, true, true, true, true, true, true, true, true] rfl rfl (any_of HT_.out (by kernel_rfl)) (fun _ _ _ h => h) (Or.inl ⟨by rfl, ?_⟩) ?_ ?_
                  rotate_left
                  · intro w'
                    go_simp
                    with_reducible rfl
                  rotate_left
                  · simp only [Act.put, List.setIfInBounds_toArray, List.set_cons_zero, List.set_cons_succ, i64_w, i32_w]
                    rfl
                  refine done_ (done_of HT_.out (by kernel_rfl)) ?_
                  try go_wp2
                  go_ret2
                  exact ⟨by first | rfl | (simp [errW_none, errW_some] <;> rfl) | (simp only [← hji19]; first | rfl | (simp [errW_none, errW_some] <;> rfl)) | (simp [*, errW_none, errW_some] <;> rfl), by repeat (first | (with_reducible first | exact HB.out | apply below_alloc | apply pw_below_drewN | apply below_drew1) | exact HB.out)⟩
                · rw [if_neg c21] at H
                  exact absurd H (by simp)
              · rw [if_neg c20] at H
                exact absurd H (by simp)
            · rw [if_neg c17] at H
              exact absurd H (by simp)
          · rw [if_neg c16] at H
            exact absurd H (by simp)
        · rw [if_neg c15] at H
          have c15b0 : decide (0 < x4_1) = false := decide_eq_false c15
          clear c15
          simp only [Option.some.injEq, Prod.mk.injEq] at H
          obtain ⟨rfl, rfl⟩ := H
          go_wp2
          go_ret2
          exact ⟨by first | rfl | (simp [errW_none, errW_some] <;> rfl) | (simp [*, errW_none, errW_some] <;> rfl), by repeat (first | (with_reducible first | exact HB.out | apply below_alloc | apply pw_below_drewN | apply below_drew1) | exact HB.out)⟩

/-! ### impl_GlobSplit: function 10 -/
def impl_GlobSplit.f (k : Nat) (a0 : ByteArray) : Option (ByteArray × ByteArray) := (doublestar_SplitPattern.f k a0).bind fun bt129 => (some (bt129.1, bt129.2))
theorem impl_GlobSplit.mono : ∀ a0 k, LeO (impl_GlobSplit.f k a0) (impl_GlobSplit.f (k + 1) a0) := by
  intro a0 k
  unfold impl_GlobSplit.f
  repeat' first
      | (with_reducible exact doublestar_SplitPattern.mono _ _)
      | (with_reducible exact LeO.refl _)
      | (with_reducible exact LeO.none _)
      | (with_reducible refine LeO.ite ?_ ?_)
      | (with_reducible refine LeO.bind ?_ (fun _ => ?_))
      | exact doublestar_SplitPattern.mono _ _
      | exact LeO.none _
      | refine LeO.ite ?_ ?_
      | refine LeO.bind ?_ (fun _ => ?_)
set_option maxHeartbeats 8000000 in
set_option maxRecDepth 100000 in
theorem impl_GlobSplit.calls (k : Nat) (a0 : ByteArray) (r1 : ByteArray) (r2 : ByteArray) (w : World) (h : impl_GlobSplit.f k a0 = some (r1, r2)) :
    Calls Try.prog 10 #[.string a0] w fun e w' => e = .returned (.tuple #[.string r1, .string r2]) ∧ Below w.heap.size w w' := by
  have HB := Aside0.mk (Below.refl w.heap.size w)
  have H : ((doublestar_SplitPattern.f k a0).bind fun bt129 => (some (bt129.1, bt129.2))) = some (r1, r2) := h
  clear h
  replace H := Option.bind_eq_some_iff.mp H
  obtain ⟨⟨t129, t130⟩, A20, H⟩ := H
  replace H : (some (t129, t130)) = some (r1, r2) := H
  have A2 := Aside0.mk A20
  clear A20
  simp only [Option.some.injEq, Prod.mk.injEq] at H
  obtain ⟨rfl, rfl⟩ := H
  go_enter Try.func10, Try.ntmps10
  go_wp2_with (first | ((with_reducible refine gate_callee (f := 16) rfl ?_); refine goesL_ (some 5) rfl rfl Try.func16 (by kernel_rfl) rfl #[.string a0] rfl (by (try simp only [List.map_toArray, List.map_cons, List.map_nil]); first | done | rfl | (simp only [List.length_drop, List.length_take]; rfl)) ?_; (with_reducible refine (doublestar_SplitPattern.calls k a0 t129 t130 _ A2.out).mono ?_); rintro e w3 ⟨rfl, hb⟩; refine ⟨_, rfl, ?_⟩; have n0_ := Aside0.mk (below_step (by repeat (first | (with_reducible first | exact HB.out | apply below_alloc | apply pw_below_drewN | apply below_drew1) | exact HB.out)) hb); clear HB; have HB := n0_; clear n0_; (try clear hb); (try clear hb2); (try clear hk); (try clear hi)))
  go_ret2
  exact ⟨by first | rfl | (simp [errW_none, errW_some] <;> rfl) | (simp [*, errW_none, errW_some] <;> rfl), by repeat (first | (with_reducible first | exact HB.out | apply below_alloc | apply pw_below_drewN | apply below_drew1) | exact HB.out)⟩

-- NOT PRINTED: function 11 (spec_GlobQuote)

-- NOT PRINTED: function 3 (laws_FnGlobSplit)

end Go.Proofs.Ythkbkiigpflonaa.PFnGlobSplit
