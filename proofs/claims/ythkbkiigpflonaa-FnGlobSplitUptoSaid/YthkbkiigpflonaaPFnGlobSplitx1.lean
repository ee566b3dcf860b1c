-- PRINTED BY print.sh 35421559b90ae4d0a3588c463048766b98c2df88dd9212a6774a882060cdf62d: not written by this session
import Derived.Test.YthkbkiigpflonaaPFnGlobSplitx0
namespace Go.Proofs.Ythkbkiigpflonaa.PFnGlobSplit
open Go.RowKit Go.Proofs.YthkbkiigpflonaaW.PrintWords Go.Proofs.YthkbkiigpflonaaW.PrintLast Go.Proofs.YthkbkiigpflonaaW.PrintMore
attribute [local go_sem] max2_int min2_int max_two min_two max_three min_three max_four min_four   -- for this text's walks alone
set_option linter.unusedVariables false
set_option linter.unusedSimpArgs false

-- NOT PRINTED: function 4 (laws_zzFits2)

/-! ### spec_globLetter: function 12 -/
def spec_globLetter.f (a0 : Int) : Option (Bool) := if a0 > 0 then (if a0 ≤ 1114111 then (if a0 < 55296 then (if a0 = 65533 then (some false) else (some (a0 != 47))) else (if a0 > 57343 then (if a0 = 65533 then (some false) else (some (a0 != 47))) else (some false))) else (some false)) else (some false)
set_option maxHeartbeats 8000000 in
set_option maxRecDepth 100000 in
theorem spec_globLetter.calls (a0 : Int) (r : Bool) (w : World) (h : spec_globLetter.f a0 = some r) :
    Calls Try.prog 12 #[.int .i32 a0] w fun e w' => e = .returned (.bool r) ∧ Drawn0 w w' := by
  have H : (if a0 > 0 then (if a0 ≤ 1114111 then (if a0 < 55296 then (if a0 = 65533 then (some false) else (some (a0 != 47))) else (if a0 > 57343 then (if a0 = 65533 then (some false) else (some (a0 != 47))) else (some false))) else (some false)) else (some false)) = some r := h
  clear h
  by_cases c2 : a0 > 0
  · rw [if_pos c2] at H
    have c2b0 : decide (0 < a0) = true := decide_eq_true c2
    clear c2
    by_cases c3 : a0 ≤ 1114111
    · rw [if_pos c3] at H
      have c3b0 : decide (a0 ≤ 1114111) = true := decide_eq_true c3
      clear c3
      by_cases c4 : a0 < 55296
      · rw [if_pos c4] at H
        have c4b0 : decide (a0 < 55296) = true := decide_eq_true c4
        clear c4
        by_cases c5 : a0 = 65533
        · rw [if_pos c5] at H
          have c5b0 : (a0 == 65533) = true := beq_iff_eq.mpr c5
          have c5b1 : (a0 != 65533) = false := bne_eq_false_iff_eq.mpr c5
          clear c5
          obtain rfl := Option.some.inj H
          go_enter Try.func12, Try.ntmps12
          go_wp2
          go_ret
          exact ⟨by first | rfl | (simp; done) | (simp [*]; done), by repeat (first | exact Drawn0.refl _ | apply Drawn0.step)⟩
        · rw [if_neg c5] at H
          have c5b0 : (a0 == 65533) = false := beq_eq_false_iff_ne.mpr c5
          have c5b1 : (a0 != 65533) = true := bne_iff_ne.mpr c5
          obtain rfl := Option.some.inj H
          go_enter Try.func12, Try.ntmps12
          go_wp2
          go_ret
          exact ⟨by first | rfl | (simp; done) | (simp [*]; done), by repeat (first | exact Drawn0.refl _ | apply Drawn0.step)⟩
      · rw [if_neg c4] at H
        have c4b0 : decide (a0 < 55296) = false := decide_eq_false c4
        clear c4
        by_cases c6 : a0 > 57343
        · rw [if_pos c6] at H
          have c6b0 : decide (57343 < a0) = true := decide_eq_true c6
          clear c6
          by_cases c7 : a0 = 65533
          · rw [if_pos c7] at H
            have c7b0 : (a0 == 65533) = true := beq_iff_eq.mpr c7
            have c7b1 : (a0 != 65533) = false := bne_eq_false_iff_eq.mpr c7
            clear c7
            obtain rfl := Option.some.inj H
            go_enter Try.func12, Try.ntmps12
            go_wp2
            go_ret
            exact ⟨by first | rfl | (simp; done) | (simp [*]; done), by repeat (first | exact Drawn0.refl _ | apply Drawn0.step)⟩
          · rw [if_neg c7] at H
            have c7b0 : (a0 == 65533) = false := beq_eq_false_iff_ne.mpr c7
            have c7b1 : (a0 != 65533) = true := bne_iff_ne.mpr c7
            obtain rfl := Option.some.inj H
            go_enter Try.func12, Try.ntmps12
            go_wp2
            go_ret
            exact ⟨by first | rfl | (simp; done) | (simp [*]; done), by repeat (first | exact Drawn0.refl _ | apply Drawn0.step)⟩
        · rw [if_neg c6] at H
          have c6b0 : decide (57343 < a0) = false := decide_eq_false c6
          clear c6
          obtain rfl := Option.some.inj H
          go_enter Try.func12, Try.ntmps12
          go_wp2
          go_ret
          exact ⟨by first | rfl | (simp; done) | (simp [*]; done), by repeat (first | exact Drawn0.refl _ | apply Drawn0.step)⟩
    · rw [if_neg c3] at H
      have c3b0 : decide (a0 ≤ 1114111) = false := decide_eq_false c3
      clear c3
      obtain rfl := Option.some.inj H
      go_enter Try.func12, Try.ntmps12
      go_wp2
      go_ret
      exact ⟨by first | rfl | (simp; done) | (simp [*]; done), by repeat (first | exact Drawn0.refl _ | apply Drawn0.step)⟩
  · rw [if_neg c2] at H
    have c2b0 : decide (0 < a0) = false := decide_eq_false c2
    clear c2
    obtain rfl := Option.some.inj H
    go_enter Try.func12, Try.ntmps12
    go_wp2
    go_ret
    exact ⟨by first | rfl | (simp; done) | (simp [*]; done), by repeat (first | exact Drawn0.refl _ | apply Drawn0.step)⟩

-- NOT PRINTED: function 5 (spec_GlobName)

-- NOT PRINTED: function 18 (spec_globEnd)

-- NOT PRINTED: function 13 (spec_globEnds)

-- NOT PRINTED: function 19 (spec_globVanish)

-- NOT PRINTED: function 14 (spec_GlobVanish)

-- NOT PRINTED: function 6 (spec_GlobRight)

-- NOT PRINTED: function 7 (laws_globFirst)

-- NOT PRINTED: function 8 (laws_globBase)

/-! ### spec_globSpecial: function 17 -/
def spec_globSpecial.f (a0 : Int) : Option (Bool) := if a0 = 42 then (some true) else (if a0 = 63 then (some true) else (if a0 = 91 then (some true) else (if a0 = 93 then (some true) else (if a0 = 123 then (some true) else (if a0 = 125 then (some true) else (if a0 = 44 then (some true) else (if a0 = 92 then (some true) else (some false))))))))
set_option maxHeartbeats 8000000 in
set_option maxRecDepth 100000 in
theorem spec_globSpecial.calls (a0 : Int) (r : Bool) (w : World) (h : spec_globSpecial.f a0 = some r) :
    Calls Try.prog 17 #[.int .i32 a0] w fun e w' => e = .returned (.bool r) ∧ Drawn0 w w' := by
  have H : (if a0 = 42 then (some true) else (if a0 = 63 then (some true) else (if a0 = 91 then (some true) else (if a0 = 93 then (some true) else (if a0 = 123 then (some true) else (if a0 = 125 then (some true) else (if a0 = 44 then (some true) else (if a0 = 92 then (some true) else (some false))))))))) = some r := h
  clear h
  by_cases c2 : a0 = 42
  · rw [if_pos c2] at H
    have c2b0 : (a0 == 42) = true := beq_iff_eq.mpr c2
    have c2b1 : (a0 != 42) = false := bne_eq_false_iff_eq.mpr c2
    clear c2
    obtain rfl := Option.some.inj H
    go_enter Try.func17, Try.ntmps17
    go_wp2
    go_ret
    exact ⟨by first | rfl | (simp; done) | (simp [*]; done), by repeat (first | exact Drawn0.refl _ | apply Drawn0.step)⟩
  · rw [if_neg c2] at H
    have c2b0 : (a0 == 42) = false := beq_eq_false_iff_ne.mpr c2
    have c2b1 : (a0 != 42) = true := bne_iff_ne.mpr c2
    by_cases c3 : a0 = 63
    · rw [if_pos c3] at H
      have c3b0 : (a0 == 63) = true := beq_iff_eq.mpr c3
      have c3b1 : (a0 != 63) = false := bne_eq_false_iff_eq.mpr c3
      clear c3
      obtain rfl := Option.some.inj H
      go_enter Try.func17, Try.ntmps17
      go_wp2
      go_ret
      exact ⟨by first | rfl | (simp; done) | (simp [*]; done), by repeat (first | exact Drawn0.refl _ | apply Drawn0.step)⟩
    · rw [if_neg c3] at H
      have c3b0 : (a0 == 63) = false := beq_eq_false_iff_ne.mpr c3
      have c3b1 : (a0 != 63) = true := bne_iff_ne.mpr c3
      by_cases c4 : a0 = 91
      · rw [if_pos c4] at H
        have c4b0 : (a0 == 91) = true := beq_iff_eq.mpr c4
        have c4b1 : (a0 != 91) = false := bne_eq_false_iff_eq.mpr c4
        clear c4
        obtain rfl := Option.some.inj H
        go_enter Try.func17, Try.ntmps17
        go_wp2
        go_ret
        exact ⟨by first | rfl | (simp; done) | (simp [*]; done), by repeat (first | exact Drawn0.refl _ | apply Drawn0.step)⟩
      · rw [if_neg c4] at H
        have c4b0 : (a0 == 91) = false := beq_eq_false_iff_ne.mpr c4
        have c4b1 : (a0 != 91) = true := bne_iff_ne.mpr c4
        by_cases c5 : a0 = 93
        · rw [if_pos c5] at H
          have c5b0 : (a0 == 93) = true := beq_iff_eq.mpr c5
          have c5b1 : (a0 != 93) = false := bne_eq_false_iff_eq.mpr c5
          clear c5
          obtain rfl := Option.some.inj H
          go_enter Try.func17, Try.ntmps17
          go_wp2
          go_ret
          exact ⟨by first | rfl | (simp; done) | (simp [*]; done), by repeat (first | exact Drawn0.refl _ | apply Drawn0.step)⟩
        · rw [if_neg c5] at H
          have c5b0 : (a0 == 93) = false := beq_eq_false_iff_ne.mpr c5
          have c5b1 : (a0 != 93) = true := bne_iff_ne.mpr c5
          by_cases c6 : a0 = 123
          · rw [if_pos c6] at H
            have c6b0 : (a0 == 123) = true := beq_iff_eq.mpr c6
            have c6b1 : (a0 != 123) = false := bne_eq_false_iff_eq.mpr c6
            clear c6
            obtain rfl := Option.some.inj H
            go_enter Try.func17, Try.ntmps17
            go_wp2
            go_ret
            exact ⟨by first | rfl | (simp; done) | (simp [*]; done), by repeat (first | exact Drawn0.refl _ | apply Drawn0.step)⟩
          · rw [if_neg c6] at H
            have c6b0 : (a0 == 123) = false := beq_eq_false_iff_ne.mpr c6
            have c6b1 : (a0 != 123) = true := bne_iff_ne.mpr c6
            by_cases c7 : a0 = 125
            · rw [if_pos c7] at H
              have c7b0 : (a0 == 125) = true := beq_iff_eq.mpr c7
              have c7b1 : (a0 != 125) = false := bne_eq_false_iff_eq.mpr c7
              clear c7
              obtain rfl := Option.some.inj H
              go_enter Try.func17, Try.ntmps17
              go_wp2
              go_ret
              exact ⟨by first | rfl | (simp; done) | (simp [*]; done), by repeat (first | exact Drawn0.refl _ | apply Drawn0.step)⟩
            · rw [if_neg c7] at H
              have c7b0 : (a0 == 125) = false := beq_eq_false_iff_ne.mpr c7
              have c7b1 : (a0 != 125) = true := bne_iff_ne.mpr c7
              by_cases c8 : a0 = 44
              · rw [if_pos c8] at H
                have c8b0 : (a0 == 44) = true := beq_iff_eq.mpr c8
                have c8b1 : (a0 != 44) = false := bne_eq_false_iff_eq.mpr c8
                clear c8
                obtain rfl := Option.some.inj H
                go_enter Try.func17, Try.ntmps17
                go_wp2
                go_ret
                exact ⟨by first | rfl | (simp; done) | (simp [*]; done), by repeat (first | exact Drawn0.refl _ | apply Drawn0.step)⟩
              · rw [if_neg c8] at H
                have c8b0 : (a0 == 44) = false := beq_eq_false_iff_ne.mpr c8
                have c8b1 : (a0 != 44) = true := bne_iff_ne.mpr c8
                by_cases c9 : a0 = 92
                · rw [if_pos c9] at H
                  have c9b0 : (a0 == 92) = true := beq_iff_eq.mpr c9
                  have c9b1 : (a0 != 92) = false := bne_eq_false_iff_eq.mpr c9
                  clear c9
                  obtain rfl := Option.some.inj H
                  go_enter Try.func17, Try.ntmps17
                  go_wp2
                  go_ret
                  exact ⟨by first | rfl | (simp; done) | (simp [*]; done), by repeat (first | exact Drawn0.refl _ | apply Drawn0.step)⟩
                · rw [if_neg c9] at H
                  have c9b0 : (a0 == 92) = false := beq_eq_false_iff_ne.mpr c9
                  have c9b1 : (a0 != 92) = true := bne_iff_ne.mpr c9
                  obtain rfl := Option.some.inj H
                  go_enter Try.func17, Try.ntmps17
                  go_wp2
                  go_ret
                  exact ⟨by first | rfl | (simp; done) | (simp [*]; done), by repeat (first | exact Drawn0.refl _ | apply Drawn0.step)⟩

-- NOT PRINTED: function 24 (spec_globInClass)

-- NOT PRINTED: function 23 (spec_globClass)

-- NOT PRINTED: function 21 (spec_GlobTerms)

-- NOT PRINTED: function 20 (spec_globTop)

-- NOT PRINTED: function 15 (spec_globAs)

-- NOT PRINTED: function 9 (spec_GlobText)

/-! ### doublestar_unescapeMeta: function 22 -/
mutual
def doublestar_unescapeMeta.l0 : Nat → ByteArray → List Int → Int → Option (ByteArray)
  | 0, _, _, _ => none
  | k + 1, x0, x3, x4 => if x4 < (x0.size : Int) then (if 0 ≤ x4 then (if (bt x0 x4) = 92 then (doublestar_unescapeMeta.j1 k x0 x3 x4 (decide ((wrap64 (x4 + 1)) < (x0.size : Int)))) else (doublestar_unescapeMeta.j1 k x0 x3 x4 false)) else (none)) else (some (strOfNums x3))
def doublestar_unescapeMeta.j1 : Nat → ByteArray → List Int → Int → Bool → Option (ByteArray)
  | 0, _, _, _, _ => none
  | k + 1, x0, x3, x4, x21 => if x21 = true then (if 0 ≤ (wrap64 (x4 + 1)) then (if (wrap64 (x4 + 1)) < (x0.size : Int) then (if (bt x0 (wrap64 (x4 + 1))) = 42 then (if x3.length < 140737488355328 then (doublestar_unescapeMeta.l0 k x0 (x3 ++ [bt x0 (wrap64 (x4 + 1))]) (wrap64 ((wrap64 (x4 + 1)) + 1))) else (none)) else (if (bt x0 (wrap64 (x4 + 1))) = 63 then (if x3.length < 140737488355328 then (doublestar_unescapeMeta.l0 k x0 (x3 ++ [bt x0 (wrap64 (x4 + 1))]) (wrap64 ((wrap64 (x4 + 1)) + 1))) else (none)) else (if (bt x0 (wrap64 (x4 + 1))) = 91 then (if x3.length < 140737488355328 then (doublestar_unescapeMeta.l0 k x0 (x3 ++ [bt x0 (wrap64 (x4 + 1))]) (wrap64 ((wrap64 (x4 + 1)) + 1))) else (none)) else (if (bt x0 (wrap64 (x4 + 1))) = 93 then (if x3.length < 140737488355328 then (doublestar_unescapeMeta.l0 k x0 (x3 ++ [bt x0 (wrap64 (x4 + 1))]) (wrap64 ((wrap64 (x4 + 1)) + 1))) else (none)) else (if (bt x0 (wrap64 (x4 + 1))) = 123 then (if x3.length < 140737488355328 then (doublestar_unescapeMeta.l0 k x0 (x3 ++ [bt x0 (wrap64 (x4 + 1))]) (wrap64 ((wrap64 (x4 + 1)) + 1))) else (none)) else (if (bt x0 (wrap64 (x4 + 1))) = 125 then (if x3.length < 140737488355328 then (doublestar_unescapeMeta.l0 k x0 (x3 ++ [bt x0 (wrap64 (x4 + 1))]) (wrap64 ((wrap64 (x4 + 1)) + 1))) else (none)) else (if 0 ≤ x4 then (if x4 < (x0.size : Int) then (if x3.length < 140737488355328 then (doublestar_unescapeMeta.l0 k x0 (x3 ++ [bt x0 x4]) (wrap64 (x4 + 1))) else (none)) else (none)) else (none)))))))) else (none)) else (none)) else (if 0 ≤ x4 then (if x4 < (x0.size : Int) then (if x3.length < 140737488355328 then (doublestar_unescapeMeta.l0 k x0 (x3 ++ [bt x0 x4]) (wrap64 (x4 + 1))) else (none)) else (none)) else (none))
end
def doublestar_unescapeMeta.f (k : Nat) (a0 : ByteArray) : Option (ByteArray) := doublestar_unescapeMeta.l0 k a0 ([] : List Int) 0
theorem doublestar_unescapeMeta.mono_l : ∀ k, (∀ y0 y1 y2, LeO (doublestar_unescapeMeta.l0 k y0 y1 y2) (doublestar_unescapeMeta.l0 (k + 1) y0 y1 y2)) ∧ (∀ y0 y1 y2 y3, LeO (doublestar_unescapeMeta.j1 k y0 y1 y2 y3) (doublestar_unescapeMeta.j1 (k + 1) y0 y1 y2 y3))
  | 0 => ⟨fun _ _ _ r h => by simp [doublestar_unescapeMeta.l0] at h, fun _ _ _ _ r h => by simp [doublestar_unescapeMeta.j1] at h⟩
  | k + 1 => by
    obtain ⟨ih0, ih1⟩ := doublestar_unescapeMeta.mono_l k
    refine ⟨?_, ?_⟩
    · intro y0 y1 y2
      unfold doublestar_unescapeMeta.l0
      repeat' first
      | (with_reducible exact ih0 _ _ _)
      | (with_reducible exact ih1 _ _ _ _)
      | (with_reducible exact LeO.refl _)
      | (with_reducible exact LeO.none _)
      | (with_reducible refine LeO.ite ?_ ?_)
      | (with_reducible refine LeO.bind ?_ (fun _ => ?_))
      | exact ih0 _ _ _
      | exact ih1 _ _ _ _
      | exact LeO.none _
      | refine LeO.ite ?_ ?_
      | refine LeO.bind ?_ (fun _ => ?_)
    · intro y0 y1 y2 y3
      unfold doublestar_unescapeMeta.j1
      repeat' first
      | (with_reducible exact ih0 _ _ _)
      | (with_reducible exact ih1 _ _ _ _)
      | (with_reducible exact LeO.refl _)
      | (with_reducible exact LeO.none _)
      | (with_reducible refine LeO.ite ?_ ?_)
      | (with_reducible refine LeO.bind ?_ (fun _ => ?_))
      | exact ih0 _ _ _
      | exact ih1 _ _ _ _
      | exact LeO.none _
      | refine LeO.ite ?_ ?_
      | refine LeO.bind ?_ (fun _ => ?_)
theorem doublestar_unescapeMeta.mono : ∀ a0 k, LeO (doublestar_unescapeMeta.f k a0) (doublestar_unescapeMeta.f (k + 1) a0) := by
  intro a0 k
  obtain ⟨ih0, ih1⟩ := doublestar_unescapeMeta.mono_l k
  unfold doublestar_unescapeMeta.f
  repeat' first
      | (with_reducible exact ih0 _ _ _)
      | (with_reducible exact ih1 _ _ _ _)
      | (with_reducible exact LeO.refl _)
      | (with_reducible exact LeO.none _)
      | (with_reducible refine LeO.ite ?_ ?_)
      | (with_reducible refine LeO.bind ?_ (fun _ => ?_))
      | exact ih0 _ _ _
      | exact ih1 _ _ _ _
      | exact LeO.none _
      | refine LeO.ite ?_ ?_
      | refine LeO.bind ?_ (fun _ => ?_)
set_option maxHeartbeats 8000000 in
set_option maxRecDepth 100000 in
theorem doublestar_unescapeMeta.calls (k : Nat) (a0 : ByteArray) (r : ByteArray) (w : World) (h : doublestar_unescapeMeta.f k a0 = some r) :
    Calls Try.prog 22 #[.string a0] w fun e w' => e = .returned (.string r) ∧ Below w.heap.size w w' := by
  have HB := Aside0.mk (Below.refl w.heap.size w)
  have H : (doublestar_unescapeMeta.l0 k a0 ([] : List Int) 0) = some r := h
  clear h
  have H' := Aside0.mk H
  clear H
  go_enter Try.func22, Try.ntmps22
  go_wp2
  go_loopg [3, 4] k (fun kq v3 v4 w' => ∃ (x3_1 : List Int) (x4_1 : Int), v4 = .int .i64 x4_1 ∧ Aside0 (doublestar_unescapeMeta.l0 kq a0 x3_1 x4_1 = some r) ∧ Aside0 (kq ≤ k) ∧ Aside0 (Kd.R (Kd.int .u8) 5 w' w.heap.size (fun _ => True) v3 x3_1) ∧ Aside0 (Below w.heap.size w w'))
  case atStart => exact ⟨(([] : List Int)), (0), (by first | rfl | (simp; done) | (simp [*]; done)), H', ⟨Nat.le_refl _⟩, ⟨by first | exact Kd.R_nil _ _ _ _ _ | exact Kd.N_nil _ _ _ _ _ | exact Kd.V_nil _ _ _ _ _ | exact Kd.Q_nil _ _ _ _ _ | exact Kd.S_nil _ _ _ _ _⟩, ⟨by repeat (first | (with_reducible first | exact HB.out | apply below_alloc | apply pw_below_drewN | apply below_drew1) | exact HB.out)⟩⟩
  case round =>
    clear H'
    obtain ⟨x3_1, x4_1, rfl, HA, HK1, HO_3, HB⟩ := hrel
    cases gk with
    | zero => exact absurd HA.out (by simp [doublestar_unescapeMeta.l0])
    | succ k1 =>
      have H := HA.out
      clear HA
      simp only [doublestar_unescapeMeta.l0] at H
      by_cases c2 : x4_1 < (a0.size : Int)
      · rw [if_pos c2] at H
        have c2b0 : decide (x4_1 < (a0.size : Int)) = true := decide_eq_true c2
        clear c2
        have HC3 := Aside0.mk H
        clear H
        go_upto_region 5 with (fail)
        go_cut [21] (fun v21 wc => ∃ (kq : Nat) (x21_2 : Bool), v21 = .bool x21_2 ∧ Aside0 (doublestar_unescapeMeta.j1 kq a0 x3_1 x4_1 x21_2 = some r) ∧ Aside0 (kq ≤ k1) ∧ Aside0 (Kd.R (Kd.int .u8) 5 wc w.heap.size (fun _ => True) u3 x3_1) ∧ Aside0 (Below w.heap.size w wc))
        case first =>
          have H := HC3.out
          clear HC3
          by_cases c4 : 0 ≤ x4_1
          · rw [if_pos c4] at H
            have c4b0 : decide (0 ≤ x4_1) = true := decide_eq_true c4
            clear c4
            (first | rw [c4b0] | (simp only [i64_w, i32_w]; rw [c4b0]) | skip)
            by_cases c6 : (bt a0 x4_1) = 92
            · rw [if_pos c6] at H
              have c6b0 : ((bt a0 x4_1) == 92) = true := beq_iff_eq.mpr c6
              have c6b1 : ((bt a0 x4_1) != 92) = false := bne_eq_false_iff_eq.mpr c6
              clear c6
              have H' := Aside0.mk H
              clear H
              have p5 : 0 ≤ (x4_1 : Int) := of_decide_eq_true (by first | (with_reducible assumption) | assumption)
              have q5 : x4_1 < (a0.size : Int) := of_decide_eq_true (by first | (with_reducible assumption) | assumption)
              have hx5 := bt_at a0 x4_1
              replace p5 := eq_true p5
              replace q5 := eq_true q5
              go_wp2
              go_meet
              case rel => exact ⟨_, (decide ((wrap64 (x4_1 + 1)) < (a0.size : Int))), (by first | rfl | (simp; done) | (simp [*]; done)), H', ⟨by have := HK1.out; first | omega | exact Nat.le_refl _⟩, ⟨by (with_reducible repeat (first | apply Kd.R_alloc | apply Kd.R_drewN | apply Kd.R_drew)); exact HO_3.out⟩, ⟨by repeat (first | (with_reducible first | exact HB.out | apply below_alloc | apply pw_below_drewN | apply below_drew1) | exact HB.out)⟩⟩
            · rw [if_neg c6] at H
              have c6b0 : ((bt a0 x4_1) == 92) = false := beq_eq_false_iff_ne.mpr c6
              have c6b1 : ((bt a0 x4_1) != 92) = true := bne_iff_ne.mpr c6
              have H' := Aside0.mk H
              clear H
              have p5 : 0 ≤ (x4_1 : Int) := of_decide_eq_true (by first | (with_reducible assumption) | assumption)
              have q5 : x4_1 < (a0.size : Int) := of_decide_eq_true (by first | (with_reducible assumption) | assumption)
              have hx5 := bt_at a0 x4_1
              replace p5 := eq_true p5
              replace q5 := eq_true q5
              go_wp2
              go_meet
              case rel => exact ⟨_, (false), (by first | rfl | (simp; done) | (simp [*]; done)), H', ⟨by have := HK1.out; first | omega | exact Nat.le_refl _⟩, ⟨by (with_reducible repeat (first | apply Kd.R_alloc | apply Kd.R_drewN | apply Kd.R_drew)); exact HO_3.out⟩, ⟨by repeat (first | (with_reducible first | exact HB.out | apply below_alloc | apply pw_below_drewN | apply below_drew1) | exact HB.out)⟩⟩
          · rw [if_neg c4] at H
            exact absurd H (by simp)
        case rest =>
          clear HC3
          try clear c2
          try clear c2b0
          try clear p2
          try clear c4
          try clear c4b0
          try clear p5
          try clear q5
          try clear hx5
          try clear c6
          try clear c6b0
          try clear c6b1
          try clear p6
          try clear p5
          try clear q5
          obtain ⟨kq, x21_2, rfl, HA, HJ2, HO_3, HB⟩ := hcut
          cases kq with
          | zero => exact absurd HA.out (by simp [doublestar_unescapeMeta.j1])
          | succ kj2 =>
            have H := HA.out
            clear HA
            simp only [doublestar_unescapeMeta.j1] at H
            by_cases c7 : x21_2 = true
            · subst c7
              have H1 : (if 0 ≤ (wrap64 (x4_1 + 1)) then (if (wrap64 (x4_1 + 1)) < (a0.size : Int) then (if (bt a0 (wrap64 (x4_1 + 1))) = 42 then (if x3_1.length < 140737488355328 then (doublestar_unescapeMeta.l0 kj2 a0 (x3_1 ++ [bt a0 (wrap64 (x4_1 + 1))]) (wrap64 ((wrap64 (x4_1 + 1)) + 1))) else (none)) else (if (bt a0 (wrap64 (x4_1 + 1))) = 63 then (if x3_1.length < 140737488355328 then (doublestar_unescapeMeta.l0 kj2 a0 (x3_1 ++ [bt a0 (wrap64 (x4_1 + 1))]) (wrap64 ((wrap64 (x4_1 + 1)) + 1))) else (none)) else (if (bt a0 (wrap64 (x4_1 + 1))) = 91 then (if x3_1.length < 140737488355328 then (doublestar_unescapeMeta.l0 kj2 a0 (x3_1 ++ [bt a0 (wrap64 (x4_1 + 1))]) (wrap64 ((wrap64 (x4_1 + 1)) + 1))) else (none)) else (if (bt a0 (wrap64 (x4_1 + 1))) = 93 then (if x3_1.length < 140737488355328 then (doublestar_unescapeMeta.l0 kj2 a0 (x3_1 ++ [bt a0 (wrap64 (x4_1 + 1))]) (wrap64 ((wrap64 (x4_1 + 1)) + 1))) else (none)) else (if (bt a0 (wrap64 (x4_1 + 1))) = 123 then (if x3_1.length < 140737488355328 then (doublestar_unescapeMeta.l0 kj2 a0 (x3_1 ++ [bt a0 (wrap64 (x4_1 + 1))]) (wrap64 ((wrap64 (x4_1 + 1)) + 1))) else (none)) else (if (bt a0 (wrap64 (x4_1 + 1))) = 125 then (if x3_1.length < 140737488355328 then (doublestar_unescapeMeta.l0 kj2 a0 (x3_1 ++ [bt a0 (wrap64 (x4_1 + 1))]) (wrap64 ((wrap64 (x4_1 + 1)) + 1))) else (none)) else (if 0 ≤ x4_1 then (if x4_1 < (a0.size : Int) then (if x3_1.length < 140737488355328 then (doublestar_unescapeMeta.l0 kj2 a0 (x3_1 ++ [bt a0 x4_1]) (wrap64 (x4_1 + 1))) else (none)) else (none)) else (none)))))))) else (none)) else (none)) = some r := by rw [if_pos rfl] at H; exact H
              clear H
              have H := H1
              clear H1
              obtain ⟨ji8, hji8⟩ : ∃ j_ : Int, (wrap64 (x4_1 + 1)) = j_ := ⟨_, rfl⟩
              replace H : (if 0 ≤ (ji8) then (if (ji8) < (a0.size : Int) then (if (bt a0 (ji8)) = 42 then (if x3_1.length < 140737488355328 then (doublestar_unescapeMeta.l0 kj2 a0 (x3_1 ++ [bt a0 (ji8)]) (wrap64 ((ji8) + 1))) else (none)) else (if (bt a0 (ji8)) = 63 then (if x3_1.length < 140737488355328 then (doublestar_unescapeMeta.l0 kj2 a0 (x3_1 ++ [bt a0 (ji8)]) (wrap64 ((ji8) + 1))) else (none)) else (if (bt a0 (ji8)) = 91 then (if x3_1.length < 140737488355328 then (doublestar_unescapeMeta.l0 kj2 a0 (x3_1 ++ [bt a0 (ji8)]) (wrap64 ((ji8) + 1))) else (none)) else (if (bt a0 (ji8)) = 93 then (if x3_1.length < 140737488355328 then (doublestar_unescapeMeta.l0 kj2 a0 (x3_1 ++ [bt a0 (ji8)]) (wrap64 ((ji8) + 1))) else (none)) else (if (bt a0 (ji8)) = 123 then (if x3_1.length < 140737488355328 then (doublestar_unescapeMeta.l0 kj2 a0 (x3_1 ++ [bt a0 (ji8)]) (wrap64 ((ji8) + 1))) else (none)) else (if (bt a0 (ji8)) = 125 then (if x3_1.length < 140737488355328 then (doublestar_unescapeMeta.l0 kj2 a0 (x3_1 ++ [bt a0 (ji8)]) (wrap64 ((ji8) + 1))) else (none)) else (if 0 ≤ x4_1 then (if x4_1 < (a0.size : Int) then (if x3_1.length < 140737488355328 then (doublestar_unescapeMeta.l0 kj2 a0 (x3_1 ++ [bt a0 x4_1]) ji8) else (none)) else (none)) else (none)))))))) else (none)) else (none)) = some r := by first | (rw [hji8] at H; exact H) | (simp only [hji8] at H ⊢; exact H)
              have hji8w : (IntKind.i64.wrap (x4_1 + 1)) = ji8 := (i64_w _).trans hji8
              by_cases c9 : 0 ≤ (ji8)
              · rw [if_pos c9] at H
                have c9b0 : decide (0 ≤ (ji8)) = true := decide_eq_true c9
                clear c9
                by_cases c10 : (ji8) < (a0.size : Int)
                · rw [if_pos c10] at H
                  have c10b0 : decide ((ji8) < (a0.size : Int)) = true := decide_eq_true c10
                  clear c10
                  by_cases c12 : (bt a0 (ji8)) = 42
                  · rw [if_pos c12] at H
                    have c12b0 : ((bt a0 (ji8)) == 42) = true := beq_iff_eq.mpr c12
                    have c12b1 : ((bt a0 (ji8)) != 42) = false := bne_eq_false_iff_eq.mpr c12
                    clear c12
                    by_cases c14 : x3_1.length < 140737488355328
                    · rw [if_pos c14] at H
                      have LMc14 := Aside0.mk c14
                      clear c14
                      obtain ⟨y104, hy104⟩ : ∃ y_ : List Int, y_ = (x3_1 ++ [bt a0 (ji8)]) := ⟨_, rfl⟩
                      replace H : (doublestar_unescapeMeta.l0 kj2 a0 y104 (wrap64 ((ji8) + 1))) = some r := by first | (rw [hy104]; with_reducible exact H) | (have H2_ := (Option.bind_some _ _).symm.trans H; rw [hy104]; with_reducible exact H2_) | (have H2_ := (Option.bind_some _ _).symm.trans H; with_reducible exact H2_) | with_reducible exact H | (rw [hy104]; exact H) | exact H
                      have Ny104 := Aside0.mk hy104
                      clear hy104
                      have H' := Aside0.mk H
                      clear H
                      have p11 : 0 ≤ ((ji8) : Int) := of_decide_eq_true (by first | (with_reducible assumption) | assumption)
                      have q11 : (ji8) < (a0.size : Int) := of_decide_eq_true (by first | (with_reducible assumption) | assumption)
                      have hx11 := bt_at a0 (ji8)
                      replace p11 := eq_true p11
                      replace q11 := eq_true q11
                      have p13 : 0 ≤ ((ji8) : Int) := of_decide_eq_true (by first | (with_reducible assumption) | assumption)
                      have q13 : (ji8) < (a0.size : Int) := of_decide_eq_true (by first | (with_reducible assumption) | assumption)
                      have hx13 := bt_at a0 (ji8)
                      replace p13 := eq_true p13
                      replace q13 := eq_true q13
                      go_wp2_with (first | ((with_reducible refine gate_builtin (b := .append) (xs := #[.tmp 35, .tmp 39]) rfl ?_); (try (refine gate_guard (by rfl) ?_; dsimp only)); at_builtin; refine Kd.R_append (Kd.int .u8) (w0 := w) w.heap.size rfl (.tmp 35) (.tmp 39) 53 5 (.int .u8 0) 1 rfl Try.underlying53 info5 rfl (by decide) (by omega) u3 x3_1 (bt a0 (ji8)) [.int .u8 (bt a0 (ji8))] (fun _ => True) (fun _ => False) rfl rfl ?aP (fun _ hk => hk.elim) ?aF ?aO ?aB ?aS ?aL ?_; (case aP => exact rfl); (case aB => exact (by repeat (first | (with_reducible first | exact HB.out | apply below_alloc | apply pw_below_drewN | apply below_drew1) | exact HB.out))); (case aF => exact (fun _ _ => trivial)); (case aO => exact (by (with_reducible repeat (first | apply Kd.R_alloc | apply Kd.R_drewN | apply Kd.R_drew)); exact HO_3.out)); (case aS => exact (below_size (by repeat (first | (with_reducible first | exact HB.out | apply below_alloc | apply pw_below_drewN | apply below_drew1) | exact HB.out)))); (case aL => have := LMc14.out; omega); intro v105 w15 ho hb hg hat; rw [← Ny104.out] at ho; have n0_ := Aside0.mk (hb); have n1_ := Aside0.mk (ho); clear HB; clear HO_3; have HB := n0_; have HO106 := n1_; clear n0_ n1_; clear ho hb hg hat))
                      go_roundg kj2
                      case measure => have := HK1.out; have := HJ2.out; omega
                      case rel => exact ⟨(y104), (wrap64 ((ji8) + 1)), (by first | rfl | (simp; done) | (simp only [← hji8] <;> (first | rfl | simp)) | (simp [*]; done)), H', ⟨by have := HK1.out; have := HJ2.out; omega⟩, ⟨by (with_reducible repeat (first | apply Kd.R_alloc | apply Kd.R_drewN | apply Kd.R_drew)); exact HO106.out⟩, ⟨by repeat (first | (with_reducible first | exact HB.out | apply below_alloc | apply pw_below_drewN | apply below_drew1) | exact HB.out)⟩⟩
                    · rw [if_neg c14] at H
                      exact absurd H (by simp)
                  · rw [if_neg c12] at H
                    have c12b0 : ((bt a0 (ji8)) == 42) = false := beq_eq_false_iff_ne.mpr c12
                    have c12b1 : ((bt a0 (ji8)) != 42) = true := bne_iff_ne.mpr c12
                    by_cases c16 : (bt a0 (ji8)) = 63
                    · rw [if_pos c16] at H
                      have c16b0 : ((bt a0 (ji8)) == 63) = true := beq_iff_eq.mpr c16
                      have c16b1 : ((bt a0 (ji8)) != 63) = false := bne_eq_false_iff_eq.mpr c16
                      clear c16
                      by_cases c18 : x3_1.length < 140737488355328
                      · rw [if_pos c18] at H
                        have LMc18 := Aside0.mk c18
                        clear c18
                        obtain ⟨y107, hy107⟩ : ∃ y_ : List Int, y_ = (x3_1 ++ [bt a0 (ji8)]) := ⟨_, rfl⟩
                        replace H : (doublestar_unescapeMeta.l0 kj2 a0 y107 (wrap64 ((ji8) + 1))) = some r := by first | (rw [hy107]; with_reducible exact H) | (have H2_ := (Option.bind_some _ _).symm.trans H; rw [hy107]; with_reducible exact H2_) | (have H2_ := (Option.bind_some _ _).symm.trans H; with_reducible exact H2_) | with_reducible exact H | (rw [hy107]; exact H) | exact H
                        have Ny107 := Aside0.mk hy107
                        clear hy107
                        have H' := Aside0.mk H
                        clear H
                        have p11 : 0 ≤ ((ji8) : Int) := of_decide_eq_true (by first | (with_reducible assumption) | assumption)
                        have q11 : (ji8) < (a0.size : Int) := of_decide_eq_true (by first | (with_reducible assumption) | assumption)
                        have hx11 := bt_at a0 (ji8)
                        replace p11 := eq_true p11
                        replace q11 := eq_true q11
                        have p17 : 0 ≤ ((ji8) : Int) := of_decide_eq_true (by first | (with_reducible assumption) | assumption)
                        have q17 : (ji8) < (a0.size : Int) := of_decide_eq_true (by first | (with_reducible assumption) | assumption)
                        have hx17 := bt_at a0 (ji8)
                        replace p17 := eq_true p17
                        replace q17 := eq_true q17
                        go_wp2_with (first | ((with_reducible refine gate_builtin (b := .append) (xs := #[.tmp 35, .tmp 39]) rfl ?_); (try (refine gate_guard (by rfl) ?_; dsimp only)); at_builtin; refine Kd.R_append (Kd.int .u8) (w0 := w) w.heap.size rfl (.tmp 35) (.tmp 39) 53 5 (.int .u8 0) 1 rfl Try.underlying53 info5 rfl (by decide) (by omega) u3 x3_1 (bt a0 (ji8)) [.int .u8 (bt a0 (ji8))] (fun _ => True) (fun _ => False) rfl rfl ?aP (fun _ hk => hk.elim) ?aF ?aO ?aB ?aS ?aL ?_; (case aP => exact rfl); (case aB => exact (by repeat (first | (with_reducible first | exact HB.out | apply below_alloc | apply pw_below_drewN | apply below_drew1) | exact HB.out))); (case aF => exact (fun _ _ => trivial)); (case aO => exact (by (with_reducible repeat (first | apply Kd.R_alloc | apply Kd.R_drewN | apply Kd.R_drew)); exact HO_3.out)); (case aS => exact (below_size (by repeat (first | (with_reducible first | exact HB.out | apply below_alloc | apply pw_below_drewN | apply below_drew1) | exact HB.out)))); (case aL => have := LMc18.out; omega); intro v108 w19 ho hb hg hat; rw [← Ny107.out] at ho; have n0_ := Aside0.mk (hb); have n1_ := Aside0.mk (ho); clear HB; clear HO_3; have HB := n0_; have HO109 := n1_; clear n0_ n1_; clear ho hb hg hat))
                        go_roundg kj2
                        case measure => have := HK1.out; have := HJ2.out; omega
                        case rel => exact ⟨(y107), (wrap64 ((ji8) + 1)), (by first | rfl | (simp; done) | (simp only [← hji8] <;> (first | rfl | simp)) | (simp [*]; done)), H', ⟨by have := HK1.out; have := HJ2.out; omega⟩, ⟨by (with_reducible repeat (first | apply Kd.R_alloc | apply Kd.R_drewN | apply Kd.R_drew)); exact HO109.out⟩, ⟨by repeat (first | (with_reducible first | exact HB.out | apply below_alloc | apply pw_below_drewN | apply below_drew1) | exact HB.out)⟩⟩
                      · rw [if_neg c18] at H
                        exact absurd H (by simp)
                    · rw [if_neg c16] at H
                      have c16b0 : ((bt a0 (ji8)) == 63) = false := beq_eq_false_iff_ne.mpr c16
                      have c16b1 : ((bt a0 (ji8)) != 63) = true := bne_iff_ne.mpr c16
                      by_cases c20 : (bt a0 (ji8)) = 91
                      · rw [if_pos c20] at H
                        have c20b0 : ((bt a0 (ji8)) == 91) = true := beq_iff_eq.mpr c20
                        have c20b1 : ((bt a0 (ji8)) != 91) = false := bne_eq_false_iff_eq.mpr c20
                        clear c20
                        by_cases c22 : x3_1.length < 140737488355328
                        · rw [if_pos c22] at H
                          have LMc22 := Aside0.mk c22
                          clear c22
                          obtain ⟨y110, hy110⟩ : ∃ y_ : List Int, y_ = (x3_1 ++ [bt a0 (ji8)]) := ⟨_, rfl⟩
                          replace H : (doublestar_unescapeMeta.l0 kj2 a0 y110 (wrap64 ((ji8) + 1))) = some r := by first | (rw [hy110]; with_reducible exact H) | (have H2_ := (Option.bind_some _ _).symm.trans H; rw [hy110]; with_reducible exact H2_) | (have H2_ := (Option.bind_some _ _).symm.trans H; with_reducible exact H2_) | with_reducible exact H | (rw [hy110]; exact H) | exact H
                          have Ny110 := Aside0.mk hy110
                          clear hy110
                          have H' := Aside0.mk H
                          clear H
                          have p11 : 0 ≤ ((ji8) : Int) := of_decide_eq_true (by first | (with_reducible assumption) | assumption)
                          have q11 : (ji8) < (a0.size : Int) := of_decide_eq_true (by first | (with_reducible assumption) | assumption)
                          have hx11 := bt_at a0 (ji8)
                          replace p11 := eq_true p11
                          replace q11 := eq_true q11
                          have p21 : 0 ≤ ((ji8) : Int) := of_decide_eq_true (by first | (with_reducible assumption) | assumption)
                          have q21 : (ji8) < (a0.size : Int) := of_decide_eq_true (by first | (with_reducible assumption) | assumption)
                          have hx21 := bt_at a0 (ji8)
                          replace p21 := eq_true p21
                          replace q21 := eq_true q21
                          go_wp2_with (first | ((with_reducible refine gate_builtin (b := .append) (xs := #[.tmp 35, .tmp 39]) rfl ?_); (try (refine gate_guard (by rfl) ?_; dsimp only)); at_builtin; refine Kd.R_append (Kd.int .u8) (w0 := w) w.heap.size rfl (.tmp 35) (.tmp 39) 53 5 (.int .u8 0) 1 rfl Try.underlying53 info5 rfl (by decide) (by omega) u3 x3_1 (bt a0 (ji8)) [.int .u8 (bt a0 (ji8))] (fun _ => True) (fun _ => False) rfl rfl ?aP (fun _ hk => hk.elim) ?aF ?aO ?aB ?aS ?aL ?_; (case aP => exact rfl); (case aB => exact (by repeat (first | (with_reducible first | exact HB.out | apply below_alloc | apply pw_below_drewN | apply below_drew1) | exact HB.out))); (case aF => exact (fun _ _ => trivial)); (case aO => exact (by (with_reducible repeat (first | apply Kd.R_alloc | apply Kd.R_drewN | apply Kd.R_drew)); exact HO_3.out)); (case aS => exact (below_size (by repeat (first | (with_reducible first | exact HB.out | apply below_alloc | apply pw_below_drewN | apply below_drew1) | exact HB.out)))); (case aL => have := LMc22.out; omega); intro v111 w23 ho hb hg hat; rw [← Ny110.out] at ho; have n0_ := Aside0.mk (hb); have n1_ := Aside0.mk (ho); clear HB; clear HO_3; have HB := n0_; have HO112 := n1_; clear n0_ n1_; clear ho hb hg hat))
                          go_roundg kj2
                          case measure => have := HK1.out; have := HJ2.out; omega
                          case rel => exact ⟨(y110), (wrap64 ((ji8) + 1)), (by first | rfl | (simp; done) | (simp only [← hji8] <;> (first | rfl | simp)) | (simp [*]; done)), H', ⟨by have := HK1.out; have := HJ2.out; omega⟩, ⟨by (with_reducible repeat (first | apply Kd.R_alloc | apply Kd.R_drewN | apply Kd.R_drew)); exact HO112.out⟩, ⟨by repeat (first | (with_reducible first | exact HB.out | apply below_alloc | apply pw_below_drewN | apply below_drew1) | exact HB.out)⟩⟩
                        · rw [if_neg c22] at H
                          exact absurd H (by simp)
                      · rw [if_neg c20] at H
                        have c20b0 : ((bt a0 (ji8)) == 91) = false := beq_eq_false_iff_ne.mpr c20
                        have c20b1 : ((bt a0 (ji8)) != 91) = true := bne_iff_ne.mpr c20
                        by_cases c24 : (bt a0 (ji8)) = 93
                        · rw [if_pos c24] at H
                          have c24b0 : ((bt a0 (ji8)) == 93) = true := beq_iff_eq.mpr c24
                          have c24b1 : ((bt a0 (ji8)) != 93) = false := bne_eq_false_iff_eq.mpr c24
                          clear c24
                          by_cases c26 : x3_1.length < 140737488355328
                          · rw [if_pos c26] at H
                            have LMc26 := Aside0.mk c26
                            clear c26
                            obtain ⟨y113, hy113⟩ : ∃ y_ : List Int, y_ = (x3_1 ++ [bt a0 (ji8)]) := ⟨_, rfl⟩
                            replace H : (doublestar_unescapeMeta.l0 kj2 a0 y113 (wrap64 ((ji8) + 1))) = some r := by first | (rw [hy113]; with_reducible exact H) | (have H2_ := (Option.bind_some _ _).symm.trans H; rw [hy113]; with_reducible exact H2_) | (have H2_ := (Option.bind_some _ _).symm.trans H; with_reducible exact H2_) | with_reducible exact H | (rw [hy113]; exact H) | exact H
                            have Ny113 := Aside0.mk hy113
                            clear hy113
                            have H' := Aside0.mk H
                            clear H
                            have p11 : 0 ≤ ((ji8) : Int) := of_decide_eq_true (by first | (with_reducible assumption) | assumption)
                            have q11 : (ji8) < (a0.size : Int) := of_decide_eq_true (by first | (with_reducible assumption) | assumption)
                            have hx11 := bt_at a0 (ji8)
                            replace p11 := eq_true p11
                            replace q11 := eq_true q11
                            have p25 : 0 ≤ ((ji8) : Int) := of_decide_eq_true (by first | (with_reducible assumption) | assumption)
                            have q25 : (ji8) < (a0.size : Int) := of_decide_eq_true (by first | (with_reducible assumption) | assumption)
                            have hx25 := bt_at a0 (ji8)
                            replace p25 := eq_true p25
                            replace q25 := eq_true q25
                            go_wp2_with (first | ((with_reducible refine gate_builtin (b := .append) (xs := #[.tmp 35, .tmp 39]) rfl ?_); (try (refine gate_guard (by rfl) ?_; dsimp only)); at_builtin; refine Kd.R_append (Kd.int .u8) (w0 := w) w.heap.size rfl (.tmp 35) (.tmp 39) 53 5 (.int .u8 0) 1 rfl Try.underlying53 info5 rfl (by decide) (by omega) u3 x3_1 (bt a0 (ji8)) [.int .u8 (bt a0 (ji8))] (fun _ => True) (fun _ => False) rfl rfl ?aP (fun _ hk => hk.elim) ?aF ?aO ?aB ?aS ?aL ?_; (case aP => exact rfl); (case aB => exact (by repeat (first | (with_reducible first | exact HB.out | apply below_alloc | apply pw_below_drewN | apply below_drew1) | exact HB.out))); (case aF => exact (fun _ _ => trivial)); (case aO => exact (by (with_reducible repeat (first | apply Kd.R_alloc | apply Kd.R_drewN | apply Kd.R_drew)); exact HO_3.out)); (case aS => exact (below_size (by repeat (first | (with_reducible first | exact HB.out | apply below_alloc | apply pw_below_drewN | apply below_drew1) | exact HB.out)))); (case aL => have := LMc26.out; omega); intro v114 w27 ho hb hg hat; rw [← Ny113.out] at ho; have n0_ := Aside0.mk (hb); have n1_ := Aside0.mk (ho); clear HB; clear HO_3; have HB := n0_; have HO115 := n1_; clear n0_ n1_; clear ho hb hg hat))
                            go_roundg kj2
                            case measure => have := HK1.out; have := HJ2.out; omega
                            case rel => exact ⟨(y113), (wrap64 ((ji8) + 1)), (by first | rfl | (simp; done) | (simp only [← hji8] <;> (first | rfl | simp)) | (simp [*]; done)), H', ⟨by have := HK1.out; have := HJ2.out; omega⟩, ⟨by (with_reducible repeat (first | apply Kd.R_alloc | apply Kd.R_drewN | apply Kd.R_drew)); exact HO115.out⟩, ⟨by repeat (first | (with_reducible first | exact HB.out | apply below_alloc | apply pw_below_drewN | apply below_drew1) | exact HB.out)⟩⟩
                          · rw [if_neg c26] at H
                            exact absurd H (by simp)
                        · rw [if_neg c24] at H
                          have c24b0 : ((bt a0 (ji8)) == 93) = false := beq_eq_false_iff_ne.mpr c24
                          have c24b1 : ((bt a0 (ji8)) != 93) = true := bne_iff_ne.mpr c24
                          by_cases c28 : (bt a0 (ji8)) = 123
                          · rw [if_pos c28] at H
                            have c28b0 : ((bt a0 (ji8)) == 123) = true := beq_iff_eq.mpr c28
                            have c28b1 : ((bt a0 (ji8)) != 123) = false := bne_eq_false_iff_eq.mpr c28
                            clear c28
                            by_cases c30 : x3_1.length < 140737488355328
                            · rw [if_pos c30] at H
                              have LMc30 := Aside0.mk c30
                              clear c30
                              obtain ⟨y116, hy116⟩ : ∃ y_ : List Int, y_ = (x3_1 ++ [bt a0 (ji8)]) := ⟨_, rfl⟩
                              replace H : (doublestar_unescapeMeta.l0 kj2 a0 y116 (wrap64 ((ji8) + 1))) = some r := by first | (rw [hy116]; with_reducible exact H) | (have H2_ := (Option.bind_some _ _).symm.trans H; rw [hy116]; with_reducible exact H2_) | (have H2_ := (Option.bind_some _ _).symm.trans H; with_reducible exact H2_) | with_reducible exact H | (rw [hy116]; exact H) | exact H
                              have Ny116 := Aside0.mk hy116
                              clear hy116
                              have H' := Aside0.mk H
                              clear H
                              have p11 : 0 ≤ ((ji8) : Int) := of_decide_eq_true (by first | (with_reducible assumption) | assumption)
                              have q11 : (ji8) < (a0.size : Int) := of_decide_eq_true (by first | (with_reducible assumption) | assumption)
                              have hx11 := bt_at a0 (ji8)
                              replace p11 := eq_true p11
                              replace q11 := eq_true q11
                              have p29 : 0 ≤ ((ji8) : Int) := of_decide_eq_true (by first | (with_reducible assumption) | assumption)
                              have q29 : (ji8) < (a0.size : Int) := of_decide_eq_true (by first | (with_reducible assumption) | assumption)
                              have hx29 := bt_at a0 (ji8)
                              replace p29 := eq_true p29
                              replace q29 := eq_true q29
                              go_wp2_with (first | ((with_reducible refine gate_builtin (b := .append) (xs := #[.tmp 35, .tmp 39]) rfl ?_); (try (refine gate_guard (by rfl) ?_; dsimp only)); at_builtin; refine Kd.R_append (Kd.int .u8) (w0 := w) w.heap.size rfl (.tmp 35) (.tmp 39) 53 5 (.int .u8 0) 1 rfl Try.underlying53 info5 rfl (by decide) (by omega) u3 x3_1 (bt a0 (ji8)) [.int .u8 (bt a0 (ji8))] (fun _ => True) (fun _ => False) rfl rfl ?aP (fun _ hk => hk.elim) ?aF ?aO ?aB ?aS ?aL ?_; (case aP => exact rfl); (case aB => exact (by repeat (first | (with_reducible first | exact HB.out | apply below_alloc | apply pw_below_drewN | apply below_drew1) | exact HB.out))); (case aF => exact (fun _ _ => trivial)); (case aO => exact (by (with_reducible repeat (first | apply Kd.R_alloc | apply Kd.R_drewN | apply Kd.R_drew)); exact HO_3.out)); (case aS => exact (below_size (by repeat (first | (with_reducible first | exact HB.out | apply below_alloc | apply pw_below_drewN | apply below_drew1) | exact HB.out)))); (case aL => have := LMc30.out; omega); intro v117 w31 ho hb hg hat; rw [← Ny116.out] at ho; have n0_ := Aside0.mk (hb); have n1_ := Aside0.mk (ho); clear HB; clear HO_3; have HB := n0_; have HO118 := n1_; clear n0_ n1_; clear ho hb hg hat))
                              go_roundg kj2
                              case measure => have := HK1.out; have := HJ2.out; omega
                              case rel => exact ⟨(y116), (wrap64 ((ji8) + 1)), (by first | rfl | (simp; done) | (simp only [← hji8] <;> (first | rfl | simp)) | (simp [*]; done)), H', ⟨by have := HK1.out; have := HJ2.out; omega⟩, ⟨by (with_reducible repeat (first | apply Kd.R_alloc | apply Kd.R_drewN | apply Kd.R_drew)); exact HO118.out⟩, ⟨by repeat (first | (with_reducible first | exact HB.out | apply below_alloc | apply pw_below_drewN | apply below_drew1) | exact HB.out)⟩⟩
                            · rw [if_neg c30] at H
                              exact absurd H (by simp)
                          · rw [if_neg c28] at H
                            have c28b0 : ((bt a0 (ji8)) == 123) = false := beq_eq_false_iff_ne.mpr c28
                            have c28b1 : ((bt a0 (ji8)) != 123) = true := bne_iff_ne.mpr c28
                            by_cases c32 : (bt a0 (ji8)) = 125
                            · rw [if_pos c32] at H
                              have c32b0 : ((bt a0 (ji8)) == 125) = true := beq_iff_eq.mpr c32
                              have c32b1 : ((bt a0 (ji8)) != 125) = false := bne_eq_false_iff_eq.mpr c32
                              clear c32
                              by_cases c34 : x3_1.length < 140737488355328
                              · rw [if_pos c34] at H
                                have LMc34 := Aside0.mk c34
                                clear c34
                                obtain ⟨y119, hy119⟩ : ∃ y_ : List Int, y_ = (x3_1 ++ [bt a0 (ji8)]) := ⟨_, rfl⟩
                                replace H : (doublestar_unescapeMeta.l0 kj2 a0 y119 (wrap64 ((ji8) + 1))) = some r := by first | (rw [hy119]; with_reducible exact H) | (have H2_ := (Option.bind_some _ _).symm.trans H; rw [hy119]; with_reducible exact H2_) | (have H2_ := (Option.bind_some _ _).symm.trans H; with_reducible exact H2_) | with_reducible exact H | (rw [hy119]; exact H) | exact H
                                have Ny119 := Aside0.mk hy119
                                clear hy119
                                have H' := Aside0.mk H
                                clear H
                                have p11 : 0 ≤ ((ji8) : Int) := of_decide_eq_true (by first | (with_reducible assumption) | assumption)
                                have q11 : (ji8) < (a0.size : Int) := of_decide_eq_true (by first | (with_reducible assumption) | assumption)
                                have hx11 := bt_at a0 (ji8)
                                replace p11 := eq_true p11
                                replace q11 := eq_true q11
                                have p33 : 0 ≤ ((ji8) : Int) := of_decide_eq_true (by first | (with_reducible assumption) | assumption)
                                have q33 : (ji8) < (a0.size : Int) := of_decide_eq_true (by first | (with_reducible assumption) | assumption)
                                have hx33 := bt_at a0 (ji8)
                                replace p33 := eq_true p33
                                replace q33 := eq_true q33
                                go_wp2_with (first | ((with_reducible refine gate_builtin (b := .append) (xs := #[.tmp 35, .tmp 39]) rfl ?_); (try (refine gate_guard (by rfl) ?_; dsimp only)); at_builtin; refine Kd.R_append (Kd.int .u8) (w0 := w) w.heap.size rfl (.tmp 35) (.tmp 39) 53 5 (.int .u8 0) 1 rfl Try.underlying53 info5 rfl (by decide) (by omega) u3 x3_1 (bt a0 (ji8)) [.int .u8 (bt a0 (ji8))] (fun _ => True) (fun _ => False) rfl rfl ?aP (fun _ hk => hk.elim) ?aF ?aO ?aB ?aS ?aL ?_; (case aP => exact rfl); (case aB => exact (by repeat (first | (with_reducible first | exact HB.out | apply below_alloc | apply pw_below_drewN | apply below_drew1) | exact HB.out))); (case aF => exact (fun _ _ => trivial)); (case aO => exact (by (with_reducible repeat (first | apply Kd.R_alloc | apply Kd.R_drewN | apply Kd.R_drew)); exact HO_3.out)); (case aS => exact (below_size (by repeat (first | (with_reducible first | exact HB.out | apply below_alloc | apply pw_below_drewN | apply below_drew1) | exact HB.out)))); (case aL => have := LMc34.out; omega); intro v120 w35 ho hb hg hat; rw [← Ny119.out] at ho; have n0_ := Aside0.mk (hb); have n1_ := Aside0.mk (ho); clear HB; clear HO_3; have HB := n0_; have HO121 := n1_; clear n0_ n1_; clear ho hb hg hat))
                                go_roundg kj2
                                case measure => have := HK1.out; have := HJ2.out; omega
                                case rel => exact ⟨(y119), (wrap64 ((ji8) + 1)), (by first | rfl | (simp; done) | (simp only [← hji8] <;> (first | rfl | simp)) | (simp [*]; done)), H', ⟨by have := HK1.out; have := HJ2.out; omega⟩, ⟨by (with_reducible repeat (first | apply Kd.R_alloc | apply Kd.R_drewN | apply Kd.R_drew)); exact HO121.out⟩, ⟨by repeat (first | (with_reducible first | exact HB.out | apply below_alloc | apply pw_below_drewN | apply below_drew1) | exact HB.out)⟩⟩
                              · rw [if_neg c34] at H
                                exact absurd H (by simp)
                            · rw [if_neg c32] at H
                              have c32b0 : ((bt a0 (ji8)) == 125) = false := beq_eq_false_iff_ne.mpr c32
                              have c32b1 : ((bt a0 (ji8)) != 125) = true := bne_iff_ne.mpr c32
                              by_cases c36 : 0 ≤ x4_1
                              · rw [if_pos c36] at H
                                have c36b0 : decide (0 ≤ x4_1) = true := decide_eq_true c36
                                clear c36
                                by_cases c37 : x4_1 < (a0.size : Int)
                                · rw [if_pos c37] at H
                                  have c37b0 : decide (x4_1 < (a0.size : Int)) = true := decide_eq_true c37
                                  clear c37
                                  by_cases c39 : x3_1.length < 140737488355328
                                  · rw [if_pos c39] at H
                                    have LMc39 := Aside0.mk c39
                                    clear c39
                                    obtain ⟨y122, hy122⟩ : ∃ y_ : List Int, y_ = (x3_1 ++ [bt a0 x4_1]) := ⟨_, rfl⟩
                                    replace H : (doublestar_unescapeMeta.l0 kj2 a0 y122 ji8) = some r := by first | (rw [hy122]; with_reducible exact H) | (have H2_ := (Option.bind_some _ _).symm.trans H; rw [hy122]; with_reducible exact H2_) | (have H2_ := (Option.bind_some _ _).symm.trans H; with_reducible exact H2_) | with_reducible exact H | (rw [hy122]; exact H) | exact H
                                    have Ny122 := Aside0.mk hy122
                                    clear hy122
                                    have H' := Aside0.mk H
                                    clear H
                                    have p11 : 0 ≤ ((ji8) : Int) := of_decide_eq_true (by first | (with_reducible assumption) | assumption)
                                    have q11 : (ji8) < (a0.size : Int) := of_decide_eq_true (by first | (with_reducible assumption) | assumption)
                                    have hx11 := bt_at a0 (ji8)
                                    replace p11 := eq_true p11
                                    replace q11 := eq_true q11
                                    have p38 : 0 ≤ (x4_1 : Int) := of_decide_eq_true (by first | (with_reducible assumption) | assumption)
                                    have q38 : x4_1 < (a0.size : Int) := of_decide_eq_true (by first | (with_reducible assumption) | assumption)
                                    have hx38 := bt_at a0 x4_1
                                    replace p38 := eq_true p38
                                    replace q38 := eq_true q38
                                    go_wp2_with (first | ((with_reducible refine gate_builtin (b := .append) (xs := #[.tmp 35, .tmp 39]) rfl ?_); (try (refine gate_guard (by rfl) ?_; dsimp only)); at_builtin; refine Kd.R_append (Kd.int .u8) (w0 := w) w.heap.size rfl (.tmp 35) (.tmp 39) 53 5 (.int .u8 0) 1 rfl Try.underlying53 info5 rfl (by decide) (by omega) u3 x3_1 (bt a0 x4_1) [.int .u8 (bt a0 x4_1)] (fun _ => True) (fun _ => False) rfl rfl ?aP (fun _ hk => hk.elim) ?aF ?aO ?aB ?aS ?aL ?_; (case aP => exact rfl); (case aB => exact (by repeat (first | (with_reducible first | exact HB.out | apply below_alloc | apply pw_below_drewN | apply below_drew1) | exact HB.out))); (case aF => exact (fun _ _ => trivial)); (case aO => exact (by (with_reducible repeat (first | apply Kd.R_alloc | apply Kd.R_drewN | apply Kd.R_drew)); exact HO_3.out)); (case aS => exact (below_size (by repeat (first | (with_reducible first | exact HB.out | apply below_alloc | apply pw_below_drewN | apply below_drew1) | exact HB.out)))); (case aL => have := LMc39.out; omega); intro v123 w40 ho hb hg hat; rw [← Ny122.out] at ho; have n0_ := Aside0.mk (hb); have n1_ := Aside0.mk (ho); clear HB; clear HO_3; have HB := n0_; have HO124 := n1_; clear n0_ n1_; clear ho hb hg hat))
                                    go_roundg kj2
                                    case measure => have := HK1.out; have := HJ2.out; omega
                                    case rel => exact ⟨(y122), (ji8), (by first | rfl | (simp; done) | (simp only [← hji8] <;> (first | rfl | simp)) | (simp [*]; done)), H', ⟨by have := HK1.out; have := HJ2.out; omega⟩, ⟨by (with_reducible repeat (first | apply Kd.R_alloc | apply Kd.R_drewN | apply Kd.R_drew)); exact HO124.out⟩, ⟨by repeat (first | (with_reducible first | exact HB.out | apply below_alloc | apply pw_below_drewN | apply below_drew1) | exact HB.out)⟩⟩
                                  · rw [if_neg c39] at H
                                    exact absurd H (by simp)
                                · rw [if_neg c37] at H
                                  exact absurd H (by simp)
                              · rw [if_neg c36] at H
                                exact absurd H (by simp)
                · rw [if_neg c10] at H
                  exact absurd H (by simp)
              · rw [if_neg c9] at H
                exact absurd H (by simp)
            · replace c7 := Bool.eq_false_iff.mpr c7
              subst c7
              have H1 : (if 0 ≤ x4_1 then (if x4_1 < (a0.size : Int) then (if x3_1.length < 140737488355328 then (doublestar_unescapeMeta.l0 kj2 a0 (x3_1 ++ [bt a0 x4_1]) (wrap64 (x4_1 + 1))) else (none)) else (none)) else (none)) = some r := by rw [if_neg (show ¬ (false = true) by decide)] at H; exact H
              clear H
              have H := H1
              clear H1
              by_cases c41 : 0 ≤ x4_1
              · rw [if_pos c41] at H
                have c41b0 : decide (0 ≤ x4_1) = true := decide_eq_true c41
                clear c41
                by_cases c42 : x4_1 < (a0.size : Int)
                · rw [if_pos c42] at H
                  have c42b0 : decide (x4_1 < (a0.size : Int)) = true := decide_eq_true c42
                  clear c42
                  by_cases c44 : x3_1.length < 140737488355328
                  · rw [if_pos c44] at H
                    have LMc44 := Aside0.mk c44
                    clear c44
                    obtain ⟨y125, hy125⟩ : ∃ y_ : List Int, y_ = (x3_1 ++ [bt a0 x4_1]) := ⟨_, rfl⟩
                    replace H : (doublestar_unescapeMeta.l0 kj2 a0 y125 (wrap64 (x4_1 + 1))) = some r := by first | (rw [hy125]; with_reducible exact H) | (have H2_ := (Option.bind_some _ _).symm.trans H; rw [hy125]; with_reducible exact H2_) | (have H2_ := (Option.bind_some _ _).symm.trans H; with_reducible exact H2_) | with_reducible exact H | (rw [hy125]; exact H) | exact H
                    have Ny125 := Aside0.mk hy125
                    clear hy125
                    have H' := Aside0.mk H
                    clear H
                    have p43 : 0 ≤ (x4_1 : Int) := of_decide_eq_true (by first | (with_reducible assumption) | assumption)
                    have q43 : x4_1 < (a0.size : Int) := of_decide_eq_true (by first | (with_reducible assumption) | assumption)
                    have hx43 := bt_at a0 x4_1
                    replace p43 := eq_true p43
                    replace q43 := eq_true q43
                    go_wp2_with (first | ((with_reducible refine gate_builtin (b := .append) (xs := #[.tmp 35, .tmp 39]) rfl ?_); (try (refine gate_guard (by rfl) ?_; dsimp only)); at_builtin; refine Kd.R_append (Kd.int .u8) (w0 := w) w.heap.size rfl (.tmp 35) (.tmp 39) 53 5 (.int .u8 0) 1 rfl Try.underlying53 info5 rfl (by decide) (by omega) u3 x3_1 (bt a0 x4_1) [.int .u8 (bt a0 x4_1)] (fun _ => True) (fun _ => False) rfl rfl ?aP (fun _ hk => hk.elim) ?aF ?aO ?aB ?aS ?aL ?_; (case aP => exact rfl); (case aB => exact (by repeat (first | (with_reducible first | exact HB.out | apply below_alloc | apply pw_below_drewN | apply below_drew1) | exact HB.out))); (case aF => exact (fun _ _ => trivial)); (case aO => exact (by (with_reducible repeat (first | apply Kd.R_alloc | apply Kd.R_drewN | apply Kd.R_drew)); exact HO_3.out)); (case aS => exact (below_size (by repeat (first | (with_reducible first | exact HB.out | apply below_alloc | apply pw_below_drewN | apply below_drew1) | exact HB.out)))); (case aL => have := LMc44.out; omega); intro v126 w45 ho hb hg hat; rw [← Ny125.out] at ho; have n0_ := Aside0.mk (hb); have n1_ := Aside0.mk (ho); clear HB; clear HO_3; have HB := n0_; have HO127 := n1_; clear n0_ n1_; clear ho hb hg hat))
                    go_roundg kj2
                    case measure => have := HK1.out; have := HJ2.out; omega
                    case rel => exact ⟨(y125), (wrap64 (x4_1 + 1)), (by first | rfl | (simp; done) | (simp [*]; done)), H', ⟨by have := HK1.out; have := HJ2.out; omega⟩, ⟨by (with_reducible repeat (first | apply Kd.R_alloc | apply Kd.R_drewN | apply Kd.R_drew)); exact HO127.out⟩, ⟨by repeat (first | (with_reducible first | exact HB.out | apply below_alloc | apply pw_below_drewN | apply below_drew1) | exact HB.out)⟩⟩
                  · rw [if_neg c44] at H
                    exact absurd H (by simp)
                · rw [if_neg c42] at H
                  exact absurd H (by simp)
              · rw [if_neg c41] at H
                exact absurd H (by simp)
      · rw [if_neg c2] at H
        have c2b0 : decide (x4_1 < (a0.size : Int)) = false := decide_eq_false c2
        clear c2
        obtain rfl := Option.some.inj H
        have hcv46 := own_string (P := Try.prog) Try.underlying53 Try.underlying5 Try.underlying9 (Kd.own_of_R HO_3.out)
        go_wp2
        go_ret
        exact ⟨by first | rfl | (simp [errW_none, errW_some] <;> rfl) | (simp [*, errW_none, errW_some] <;> rfl), by repeat (first | (with_reducible first | exact HB.out | apply below_alloc | apply pw_below_drewN | apply below_drew1) | exact HB.out)⟩

end Go.Proofs.Ythkbkiigpflonaa.PFnGlobSplit
