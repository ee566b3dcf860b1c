/-
  The walk of the program's check of a pattern.
-/
import Derived.Test.YthkbkiigpflonaaDoorWalkA
import Derived.Test.YthkbkiigpflonaaDoorScan
import Derived.Deep.LoopGhost
namespace Go.Proofs.YthkbkiigpflonaaDoor
open Go.RowKit

theorem valid_esc (r : List UInt8) (d : Nat) (c : UInt8) : Pl.validM (c :: r) 1 d = Pl.validM r 0 d := by rw [Pl.validM, if_pos rfl]
theorem valid_esc2 (r : List UInt8) (d : Nat) (c : UInt8) : Pl.validM (c :: r) 3 d = Pl.validM r 2 d := by rw [Pl.validM, if_neg (by decide), if_pos rfl]
theorem valid_0 (r : List UInt8) (d : Nat) (c : UInt8) : Pl.validM (c :: r) 0 d = if c.toNat = 92 then Pl.validM r 1 d else if c.toNat = 91 then Pl.validM r 4 d else if c.toNat = 123 then Pl.validM r 0 (d + 1) else if c.toNat = 125 then (if d = 0 then false else Pl.validM r 0 (d - 1)) else Pl.validM r 0 d := by
  rw [Pl.validM]
  rfl
theorem valid_2 (r : List UInt8) (d : Nat) (c : UInt8) : Pl.validM (c :: r) 2 d = if c.toNat = 92 then Pl.validM r 3 d else if c.toNat = 93 then Pl.validM r 0 d else Pl.validM r 2 d := by
  rw [Pl.validM]
  rfl
theorem valid_4 (r : List UInt8) (d : Nat) (c : UInt8) (h1 : c.toNat ≠ 94) (h2 : c.toNat ≠ 33) (h3 : c.toNat ≠ 93) : Pl.validM (c :: r) 4 d = Pl.validM (c :: r) 2 d := by
  rw [valid_2, if_neg h3]
  rw [Pl.validM]
  show (if c.toNat = 94 then _ else if c.toNat = 33 then _ else if c.toNat = 93 then _ else _) = _
  rw [if_neg h1, if_neg h2, if_neg h3]
theorem valid_4not (r : List UInt8) (d : Nat) (c : UInt8) (h : c.toNat = 94 ∨ c.toNat = 33) : Pl.validM (c :: r) 4 d = Pl.validM r 5 d := by
  rw [Pl.validM]
  show (if c.toNat = 94 then _ else if c.toNat = 33 then _ else _) = _
  by_cases h1 : c.toNat = 94
  · rw [if_pos h1]
  · rw [if_neg h1, if_pos (h.resolve_left h1)]
theorem valid_4no (r : List UInt8) (d : Nat) (c : UInt8) (h : c.toNat = 93) : Pl.validM (c :: r) 4 d = false := by
  rw [Pl.validM]
  show (if c.toNat = 94 then _ else if c.toNat = 33 then _ else if c.toNat = 93 then _ else _) = _
  rw [if_neg (by omega), if_neg (by omega), if_pos h]
theorem valid_5 (r : List UInt8) (d : Nat) (c : UInt8) (h3 : c.toNat ≠ 93) : Pl.validM (c :: r) 5 d = Pl.validM (c :: r) 2 d := by
  rw [valid_2, if_neg h3]
  rw [Pl.validM]
  show (if c.toNat = 93 then _ else _) = _
  rw [if_neg h3]
theorem valid_5no (r : List UInt8) (d : Nat) (c : UInt8) (h : c.toNat = 93) : Pl.validM (c :: r) 5 d = false := by
  rw [Pl.validM]
  show (if c.toNat = 93 then _ else _) = _
  rw [if_pos h]
theorem valid_nil (m d : Nat) (h : m ≠ 0) : Pl.validM [] m d = false := by
  rw [Pl.validM]
  simp [h]

set_option maxHeartbeats 8000000 in
set_option maxRecDepth 100000 in
theorem valid_any (l : List UInt8) (w : World) (hl : l.length ≤ 1099511627776) :
    Calls Tryd.prog 36 #[.string (Pl.S l), .int .i32 47] w fun e w' => e = .returned (.bool (Pl.validM l 0 0)) ∧ w = w' := by
  have hsz : (Pl.S l).size = l.length := Pl.S_size l
  have hs1 : (Pl.S l).size ≤ l.length := by omega
  have hs2 : l.length ≤ (Pl.S l).size := by omega
  clear hsz
  go_enter Tryd.func36, Tryd.ntmps36
  go_wp2
  go_step3
  go_wp2
  go_step3
  go_wp2
  go_loopg [5, 7] (l.length + 2) (fun k a i wr => ∃ (q d : Nat), k = l.length + 2 - q ∧ q ≤ l.length + 1 ∧ i = .int .i64 q ∧ a = .int .i64 d ∧ d ≤ q ∧ wr = w ∧ Hid (Pl.validM (l.drop q) 0 d = Pl.validM l 0 0))
  case atStart => exact ⟨0, 0, by omega, by omega, rfl, rfl, by omega, rfl, Lib.hid rfl⟩
  case round =>
    obtain ⟨q, d, hk, hq, rfl, rfl, hd, rfl, HI⟩ := hrel
    have HK := Lib.hid hk
    clear hk
    by_cases hlt : q < l.length
    · obtain ⟨c, hc⟩ : ∃ c, l[q]? = some c := ⟨_, List.getElem?_eq_getElem hlt⟩
      have hlt' : q < (Pl.S l).size := by omega
      have hg := Pl.S_get l q c hc
      have HD := Lib.hid (Pl.drop_cons l q c hc)
      clear hc
      have HV := Lib.hid (valid_0 (l.drop (q + 1)) d c)
      by_cases h92 : c.toNat = 92
      · have t92 : ((c.toNat : Int) == 92) = true := by rw [h92]; rfl
        rcases Nat.lt_or_ge (q + 1) l.length with hq2 | hq2
        · have HN : Hid (Pl.validM (l.drop (q + 2)) 0 d = Pl.validM l 0 0) := Lib.hid (by
            rw [← HI.out, HD.out, HV.out, if_pos h92, List.drop_eq_getElem_cons hq2, valid_esc])
          clear h92 HI HD HV
          go_wp2
          go_roundg (l.length + 2 - (q + 2))
          case measure => have := HK.out; omega
          case rel => exact ⟨q + 2, d, rfl, by omega, by go_num, rfl, by omega, rfl, HN⟩
        · have HN : Hid (Pl.validM l 0 0 = false) := Lib.hid (by
            rw [← HI.out, HD.out, HV.out, if_pos h92, List.drop_eq_nil_of_le hq2, valid_nil _ _ (by decide)])
          clear h92 HI HD HV
          go_wp2
          try rw [Exit.noGoto_ret]
          go_ret
          exact ⟨by rw [HN.out]; rfl, rfl⟩
      have t92 : ((c.toNat : Int) == 92) = false := by rw [beq_eq_false_iff_ne]; omega
      by_cases h91 : c.toNat = 91
      · have t91 : ((c.toNat : Int) == 91) = true := by rw [h91]; rfl
        have HW : Hid (Pl.validM (l.drop (q + 1)) 4 d = Pl.validM l 0 0) := Lib.hid (by rw [← HI.out, HD.out, HV.out, if_neg h92, if_pos h91])
        clear h91 h92 HI HD HV
        rcases Nat.lt_or_ge (q + 1) l.length with hq2 | hq2
        · have hq2' : q + 1 < (Pl.S l).size := by omega
          obtain ⟨c1, hc1⟩ : ∃ c1, l[q + 1]? = some c1 := ⟨_, List.getElem?_eq_getElem hq2⟩
          have hg1 := Pl.S_get l (q + 1) c1 hc1
          have HD1 := Lib.hid (Pl.drop_cons l (q + 1) c1 hc1)
          clear hc1
          by_cases hnot : c1.toNat = 94 ∨ c1.toNat = 33
          · have HX : Hid (Pl.validM (l.drop (q + 2)) 5 d = Pl.validM l 0 0) := Lib.hid (by rw [← HW.out, HD1.out, valid_4not _ _ _ hnot])
            have hnot' : ((c1.toNat : Int) == 94) = true ∨ ((c1.toNat : Int) == 94) = false ∧ ((c1.toNat : Int) == 33) = true := by
              rcases hnot with h | h
              · left; rw [h]; rfl
              · right; rw [h]; exact ⟨rfl, rfl⟩
            clear hnot HW HD1
            rcases Nat.lt_or_ge (q + 2) l.length with hq3 | hq3
            · have hq3' : q + 2 < (Pl.S l).size := by omega
              obtain ⟨c2, hc2⟩ : ∃ c2, l[q + 2]? = some c2 := ⟨_, List.getElem?_eq_getElem hq3⟩
              have hg2 := Pl.S_get l (q + 2) c2 hc2
              have HD2 := Lib.hid (Pl.drop_cons l (q + 2) c2 hc2)
              clear hc2
              by_cases h93 : c2.toNat = 93
              · have t93 : ((c2.toNat : Int) == 93) = true := by rw [h93]; rfl
                have HN : Hid (Pl.validM l 0 0 = false) := Lib.hid (by rw [← HX.out, HD2.out, valid_5no _ _ _ h93])
                clear h93 HX HD2
                rcases hnot' with hn | ⟨hn1, hn2⟩
                all_goals
                  go_wp2
                  try rw [Exit.noGoto_ret]
                  go_ret
                  exact ⟨by rw [HN.out]; rfl, rfl⟩
              · have t93 : ((c2.toNat : Int) == 93) = false := by rw [beq_eq_false_iff_ne]; omega
                have HS : Hid (Pl.validM (l.drop (q + 2)) 2 d = Pl.validM l 0 0) := Lib.hid (by rw [← HX.out, HD2.out, valid_5 _ _ _ h93])
                clear h93 HX HD2
                rcases hnot' with hn | ⟨hn1, hn2⟩
                all_goals
                  go_wp2
                  go_loopg [7] (l.length + 2 - (q + 2)) (fun k i wr' => ∃ (j : Nat), k = l.length + 2 - j ∧ q + 2 ≤ j ∧ j ≤ l.length + 1 ∧ i = .int .i64 j ∧ wr' = wr ∧ Hid (Pl.validM (l.drop j) 2 d = Pl.validM l 0 0))
                  case atStart => exact ⟨q + 2, rfl, by omega, by omega, by go_num, rfl, HS⟩
                  case round =>
                    obtain ⟨j, hkj, hj0, hj, rfl, rfl, HJ⟩ := hrel
                    have HKJ := Lib.hid hkj
                    clear HS hkj
                    by_cases hlj : j < l.length
                    · obtain ⟨e, he⟩ : ∃ e, l[j]? = some e := ⟨_, List.getElem?_eq_getElem hlj⟩
                      have hlj' : j < (Pl.S l).size := by omega
                      have hgj := Pl.S_get l j e he
                      have HDJ := Lib.hid (Pl.drop_cons l j e he)
                      have HVJ := Lib.hid (valid_2 (l.drop (j + 1)) d e)
                      clear he
                      by_cases e92 : e.toNat = 92
                      · have v92 : ((e.toNat : Int) == 92) = true := by rw [e92]; rfl
                        have HN : Hid (Pl.validM (l.drop (j + 2)) 2 d = Pl.validM l 0 0 ∨ l.length ≤ j + 1 ∧ Pl.validM l 0 0 = false) := Lib.hid (by
                          rw [← HJ.out, HDJ.out, HVJ.out, if_pos e92]
                          rcases Nat.lt_or_ge (j + 1) l.length with h | h
                          · left; rw [List.drop_eq_getElem_cons h, valid_esc2]
                          · right; exact ⟨h, by rw [List.drop_eq_nil_of_le h, valid_nil _ _ (by decide)]⟩)
                        have HN2 : Hid (Pl.validM (l.drop (j + 2)) 2 d = Pl.validM l 0 0) := Lib.hid (by
                          rcases HN.out with h | ⟨h, h2⟩
                          · exact h
                          · rw [h2, List.drop_eq_nil_of_le (by omega), valid_nil _ _ (by decide)])
                        clear e92 HJ HDJ HVJ HN
                        go_wp2
                        go_roundg (l.length + 2 - (j + 2))
                        case measure => have := HKJ.out; omega
                        case rel => exact ⟨j + 2, rfl, by omega, by omega, by go_num, rfl, HN2⟩
                      have v92 : ((e.toNat : Int) == 92) = false := by rw [beq_eq_false_iff_ne]; omega
                      by_cases e93 : e.toNat = 93
                      · have v93 : ((e.toNat : Int) == 93) = true := by rw [e93]; rfl
                        have HN : Hid (Pl.validM (l.drop (j + 1)) 0 d = Pl.validM l 0 0) := Lib.hid (by rw [← HJ.out, HDJ.out, HVJ.out, if_neg e92, if_pos e93])
                        clear e92 e93 HJ HDJ HVJ
                        go_wp2
                        go_roundg (l.length + 2 - (j + 1))
                        case measure => have := HK.out; omega
                        case rel => exact ⟨j + 1, d, rfl, by omega, by go_num, rfl, by omega, rfl, HN⟩
                      · have v93 : ((e.toNat : Int) == 93) = false := by rw [beq_eq_false_iff_ne]; omega
                        have HN : Hid (Pl.validM (l.drop (j + 1)) 2 d = Pl.validM l 0 0) := Lib.hid (by rw [← HJ.out, HDJ.out, HVJ.out, if_neg e92, if_neg e93])
                        clear e92 e93 HJ HDJ HVJ
                        go_wp2
                        go_roundg (l.length + 2 - (j + 1))
                        case measure => have := HKJ.out; omega
                        case rel => exact ⟨j + 1, rfl, by omega, by omega, by go_num, rfl, HN⟩
                    · have HN : Hid (Pl.validM l 0 0 = false) := Lib.hid (by rw [← HJ.out, List.drop_eq_nil_of_le (by omega), valid_nil _ _ (by decide)])
                      clear HJ
                      go_wp2
                      try rw [Exit.noGoto_ret]
                      go_ret
                      exact ⟨by rw [HN.out]; rfl, rfl⟩
            · have HN : Hid (Pl.validM l 0 0 = false) := Lib.hid (by rw [← HX.out, List.drop_eq_nil_of_le hq3, valid_nil _ _ (by decide)])
              clear HX
              rcases hnot' with hn | ⟨hn1, hn2⟩
              all_goals
                go_wp2
                try rw [Exit.noGoto_ret]
                go_ret
                exact ⟨by rw [HN.out]; rfl, rfl⟩
          · have u94 : ((c1.toNat : Int) == 94) = false := by rw [beq_eq_false_iff_ne]; omega
            have u33 : ((c1.toNat : Int) == 33) = false := by rw [beq_eq_false_iff_ne]; omega
            by_cases h93 : c1.toNat = 93
            · have t93 : ((c1.toNat : Int) == 93) = true := by rw [h93]; rfl
              have HN : Hid (Pl.validM l 0 0 = false) := Lib.hid (by rw [← HW.out, HD1.out, valid_4no _ _ _ h93])
              clear h93 hnot HW HD1
              go_wp2
              try rw [Exit.noGoto_ret]
              go_ret
              exact ⟨by rw [HN.out]; rfl, rfl⟩
            · have t93 : ((c1.toNat : Int) == 93) = false := by rw [beq_eq_false_iff_ne]; omega
              have HS : Hid (Pl.validM (l.drop (q + 1)) 2 d = Pl.validM l 0 0) := Lib.hid (by rw [← HW.out, HD1.out, valid_4 _ _ _ (by omega) (by omega) h93])
              clear h93 hnot HW HD1
              go_wp2
              go_loopg [7] (l.length + 2 - (q + 1)) (fun k i wr' => ∃ (j : Nat), k = l.length + 2 - j ∧ q + 1 ≤ j ∧ j ≤ l.length + 1 ∧ i = .int .i64 j ∧ wr' = wr ∧ Hid (Pl.validM (l.drop j) 2 d = Pl.validM l 0 0))
              case atStart => exact ⟨q + 1, rfl, by omega, by omega, by go_num, rfl, HS⟩
              case round =>
                obtain ⟨j, hkj, hj0, hj, rfl, rfl, HJ⟩ := hrel
                have HKJ := Lib.hid hkj
                clear HS hkj
                by_cases hlj : j < l.length
                · obtain ⟨e, he⟩ : ∃ e, l[j]? = some e := ⟨_, List.getElem?_eq_getElem hlj⟩
                  have hlj' : j < (Pl.S l).size := by omega
                  have hgj := Pl.S_get l j e he
                  have HDJ := Lib.hid (Pl.drop_cons l j e he)
                  have HVJ := Lib.hid (valid_2 (l.drop (j + 1)) d e)
                  clear he
                  by_cases e92 : e.toNat = 92
                  · have v92 : ((e.toNat : Int) == 92) = true := by rw [e92]; rfl
                    have HN : Hid (Pl.validM (l.drop (j + 2)) 2 d = Pl.validM l 0 0 ∨ l.length ≤ j + 1 ∧ Pl.validM l 0 0 = false) := Lib.hid (by
                      rw [← HJ.out, HDJ.out, HVJ.out, if_pos e92]
                      rcases Nat.lt_or_ge (j + 1) l.length with h | h
                      · left; rw [List.drop_eq_getElem_cons h, valid_esc2]
                      · right; exact ⟨h, by rw [List.drop_eq_nil_of_le h, valid_nil _ _ (by decide)]⟩)
                    have HN2 : Hid (Pl.validM (l.drop (j + 2)) 2 d = Pl.validM l 0 0) := Lib.hid (by
                      rcases HN.out with h | ⟨h, h2⟩
                      · exact h
                      · rw [h2, List.drop_eq_nil_of_le (by omega), valid_nil _ _ (by decide)])
                    clear e92 HJ HDJ HVJ HN
                    go_wp2
                    go_roundg (l.length + 2 - (j + 2))
                    case measure => have := HKJ.out; omega
                    case rel => exact ⟨j + 2, rfl, by omega, by omega, by go_num, rfl, HN2⟩
                  have v92 : ((e.toNat : Int) == 92) = false := by rw [beq_eq_false_iff_ne]; omega
                  by_cases e93 : e.toNat = 93
                  · have v93 : ((e.toNat : Int) == 93) = true := by rw [e93]; rfl
                    have HN : Hid (Pl.validM (l.drop (j + 1)) 0 d = Pl.validM l 0 0) := Lib.hid (by rw [← HJ.out, HDJ.out, HVJ.out, if_neg e92, if_pos e93])
                    clear e92 e93 HJ HDJ HVJ
                    go_wp2
                    go_roundg (l.length + 2 - (j + 1))
                    case measure => have := HK.out; omega
                    case rel => exact ⟨j + 1, d, rfl, by omega, by go_num, rfl, by omega, rfl, HN⟩
                  · have v93 : ((e.toNat : Int) == 93) = false := by rw [beq_eq_false_iff_ne]; omega
                    have HN : Hid (Pl.validM (l.drop (j + 1)) 2 d = Pl.validM l 0 0) := Lib.hid (by rw [← HJ.out, HDJ.out, HVJ.out, if_neg e92, if_neg e93])
                    clear e92 e93 HJ HDJ HVJ
                    go_wp2
                    go_roundg (l.length + 2 - (j + 1))
                    case measure => have := HKJ.out; omega
                    case rel => exact ⟨j + 1, rfl, by omega, by omega, by go_num, rfl, HN⟩
                · have HN : Hid (Pl.validM l 0 0 = false) := Lib.hid (by rw [← HJ.out, List.drop_eq_nil_of_le (by omega), valid_nil _ _ (by decide)])
                  clear HJ
                  go_wp2
                  try rw [Exit.noGoto_ret]
                  go_ret
                  exact ⟨by rw [HN.out]; rfl, rfl⟩
        · have HN : Hid (Pl.validM l 0 0 = false) := Lib.hid (by rw [← HW.out, List.drop_eq_nil_of_le hq2, valid_nil _ _ (by decide)])
          clear HW
          go_wp2
          try rw [Exit.noGoto_ret]
          go_ret
          exact ⟨by rw [HN.out]; rfl, rfl⟩
      have t91 : ((c.toNat : Int) == 91) = false := by rw [beq_eq_false_iff_ne]; omega
      by_cases h123 : c.toNat = 123
      · have t123 : ((c.toNat : Int) == 123) = true := by rw [h123]; rfl
        have HN : Hid (Pl.validM (l.drop (q + 1)) 0 (d + 1) = Pl.validM l 0 0) := Lib.hid (by
          rw [← HI.out, HD.out, HV.out, if_neg h92, if_neg h91, if_pos h123])
        clear h92 h91 h123 HI HD HV
        go_wp2
        go_roundg (l.length + 2 - (q + 1))
        case measure => have := HK.out; omega
        case rel => exact ⟨q + 1, d + 1, rfl, by omega, by go_num, by go_num, by omega, rfl, HN⟩
      have t123 : ((c.toNat : Int) == 123) = false := by rw [beq_eq_false_iff_ne]; omega
      by_cases h125 : c.toNat = 125
      · have t125 : ((c.toNat : Int) == 125) = true := by rw [h125]; rfl
        by_cases hd0 : d = 0
        · have HN : Hid (Pl.validM l 0 0 = false) := Lib.hid (by
            rw [← HI.out, HD.out, HV.out, if_neg h92, if_neg h91, if_neg h123, if_pos h125, if_pos hd0])
          subst hd0
          clear h92 h91 h123 h125 HI HD HV
          go_wp2
          try rw [Exit.noGoto_ret]
          go_ret
          exact ⟨by rw [HN.out]; rfl, rfl⟩
        · obtain ⟨d', rfl⟩ : ∃ d', d = d' + 1 := ⟨d - 1, by omega⟩
          have HN : Hid (Pl.validM (l.drop (q + 1)) 0 d' = Pl.validM l 0 0) := Lib.hid (by
            rw [← HI.out, HD.out, HV.out, if_neg h92, if_neg h91, if_neg h123, if_pos h125, if_neg hd0]
            rfl)
          have td : (((d' : Int) + 1) == 0) = false := by rw [beq_eq_false_iff_ne]; omega
          clear h92 h91 h123 h125 HI HD HV hd0
          go_wp2
          go_roundg (l.length + 2 - (q + 1))
          case measure => have := HK.out; omega
          case rel => exact ⟨q + 1, d', rfl, by omega, by go_num, by go_num, by omega, rfl, HN⟩
      · have t125 : ((c.toNat : Int) == 125) = false := by rw [beq_eq_false_iff_ne]; omega
        have HN : Hid (Pl.validM (l.drop (q + 1)) 0 d = Pl.validM l 0 0) := Lib.hid (by
          rw [← HI.out, HD.out, HV.out, if_neg h92, if_neg h91, if_neg h123, if_neg h125])
        clear h92 h91 h123 h125 HI HD HV
        go_wp2
        go_roundg (l.length + 2 - (q + 1))
        case measure => have := HK.out; omega
        case rel => exact ⟨q + 1, d, rfl, by omega, by go_num, rfl, by omega, rfl, HN⟩
    · have HN : Hid (Pl.validM l 0 0 = (d == 0)) := Lib.hid (by
        rw [← HI.out, List.drop_eq_nil_of_le (by omega), Pl.validM]
        rfl)
      have hdd : Hid (((d : Int) == 0) = (d == 0)) := Lib.hid (by rw [Bool.eq_iff_iff]; simp)
      clear HI
      go_wp2
      try rw [Exit.noGoto_ret]
      go_ret
      exact ⟨by rw [HN.out, ← hdd.out]; rfl, rfl⟩
end Go.Proofs.YthkbkiigpflonaaDoor
