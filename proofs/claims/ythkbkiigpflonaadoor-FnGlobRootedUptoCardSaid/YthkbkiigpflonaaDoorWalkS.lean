/-
  The walks of the program's searches in a pattern's text.
-/
import Derived.Test.YthkbkiigpflonaaDoorWalkA
import Derived.Test.YthkbkiigpflonaaDoorScan
namespace Go.Proofs.YthkbkiigpflonaaDoor
open Go.RowKit

set_option maxHeartbeats 4000000 in
theorem close_any (l : List UInt8) (w : World) (hl : l.length ≤ 1099511627776) :
    Calls Tryd.prog 34 #[.string (Pl.S l), .bool true] w fun e w' => e = .returned (.int .i64 (Pl.place (Pl.closeM l 0 1 0))) ∧ w = w' := by
  have hsz : (Pl.S l).size = l.length := Pl.S_size l
  have hs1 : (Pl.S l).size ≤ l.length := by omega
  have hs2 : l.length ≤ (Pl.S l).size := by omega
  clear hsz
  go_enter Tryd.func34, Tryd.ntmps34
  go_wp2_with fail
  go_loop [5, 7] (fun a i => ∃ (q d : Nat), q ≤ l.length + 2 ∧ i = .int .i64 q ∧ a = .int .i64 d ∧ 1 ≤ d ∧ d ≤ q + 1 ∧ Hid (Pl.closeM (l.drop q) 0 d q = Pl.closeM l 0 1 0)) (fun _ i => l.length + 2 - (intOf i).toNat)
  case atStart => exact ⟨0, 1, by omega, rfl, rfl, by omega, by omega, Lib.hid rfl⟩
  case round =>
    obtain ⟨q, d, hq, rfl, rfl, hd1, hd2, HI⟩ := hrel
    by_cases hlt : q < l.length
    · obtain ⟨c, hc⟩ : ∃ c, l[q]? = some c := ⟨_, List.getElem?_eq_getElem hlt⟩
      have hlt' : q < (Pl.S l).size := by omega
      have hg := Pl.S_get l q c hc
      have HD := Lib.hid (Pl.drop_cons l q c hc)
      clear hc
      by_cases h92 : c.toNat = 92
      · have t92 : ((c.toNat : Int) == 92) = true := by rw [h92]; rfl
        have HN : Hid (Pl.closeM (l.drop (q + 2)) 0 d (q + 2) = Pl.closeM l 0 1 0) := Lib.hid (by
          rw [← HI.out, HD.out, Pl.closeM, if_neg (by decide), if_neg (by decide), if_neg (by decide), if_pos h92, Pl.closeM_esc, List.drop_drop])
        clear h92 HI HD
        go_wp2_with fail
        go_round
        case measure => simp [intOf]; omega
        case rel => exact ⟨q + 2, d, by omega, by go_num, rfl, by omega, by omega, HN⟩
      have t92 : ((c.toNat : Int) == 92) = false := by rw [beq_eq_false_iff_ne]; omega
      by_cases h91 : c.toNat = 91
      · have t91 : ((c.toNat : Int) == 91) = true := by rw [h91]; rfl
        have HN : Hid (Pl.closeM (l.drop (q + 1)) 2 d (q + 1) = Pl.closeM l 0 1 0) := Lib.hid (by
          rw [← HI.out, HD.out, Pl.closeM, if_neg (by decide), if_neg (by decide), if_neg (by decide), if_neg h92, if_pos h91])
        clear h92 h91 HI HD
        go_wp2_with fail
        clear hg t92 t91
        go_loop [7] (fun i => ∃ (j : Nat), q + 1 ≤ j ∧ j ≤ l.length + 1 ∧ i = .int .i64 j ∧ Hid (Pl.closeM (l.drop j) 2 d j = Pl.closeM l 0 1 0)) (fun i => l.length + 1 - (intOf i).toNat)
        case atStart => exact ⟨q + 1, by omega, by omega, by go_num, HN⟩
        case round =>
          obtain ⟨j, hj0, hj, rfl, HJ⟩ := hrel
          clear HN
          by_cases hlj : j < l.length
          · obtain ⟨c, hc⟩ : ∃ c, l[j]? = some c := ⟨_, List.getElem?_eq_getElem hlj⟩
            have hlj' : j < (Pl.S l).size := by omega
            have hg := Pl.S_get l j c hc
            have HD := Lib.hid (Pl.drop_cons l j c hc)
            clear hc
            by_cases h92 : c.toNat = 92
            · have t92 : ((c.toNat : Int) == 92) = true := by rw [h92]; rfl
              have HN : Hid (Pl.closeM (l.drop (j + 2)) 2 d (j + 2) = Pl.closeM l 0 1 0) := Lib.hid (by
                rw [← HJ.out, HD.out, Pl.closeM, if_neg (by decide), if_neg (by decide), if_pos rfl, if_pos h92, Pl.closeM_esc2, List.drop_drop])
              clear h92 HJ HD
              go_wp2_with fail
              go_round
              case measure => simp [intOf]; omega
              case rel => exact ⟨j + 2, by omega, by omega, by go_num, HN⟩
            have t92 : ((c.toNat : Int) == 92) = false := by rw [beq_eq_false_iff_ne]; omega
            by_cases h93 : c.toNat = 93
            · have t93 : ((c.toNat : Int) == 93) = true := by rw [h93]; rfl
              have HN : Hid (Pl.closeM (l.drop (j + 1)) 0 d (j + 1) = Pl.closeM l 0 1 0) := Lib.hid (by
                rw [← HJ.out, HD.out, Pl.closeM, if_neg (by decide), if_neg (by decide), if_pos rfl, if_neg h92, if_pos h93])
              clear h92 h93 HJ HD
              go_wp2_with fail
              go_round
              case measure => simp [intOf]; omega
              case rel => exact ⟨j + 1, d, by omega, by go_num, rfl, by omega, by omega, HN⟩
            · have t93 : ((c.toNat : Int) == 93) = false := by rw [beq_eq_false_iff_ne]; omega
              have HN : Hid (Pl.closeM (l.drop (j + 1)) 2 d (j + 1) = Pl.closeM l 0 1 0) := Lib.hid (by
                rw [← HJ.out, HD.out, Pl.closeM, if_neg (by decide), if_neg (by decide), if_pos rfl, if_neg h92, if_neg h93])
              clear h92 h93 HJ HD
              go_wp2_with fail
              go_round
              case measure => simp [intOf]; omega
              case rel => exact ⟨j + 1, by omega, by omega, by go_num, HN⟩
          · have HE : Hid (∀ j' : Nat, l.length ≤ j' → Pl.closeM (l.drop j') 0 d j' = Pl.closeM l 0 1 0) := Lib.hid (fun j' hj' => by
              rw [← HJ.out, List.drop_eq_nil_of_le hj', List.drop_eq_nil_of_le (by omega), Pl.closeM, Pl.closeM])
            clear HJ
            go_wp2_with fail
            go_round
            case measure => simp [intOf]; omega
            case rel => exact ⟨j + 1, d, by omega, by go_num, rfl, by omega, by omega, Lib.hid (HE.out _ (by omega))⟩
      have t91 : ((c.toNat : Int) == 91) = false := by rw [beq_eq_false_iff_ne]; omega
      by_cases h123 : c.toNat = 123
      · have t123 : ((c.toNat : Int) == 123) = true := by rw [h123]; rfl
        have HN : Hid (Pl.closeM (l.drop (q + 1)) 0 (d + 1) (q + 1) = Pl.closeM l 0 1 0) := Lib.hid (by
          rw [← HI.out, HD.out, Pl.closeM, if_neg (by decide), if_neg (by decide), if_neg (by decide), if_neg h92, if_neg h91, if_pos h123])
        clear h92 h91 h123 HI HD
        go_wp2_with fail
        go_round
        case measure => simp [intOf]; omega
        case rel => exact ⟨q + 1, d + 1, by omega, by go_num, by go_num, by omega, by omega, HN⟩
      have t123 : ((c.toNat : Int) == 123) = false := by rw [beq_eq_false_iff_ne]; omega
      by_cases h125 : c.toNat = 125
      · have t125 : ((c.toNat : Int) == 125) = true := by rw [h125]; rfl
        by_cases hd : d = 1
        · have HN : Hid (Pl.closeM l 0 1 0 = some q) := Lib.hid (by
            rw [← HI.out, HD.out, Pl.closeM, if_neg (by decide), if_neg (by decide), if_neg (by decide), if_neg h92, if_neg h91, if_neg h123, if_pos h125, if_pos hd])
          clear h92 h91 h123 h125 HI HD
          subst hd
          go_wp2_with fail
          go_ret
          exact ⟨by rw [HN.out]; rfl, rfl⟩
        · obtain ⟨d', rfl⟩ : ∃ d', d = d' + 2 := ⟨d - 2, by omega⟩
          have HN : Hid (Pl.closeM (l.drop (q + 1)) 0 (d' + 1) (q + 1) = Pl.closeM l 0 1 0) := Lib.hid (by
            rw [← HI.out, HD.out, Pl.closeM, if_neg (by decide), if_neg (by decide), if_neg (by decide), if_neg h92, if_neg h91, if_neg h123, if_pos h125, if_neg hd]
            rfl)
          have td : ((d' : Int) + 2 - 1 == 0) = false := by rw [beq_eq_false_iff_ne]; omega
          have td' : ((d' : Int) + 1 == 0) = false := by rw [beq_eq_false_iff_ne]; omega
          clear h92 h91 h123 h125 hd HI HD
          go_wp2_with fail
          go_round
          case measure => simp [intOf]; omega
          case rel => exact ⟨q + 1, d' + 1, by omega, by go_num, by go_num, by omega, by omega, HN⟩
      · have t125 : ((c.toNat : Int) == 125) = false := by rw [beq_eq_false_iff_ne]; omega
        have HN : Hid (Pl.closeM (l.drop (q + 1)) 0 d (q + 1) = Pl.closeM l 0 1 0) := Lib.hid (by
          rw [← HI.out, HD.out, Pl.closeM, if_neg (by decide), if_neg (by decide), if_neg (by decide), if_neg h92, if_neg h91, if_neg h123, if_neg h125])
        clear h92 h91 h123 h125 HI HD
        go_wp2_with fail
        go_round
        case measure => simp [intOf]; omega
        case rel => exact ⟨q + 1, d, by omega, by go_num, rfl, by omega, by omega, HN⟩
    · have HN : Hid (Pl.closeM l 0 1 0 = none) := Lib.hid (by
        rw [← HI.out, List.drop_eq_nil_of_le (by omega), Pl.closeM])
      clear HI
      go_wp2_with fail
      go_ret
      exact ⟨by rw [HN.out]; rfl, rfl⟩

set_option maxHeartbeats 4000000 in
theorem next_any (l : List UInt8) (w : World) (hl : l.length ≤ 1099511627776) :
    Calls Tryd.prog 35 #[.string (Pl.S l), .bool true] w fun e w' => e = .returned (.int .i64 (Pl.place (Pl.nextM l 0 1 0))) ∧ w = w' := by
  have hsz : (Pl.S l).size = l.length := Pl.S_size l
  have hs1 : (Pl.S l).size ≤ l.length := by omega
  have hs2 : l.length ≤ (Pl.S l).size := by omega
  clear hsz
  go_enter Tryd.func35, Tryd.ntmps35
  go_wp2_with fail
  go_loop [5, 7] (fun a i => ∃ (q : Nat) (d : Int), q ≤ l.length + 2 ∧ i = .int .i64 q ∧ a = .int .i64 d ∧ -(q : Int) ≤ d ∧ d ≤ q + 1 ∧ Hid (Pl.nextM (l.drop q) 0 d q = Pl.nextM l 0 1 0)) (fun _ i => l.length + 2 - (intOf i).toNat)
  case atStart => exact ⟨0, 1, by omega, rfl, rfl, by omega, by omega, Lib.hid rfl⟩
  case round =>
    obtain ⟨q, d, hq, rfl, rfl, hd1, hd2, HI⟩ := hrel
    by_cases hlt : q < l.length
    · obtain ⟨c, hc⟩ : ∃ c, l[q]? = some c := ⟨_, List.getElem?_eq_getElem hlt⟩
      have hlt' : q < (Pl.S l).size := by omega
      have hg := Pl.S_get l q c hc
      have HD := Lib.hid (Pl.drop_cons l q c hc)
      clear hc
      by_cases h92 : c.toNat = 92
      · have t92 : ((c.toNat : Int) == 92) = true := by rw [h92]; rfl
        have HN : Hid (Pl.nextM (l.drop (q + 2)) 0 d (q + 2) = Pl.nextM l 0 1 0) := Lib.hid (by
          rw [← HI.out, HD.out, Pl.nextM, if_neg (by decide), if_neg (by decide), if_neg (by decide), if_pos h92, Pl.nextM_esc, List.drop_drop])
        clear h92 HI HD
        go_wp2_with fail
        go_round
        case measure => simp [intOf]; omega
        case rel => exact ⟨q + 2, d, by omega, by go_num, rfl, by omega, by omega, HN⟩
      have t92 : ((c.toNat : Int) == 92) = false := by rw [beq_eq_false_iff_ne]; omega
      by_cases h91 : c.toNat = 91
      · have t91 : ((c.toNat : Int) == 91) = true := by rw [h91]; rfl
        have HN : Hid (Pl.nextM (l.drop (q + 1)) 2 d (q + 1) = Pl.nextM l 0 1 0) := Lib.hid (by
          rw [← HI.out, HD.out, Pl.nextM, if_neg (by decide), if_neg (by decide), if_neg (by decide), if_neg h92, if_pos h91])
        clear h92 h91 HI HD
        go_wp2_with fail
        clear hg t92 t91
        go_loop [7] (fun i => ∃ (j : Nat), q + 1 ≤ j ∧ j ≤ l.length + 1 ∧ i = .int .i64 j ∧ Hid (Pl.nextM (l.drop j) 2 d j = Pl.nextM l 0 1 0)) (fun i => l.length + 1 - (intOf i).toNat)
        case atStart => exact ⟨q + 1, by omega, by omega, by go_num, HN⟩
        case round =>
          obtain ⟨j, hj0, hj, rfl, HJ⟩ := hrel
          clear HN
          by_cases hlj : j < l.length
          · obtain ⟨c, hc⟩ : ∃ c, l[j]? = some c := ⟨_, List.getElem?_eq_getElem hlj⟩
            have hlj' : j < (Pl.S l).size := by omega
            have hg := Pl.S_get l j c hc
            have HD := Lib.hid (Pl.drop_cons l j c hc)
            clear hc
            by_cases h92 : c.toNat = 92
            · have t92 : ((c.toNat : Int) == 92) = true := by rw [h92]; rfl
              have HN : Hid (Pl.nextM (l.drop (j + 2)) 2 d (j + 2) = Pl.nextM l 0 1 0) := Lib.hid (by
                rw [← HJ.out, HD.out, Pl.nextM, if_neg (by decide), if_neg (by decide), if_pos rfl, if_pos h92, Pl.nextM_esc2, List.drop_drop])
              clear h92 HJ HD
              go_wp2_with fail
              go_round
              case measure => simp [intOf]; omega
              case rel => exact ⟨j + 2, by omega, by omega, by go_num, HN⟩
            have t92 : ((c.toNat : Int) == 92) = false := by rw [beq_eq_false_iff_ne]; omega
            by_cases h93 : c.toNat = 93
            · have t93 : ((c.toNat : Int) == 93) = true := by rw [h93]; rfl
              have HN : Hid (Pl.nextM (l.drop (j + 1)) 0 d (j + 1) = Pl.nextM l 0 1 0) := Lib.hid (by
                rw [← HJ.out, HD.out, Pl.nextM, if_neg (by decide), if_neg (by decide), if_pos rfl, if_neg h92, if_pos h93])
              clear h92 h93 HJ HD
              go_wp2_with fail
              go_round
              case measure => simp [intOf]; omega
              case rel => exact ⟨j + 1, d, by omega, by go_num, rfl, by omega, by omega, HN⟩
            · have t93 : ((c.toNat : Int) == 93) = false := by rw [beq_eq_false_iff_ne]; omega
              have HN : Hid (Pl.nextM (l.drop (j + 1)) 2 d (j + 1) = Pl.nextM l 0 1 0) := Lib.hid (by
                rw [← HJ.out, HD.out, Pl.nextM, if_neg (by decide), if_neg (by decide), if_pos rfl, if_neg h92, if_neg h93])
              clear h92 h93 HJ HD
              go_wp2_with fail
              go_round
              case measure => simp [intOf]; omega
              case rel => exact ⟨j + 1, by omega, by omega, by go_num, HN⟩
          · have HE : Hid (∀ j' : Nat, l.length ≤ j' → Pl.nextM (l.drop j') 0 d j' = Pl.nextM l 0 1 0) := Lib.hid (fun j' hj' => by
              rw [← HJ.out, List.drop_eq_nil_of_le hj', List.drop_eq_nil_of_le (by omega), Pl.nextM, Pl.nextM])
            clear HJ
            go_wp2_with fail
            go_round
            case measure => simp [intOf]; omega
            case rel => exact ⟨j + 1, d, by omega, by go_num, rfl, by omega, by omega, Lib.hid (HE.out _ (by omega))⟩
      have t91 : ((c.toNat : Int) == 91) = false := by rw [beq_eq_false_iff_ne]; omega
      by_cases h123 : c.toNat = 123
      · have t123 : ((c.toNat : Int) == 123) = true := by rw [h123]; rfl
        have HN : Hid (Pl.nextM (l.drop (q + 1)) 0 (d + 1) (q + 1) = Pl.nextM l 0 1 0) := Lib.hid (by
          rw [← HI.out, HD.out, Pl.nextM, if_neg (by decide), if_neg (by decide), if_neg (by decide), if_neg h92, if_neg h91, if_pos h123])
        clear h92 h91 h123 HI HD
        go_wp2_with fail
        go_round
        case measure => simp [intOf]; omega
        case rel => exact ⟨q + 1, d + 1, by omega, by go_num, by go_num, by omega, by omega, HN⟩
      have t123 : ((c.toNat : Int) == 123) = false := by rw [beq_eq_false_iff_ne]; omega
      by_cases h125 : c.toNat = 125
      · have t125 : ((c.toNat : Int) == 125) = true := by rw [h125]; rfl
        have HN : Hid (Pl.nextM (l.drop (q + 1)) 0 (d - 1) (q + 1) = Pl.nextM l 0 1 0) := Lib.hid (by
          rw [← HI.out, HD.out, Pl.nextM, if_neg (by decide), if_neg (by decide), if_neg (by decide), if_neg h92, if_neg h91, if_neg h123, if_pos h125])
        clear h92 h91 h123 h125 HI HD
        go_wp2_with fail
        go_round
        case measure => simp [intOf]; omega
        case rel => exact ⟨q + 1, d - 1, by omega, by go_num, rfl, by omega, by omega, HN⟩
      have t125 : ((c.toNat : Int) == 125) = false := by rw [beq_eq_false_iff_ne]; omega
      by_cases h44 : c.toNat = 44
      · have t44 : ((c.toNat : Int) == 44) = true := by rw [h44]; rfl
        by_cases hd : d = 1
        · have HN : Hid (Pl.nextM l 0 1 0 = some q) := Lib.hid (by
            rw [← HI.out, HD.out, Pl.nextM, if_neg (by decide), if_neg (by decide), if_neg (by decide), if_neg h92, if_neg h91, if_neg h123, if_neg h125, if_pos ⟨h44, hd⟩])
          have td : (d == 1) = true := beq_iff_eq.2 hd
          clear h92 h91 h123 h125 h44 hd HI HD
          go_wp2_with fail
          go_ret
          exact ⟨by rw [HN.out]; rfl, rfl⟩
        · have HN : Hid (Pl.nextM (l.drop (q + 1)) 0 d (q + 1) = Pl.nextM l 0 1 0) := Lib.hid (by
            rw [← HI.out, HD.out, Pl.nextM, if_neg (by decide), if_neg (by decide), if_neg (by decide), if_neg h92, if_neg h91, if_neg h123, if_neg h125, if_neg (fun h => hd h.2)])
          have td : (d == 1) = false := beq_eq_false_iff_ne.2 hd
          clear h92 h91 h123 h125 h44 hd HI HD
          go_wp2_with fail
          go_round
          case measure => simp [intOf]; omega
          case rel => exact ⟨q + 1, d, by omega, by go_num, rfl, by omega, by omega, HN⟩
      · have t44 : ((c.toNat : Int) == 44) = false := by rw [beq_eq_false_iff_ne]; omega
        have HN : Hid (Pl.nextM (l.drop (q + 1)) 0 d (q + 1) = Pl.nextM l 0 1 0) := Lib.hid (by
          rw [← HI.out, HD.out, Pl.nextM, if_neg (by decide), if_neg (by decide), if_neg (by decide), if_neg h92, if_neg h91, if_neg h123, if_neg h125, if_neg (fun h => h44 h.1)])
        clear h92 h91 h123 h125 h44 HI HD
        go_wp2_with fail
        go_round
        case measure => simp [intOf]; omega
        case rel => exact ⟨q + 1, d, by omega, by go_num, rfl, by omega, by omega, HN⟩
    · have HN : Hid (Pl.nextM l 0 1 0 = none) := Lib.hid (by
        rw [← HI.out, List.drop_eq_nil_of_le (by omega), Pl.nextM])
      clear HI
      go_wp2_with fail
      go_ret
      exact ⟨by rw [HN.out]; rfl, rfl⟩
end Go.Proofs.YthkbkiigpflonaaDoor
