/-
  The walks of the program's small looks at letters, and of its search of a class's end.
-/
import Derived.Test.YthkbkiigpflonaaDoorWalkA
import Derived.Test.YthkbkiigpflonaaDoorMatch
namespace Go.Proofs.YthkbkiigpflonaaDoor
open Go.RowKit

theorem rune_yes (a b : Int) (c : Bool) (w : World) (h : a = b) : Calls Tryd.prog 42 #[.int .i32 a, .int .i32 b, .bool c] w fun e w' => e = .returned (.bool true) ∧ w = w' := by
  have t : (a == b) = true := by simp [h]
  clear h
  go_enter Tryd.func42, Tryd.ntmps42
  go_wp2_with fail
  go_ret
  exact ⟨rfl, rfl⟩
theorem rune_no (a b : Int) (c : Bool) (w : World) (h : a ≠ b) : Calls Tryd.prog 42 #[.int .i32 a, .int .i32 b, .bool c] w fun e w' => e = .returned (.bool false) ∧ w = w' := by
  have t : (a == b) = false := by simp [h]
  clear h
  go_enter Tryd.func42, Tryd.ntmps42
  go_wp2_with fail
  go_ret
  exact ⟨rfl, rfl⟩
theorem range_yes (a b r : Int) (c : Bool) (w : World) (h1 : a ≤ r) (h2 : r ≤ b) : Calls Tryd.prog 41 #[.int .i32 a, .int .i32 b, .int .i32 r, .bool c] w fun e w' => e = .returned (.bool true) ∧ w = w' := by
  go_enter Tryd.func41, Tryd.ntmps41
  go_wp2_with fail
  go_ret
  exact ⟨rfl, rfl⟩
theorem range_no (a b r : Int) (c : Bool) (w : World) (h : ¬ (a ≤ r ∧ r ≤ b)) : Calls Tryd.prog 41 #[.int .i32 a, .int .i32 b, .int .i32 r, .bool c] w fun e w' => e = .returned (.bool false) ∧ w = w' := by
  by_cases h1 : a ≤ r
  · have h2 : b < r := by omega
    have t : decide (r ≤ b) = false := by simpa using h2
    clear h
    go_enter Tryd.func41, Tryd.ntmps41
    go_wp2_with fail
    go_ret
    exact ⟨rfl, rfl⟩
  · have h2 : r < a := by omega
    have t : decide (a ≤ r) = false := by simpa using h2
    clear h h1
    go_enter Tryd.func41, Tryd.ntmps41
    go_wp2_with fail
    go_ret
    exact ⟨rfl, rfl⟩

theorem closerM_esc (r : List UInt8) (p : Nat) : Pl.closerM r true p = Pl.closerM (r.drop 1) false (p + 1) := by
  cases r <;> simp [Pl.closerM]
theorem closer_lt : ∀ (l : List UInt8) (e : Bool) (p j : Nat), Pl.closerM l e p = some j → p ≤ j ∧ j < p + l.length
  | [], e, p, j, h => by simp [Pl.closerM] at h
  | c :: r, e, p, j, h => by
    have ih := fun e => closer_lt r e (p + 1) j
    simp only [List.length_cons]
    rw [Pl.closerM] at h
    repeat' split at h
    all_goals first
      | (have := ih _ h; omega)
      | (simp only [Option.some.injEq] at h; omega)

set_option maxHeartbeats 4000000 in
theorem closer_any (l : List UInt8) (w : World) (hl : l.length ≤ 1099511627776) :
    Calls Tryd.prog 43 #[.string (Pl.S l), .int .u8 93, .bool true] w fun e w' => e = .returned (.int .i64 (Pl.place (Pl.closerM l false 0))) ∧ w = w' := by
  have hsz : (Pl.S l).size = l.length := Pl.S_size l
  have hs1 : (Pl.S l).size ≤ l.length := by omega
  have hs2 : l.length ≤ (Pl.S l).size := by omega
  clear hsz
  go_enter Tryd.func43, Tryd.ntmps43
  go_wp2_with fail
  go_loop [8] (fun i => ∃ (q : Nat), q ≤ l.length + 2 ∧ i = .int .i64 q ∧ Hid (Pl.closerM (l.drop q) false q = Pl.closerM l false 0)) (fun i => l.length + 2 - (intOf i).toNat)
  case atStart => exact ⟨0, by omega, rfl, Lib.hid rfl⟩
  case round =>
    obtain ⟨q, hq, rfl, HI⟩ := hrel
    by_cases hlt : q < l.length
    · obtain ⟨c, hc⟩ : ∃ c, l[q]? = some c := ⟨_, List.getElem?_eq_getElem hlt⟩
      have hlt' : q < (Pl.S l).size := by omega
      have hg := Pl.S_get l q c hc
      have HD := Lib.hid (Pl.drop_cons l q c hc)
      clear hc
      by_cases h92 : c.toNat = 92
      · have t92 : ((c.toNat : Int) == 92) = true := by rw [h92]; rfl
        have HN : Hid (Pl.closerM (l.drop (q + 2)) false (q + 2) = Pl.closerM l false 0) := Lib.hid (by
          rw [← HI.out, HD.out, Pl.closerM, if_neg (by decide), if_pos h92, closerM_esc, List.drop_drop])
        clear h92 HI HD
        go_wp2_with fail
        go_round
        case measure => simp [intOf]; omega
        case rel => exact ⟨q + 2, by omega, by go_num, HN⟩
      have t92 : ((c.toNat : Int) == 92) = false := by rw [beq_eq_false_iff_ne]; omega
      by_cases h93 : c.toNat = 93
      · have t93 : ((c.toNat : Int) == 93) = true := by rw [h93]; rfl
        have HN : Hid (Pl.place (Pl.closerM l false 0) = q) := Lib.hid (by
          rw [← HI.out, HD.out, Pl.closerM, if_neg (by decide), if_neg h92, if_pos h93]
          rfl)
        clear h92 h93 HI HD
        go_wp2_with fail
        go_ret
        exact ⟨by rw [HN.out]; rfl, rfl⟩
      · have t93 : ((c.toNat : Int) == 93) = false := by rw [beq_eq_false_iff_ne]; omega
        have HN : Hid (Pl.closerM (l.drop (q + 1)) false (q + 1) = Pl.closerM l false 0) := Lib.hid (by
          rw [← HI.out, HD.out, Pl.closerM, if_neg (by decide), if_neg h92, if_neg h93])
        clear h92 h93 HI HD
        go_wp2_with fail
        go_round
        case measure => simp [intOf]; omega
        case rel => exact ⟨q + 1, by omega, by go_num, HN⟩
    · have HN : Hid (Pl.place (Pl.closerM l false 0) = -1) := Lib.hid (by
        rw [← HI.out, List.drop_eq_nil_of_le (by omega), Pl.closerM]
        rfl)
      have hge : ¬ (q : Int) < ((Pl.S l).size : Int) := by omega
      clear HI
      go_wp2_with fail
      go_ret
      exact ⟨by rw [HN.out]; rfl, rfl⟩
end Go.Proofs.YthkbkiigpflonaaDoor
