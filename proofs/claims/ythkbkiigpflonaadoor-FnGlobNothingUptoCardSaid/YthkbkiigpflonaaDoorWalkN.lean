/-
  The walk of FnGlobNothing over the contracts.
-/
import Derived.Test.YthkbkiigpflonaaDoorWalkI
import Derived.Test.YthkbkiigpflonaaDoorWalkZ
import Derived.Test.YthkbkiigpflonaaDoorZeroLaw
namespace Go.Proofs.YthkbkiigpflonaaDoor
open Go.RowKit

def NothingPost (l : List Pl.Term) (w : World) (e : Ending) (w' : World) : Prop := ∃ b ok : Bool, e = .returned (.tuple #[.bool b, .bool ok]) ∧ Below w.heap.size w w' ∧ (ok = true → Pl.wfL false l = true ∧ b = Pl.emL l)

set_option maxHeartbeats 4000000 in
theorem nothing_any (n : Nat) (v : Value) (l : List Pl.Term) (w : World) (hv : Rd.Terms w w.heap.size n v l) :
    Calls Tryd.prog 5 #[v] w (NothingPost l w) := by
  have hb0 : Below w.heap.size w (w.alloc (.cells #[.int .i64 65536] 3)) := (Below.refl _ _).alloc (Nat.le_refl _) _
  have hv1 : Rd.Terms (w.alloc (.cells #[.int .i64 65536] 3)) w.heap.size n v l := hv.keep (fun p hp => hb0.cell hp) (Nat.le_refl _)
  have hcall := ends_all n v l (w.alloc (.cells #[.int .i64 65536] 3)) w.heap.size w.heap.size 100 65536 hv1 (Nat.le_refl _) (by omega) (by omega) (by omega) (by have := heap_alloc_new w (.cells #[.int .i64 65536] 3); simpa using this)
  have HC := Lib.hid hcall
  clear hcall hv1
  obtain ⟨A, cap, rfl, hm, hx⟩ := hv.form
  clear hx hv
  go_enter Tryd.func5, Tryd.ntmps5
  go_wp2_with fail
  refine HC.out.mono ?_
  rintro e w1 ⟨s1, d1, n1, ok1, x1, rfl, hL1, hcase⟩
  have hb2 : Below w.heap.size w w1 := hb0.trans (hL1.below (Nat.le_refl _) (by simp))
  clear HC
  go_wp2_with fail
  go_ret2
  refine ⟨_, _, rfl, hb2, fun hok => ?_⟩
  rcases hcase with ⟨_, hr, _⟩ | ⟨h, _⟩
  · obtain ⟨g1, _, _, g4⟩ := Pl.flatL _ _ _ _ _ _ _ _ _ _ hr
    exact ⟨g1, by rw [g4]; rfl⟩
  · rw [hok] at h
    cases h

set_option maxHeartbeats 4000000 in
theorem zz_any (k : Nat) (l : List UInt8) (v b : Bool) (w : World) (hl : l.length ≤ 1099511627776) (hz : Pl.zeroF k l v = some (b, false)) :
    Calls Tryd.prog 14 #[.string (Pl.S l), .bool v] w (ZeroPost b w) := by
  have HC := Lib.hid (zero_any k l v b w hl hz)
  clear hz
  go_enter Tryd.func14, Tryd.ntmps14
  go_wp2_with (go_at_call 26; refine HC.out.mono ?_; rintro e w1 ⟨rfl, m, rfl⟩)
  go_ret2
  exact ⟨rfl, m, rfl⟩

def GZeroPost (b : Bool) (w : World) (e : Ending) (w' : World) : Prop := e = .returned (.tuple #[.bool b, .bool false]) ∧ ∃ m, w' = w.drewN m
set_option maxHeartbeats 4000000 in
theorem gzero_any (k : Nat) (l : List UInt8) (v b : Bool) (w : World) (hl : l.length ≤ 1099511627776) (hz : Pl.zeroF k l v = some (b, false)) :
    Calls Tryd.prog 6 #[.string (Pl.S l), .bool v] w (GZeroPost b w) := by
  have HC := Lib.hid (zz_any k l v b w hl hz)
  clear hz
  go_enter Tryd.func6, Tryd.ntmps6
  go_wp2_with (go_at_call 14; refine HC.out.mono ?_; rintro e w1 ⟨rfl, m, rfl⟩)
  go_quiet (fail)
  go_wp2
  go_ret2
  exact ⟨rfl, m + nq, by first | rfl | rw [World.drewN_drewN]⟩

set_option maxHeartbeats 4000000 in
theorem nothing_law (n : Nat) (v : Value) (l : List Pl.Term) (w : World) (hv : Rd.Terms w w.heap.size n v l) (hl : l.length ≤ 1073741824) (ht : (Pl.terms l).length ≤ 1073741824) :
    Calls Tryd.prog 3 #[v] w fun e w' => e = .returned (.bool true) ∧ Below w.heap.size w w' := by
  have HV := Lib.hid hv
  obtain ⟨A, cap, rfl, hm, hx⟩ := hv.form
  have hmost : ¬ (2147483647 : Int) < (l.length : Int) := by omega
  clear hx hv
  go_enter Tryd.func3, Tryd.ntmps3
  go_wp2_with fail
  refine (nothing_any n _ l _ HV.out).mono ?_
  rintro e w1 ⟨b, ok, rfl, hb1, hok⟩
  cases ok
  · clear hok
    go_wp2_with fail
    go_ret
    exact ⟨rfl, hb1⟩
  obtain ⟨hwf, hbe⟩ := hok rfl
  clear hok
  rcases Nat.eq_zero_or_pos l.length with hl0 | hl0
  · have hl0' : ((l.length : Int) == 0) = true := by simp [hl0]
    clear hl0
    go_wp2_with fail
    go_ret
    exact ⟨rfl, hb1⟩
  have hl0' : ((l.length : Int) == 0) = false := by rw [beq_eq_false_iff_ne]; omega
  obtain ⟨K1, h1⟩ := Pl.zero_terms true _ l (Nat.le_refl _) hwf
  obtain ⟨K2, h2⟩ := Pl.zero_terms false _ l (Nat.le_refl _) hwf
  have HZ1 := Lib.hid (h1 K1 (Nat.le_refl _))
  have HZ2 := Lib.hid (h2 K2 (Nat.le_refl _))
  clear h1 h2 hwf hl0
  have HV1 : Hid (Rd.Terms w1 w1.heap.size n (.slice A l.length cap) l) := Lib.hid (HV.out.keep (fun _ hp => hb1.cell hp) hb1.size)
  rw [← hbe] at HZ1 HZ2
  clear hbe
  cases b
  all_goals
    go_wp2_with fail
    refine (terms_any n _ l _ HV1.out (by omega)).mono ?_
    rintro e w2 ⟨rfl, hb2⟩
    have HV2 : Hid (Rd.Terms w2 w2.heap.size n (.slice A l.length cap) l) := Lib.hid (HV1.out.keep (fun _ hp => hb2.cell hp) hb2.size)
    go_wp2_with fail
    refine (gzero_any K1 _ _ _ _ (by omega) HZ1.out).mono ?_
    rintro e w3 ⟨rfl, m3, rfl⟩
    have hb3 := below_drewN hb2 m3
    have HV3 : Hid (Rd.Terms (w2.drewN m3) (w2.drewN m3).heap.size n (.slice A l.length cap) l) := Lib.hid (HV1.out.keep (fun _ hp => hb3.cell hp) hb3.size)
    go_wp2_with fail
    refine (terms_any n _ l _ HV3.out (by omega)).mono ?_
    rintro e w4 ⟨rfl, hb4⟩
    go_wp2_with fail
    refine (gzero_any K2 _ _ _ _ (by omega) HZ2.out).mono ?_
    rintro e w5 ⟨rfl, m5, rfl⟩
    have hb5 := below_drewN hb4 m5
    go_wp2_with fail
    refine (gzero_any 1 [42] true true _ (by decide) (by rfl)).mono ?_
    rintro e w6 ⟨rfl, m6, rfl⟩
    go_wp2_with fail
    go_ret
    exact ⟨rfl, hb1.trans ((hb3.mono hb1.size).trans ((below_drewN hb4 (m5 + m6)).mono (Nat.le_trans hb1.size hb3.size)))⟩
end Go.Proofs.YthkbkiigpflonaaDoor
