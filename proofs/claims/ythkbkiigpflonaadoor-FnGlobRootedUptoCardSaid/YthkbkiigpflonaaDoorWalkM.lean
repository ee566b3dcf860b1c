/-
  The walk of the program's match: its switch, case by case.
-/
import Derived.Test.YthkbkiigpflonaaDoorFrame
namespace Go.Proofs.YthkbkiigpflonaaDoor
open Go.RowKit

set_option maxHeartbeats 4000000
set_option maxRecDepth 100000

/-- A star, and no second one. -/
theorem sw_star1 (pat name : List UInt8) (v : Bool) (s : Pl.St) (a : Act) (w : World) (Q : Exit → Act → World → Prop) (hF : Fr pat name v s a) (hp : pat.length ≤ 1099511627776)
    (t : List UInt8) (hd : pat.drop s.pi = 42 :: t) (h2 : t.head? ≠ some 42)
    (hnext : ∀ a', Fr pat name v ⟨s.pi + 1, s.ni, false, s.ds, some (s.pi + 1, s.ni)⟩ a' → Q (.exit 1) a' w) : mSw.wp Tryd.prog Q a w := by
  obtain ⟨u, -, rfl⟩ := fr_open hF
  clear hF
  obtain ⟨hc, ht⟩ := drop_get hd
  have hlt := drop_lt hd
  have hg := Pl.S_get pat s.pi 42 hc
  have hsz := Pl.S_size pat
  have hlt' : s.pi < (Pl.S pat).size := by omega
  have hB : (Pl.S pat).size ≤ 1099511627776 := by omega
  conv => arg 2; whnf
  cases t with
  | nil =>
    have hl := congrArg List.length ht
    rw [List.length_drop, List.length_nil] at hl
    have hge : ¬ ((s.pi : Int) + 1 < ((Pl.S pat).size : Int)) := by omega
    clear hd hc ht hlt h2 hsz hl
    go_wp2_with fail
    exact ⟨rfl, rfl, rfl, rfl, rfl, rfl, rfl, rfl, rfl, rfl, rfl, rfl, rfl, rfl, rfl, rfl⟩
  | cons c2 t =>
    obtain ⟨hc2, _⟩ := drop_get ht.symm
    have hlt2 := drop_lt ht.symm
    have hg2 := Pl.S_get pat (s.pi + 1) c2 hc2
    have hne : ((c2.toNat : Int) == 42) = false := by
      rw [beq_eq_false_iff_ne]
      intro e
      exact h2 (by rw [List.head?_cons]; congr 1; exact UInt8.toNat_inj.1 (by show c2.toNat = 42; omega))
    have hlt2' : (s.pi : Int) + 1 < ((Pl.S pat).size : Int) := by omega
    clear hd hc ht hlt h2 hsz hc2 hlt2
    go_wp2_with fail
    exact ⟨rfl, rfl, rfl, rfl, rfl, rfl, rfl, rfl, rfl, rfl, rfl, rfl, rfl, rfl, rfl, rfl⟩

/-- Two stars that are as one. -/
theorem sw_star2 (pat name : List UInt8) (v : Bool) (s : Pl.St) (a : Act) (w : World) (Q : Exit → Act → World → Prop) (hF : Fr pat name v s a) (hp : pat.length ≤ 1099511627776) (hT : Lib.Utf8Tabs 1 2 w)
    (t : List UInt8) (hd : pat.drop s.pi = 42 :: 42 :: t) (hs : s.sos = false ∨ (s.sos = true ∧ t ≠ [] ∧ (Pl.dec t).1 ≠ 47))
    (hnext : ∀ a' w', Fr pat name v ⟨s.pi + 2, s.ni, false, s.ds, some (s.pi + 2, s.ni)⟩ a' → Below w.heap.size w w' → Q (.exit 1) a' w') : mSw.wp Tryd.prog Q a w := by
  obtain ⟨u, -, rfl⟩ := fr_open hF
  clear hF
  obtain ⟨hc, ht⟩ := drop_get hd
  obtain ⟨hc2, ht2⟩ := drop_get ht.symm
  have hlt := drop_lt hd
  have hlt2 := drop_lt ht.symm
  have hg := Pl.S_get pat s.pi 42 hc
  have hg2 := Pl.S_get pat (s.pi + 1) 42 hc2
  have hsz := Pl.S_size pat
  have hlt' : s.pi < (Pl.S pat).size := by omega
  have hB : (Pl.S pat).size ≤ 1099511627776 := by omega
  have hlt2' : (s.pi : Int) + 1 < ((Pl.S pat).size : Int) := by omega
  have hex := S_from pat (s.pi + 1 + 1)
  rw [← ht2] at hex
  conv => arg 2; whnf
  rcases hs with hso | ⟨hso, hne, h47⟩
  · clear hd hc ht hc2 ht2 hlt hlt2 hsz hex
    rw [hso]
    go_wp2_with fail
    refine hnext _ _ ?_ (Below.refl _ _)
    exact ⟨rfl, rfl, rfl, rfl, rfl, rfl, rfl, rfl, rfl, rfl, rfl, rfl, rfl, rfl, rfl, rfl⟩
  · obtain ⟨x, d, hxd⟩ : ∃ x d, Pl.dec t = (x, d) := ⟨_, _, rfl⟩
    rw [hxd] at h47
    have t47 : ((x : Int) == 47) = false := by
      rw [beq_eq_false_iff_ne]
      simp only at h47
      omega
    have hlen : 0 < t.length := List.length_pos_iff.2 hne
    have h3 := congrArg List.length ht2
    rw [List.length_drop] at h3
    have hlt3 : (s.pi : Int) + 1 + 1 < ((Pl.S pat).size : Int) := by omega
    have HD := Lib.hid hxd
    clear hd hc ht hc2 ht2 hlt hlt2 hsz hne h47 h3 hlen hxd
    rw [hso]
    go_wp2_with (go_at_call 40; refine (dec_at t _ hT x d HD.out).mono ?_; rintro e w1 ⟨rfl, hb⟩)
    refine hnext _ _ ?_ hb
    exact ⟨rfl, rfl, rfl, rfl, rfl, rfl, rfl, rfl, rfl, rfl, rfl, rfl, rfl, rfl, rfl, rfl⟩

/-- Two stars that are directories. -/
theorem sw_dirs (pat name : List UInt8) (v : Bool) (s : Pl.St) (a : Act) (w : World) (Q : Exit → Act → World → Prop) (hF : Fr pat name v s a) (hp : pat.length ≤ 1099511627776) (hT : Lib.Utf8Tabs 1 2 w)
    (t : List UInt8) (hd : pat.drop s.pi = 42 :: 42 :: t) (hso : s.sos = true) (hne : t ≠ []) (d : Nat) (hxd : Pl.dec t = (47, d))
    (hnext : ∀ a' w', Fr pat name v ⟨s.pi + 2 + d, s.ni, true, some (s.pi + 2 + d, s.ni), none⟩ a' → Below w.heap.size w w' → Q (.exit 1) a' w') : mSw.wp Tryd.prog Q a w := by
  obtain ⟨u, -, rfl⟩ := fr_open hF
  clear hF
  obtain ⟨hc, ht⟩ := drop_get hd
  obtain ⟨hc2, ht2⟩ := drop_get ht.symm
  have hlt := drop_lt hd
  have hlt2 := drop_lt ht.symm
  have hg := Pl.S_get pat s.pi 42 hc
  have hg2 := Pl.S_get pat (s.pi + 1) 42 hc2
  have hsz := Pl.S_size pat
  have hlt' : s.pi < (Pl.S pat).size := by omega
  have hB : (Pl.S pat).size ≤ 1099511627776 := by omega
  have hlt2' : (s.pi : Int) + 1 < ((Pl.S pat).size : Int) := by omega
  have hex := S_from pat (s.pi + 1 + 1)
  rw [← ht2] at hex
  have hlen : 0 < t.length := List.length_pos_iff.2 hne
  have h3 := congrArg List.length ht2
  rw [List.length_drop] at h3
  have hlt3 : (s.pi : Int) + 1 + 1 < ((Pl.S pat).size : Int) := by omega
  have hle := dec_le _ _ _ hxd
  have hsum : (s.pi : Int) + 1 + 1 + (d : Int) ≤ ((Pl.S pat).size : Int) := by omega
  have HD := Lib.hid hxd
  clear hd hc ht hc2 ht2 hlt hlt2 hsz hne h3 hlen hxd hle
  conv => arg 2; whnf
  rw [hso]
  go_wp2_with (go_at_call 40; refine (dec_at t _ hT 47 d HD.out).mono ?_; rintro e w1 ⟨rfl, hb⟩)
  refine hnext _ _ ?_ hb
  exact ⟨rfl, rfl, rfl, rfl, rfl, rfl, rfl, rfl, rfl, rfl, rfl, rfl, rfl, rfl, rfl, rfl⟩

/-- Two stars at the end, that are directories. -/
theorem sw_all (pat name : List UInt8) (v : Bool) (s : Pl.St) (a : Act) (w : World) (Q : Exit → Act → World → Prop) (hF : Fr pat name v s a) (hp : pat.length ≤ 1099511627776)
    (hd : pat.drop s.pi = [42, 42]) (hso : s.sos = true)
    (hret : ∀ a', a'.defers = [] → a'.tmps.getD 22 undef = .bool true → a'.tmps.getD 23 undef = .nilIface → Q .ret a' w) : mSw.wp Tryd.prog Q a w := by
  obtain ⟨u, -, rfl⟩ := fr_open hF
  clear hF
  obtain ⟨hc, ht⟩ := drop_get hd
  obtain ⟨hc2, ht2⟩ := drop_get ht.symm
  have hlt := drop_lt hd
  have hlt2 := drop_lt ht.symm
  have hg := Pl.S_get pat s.pi 42 hc
  have hg2 := Pl.S_get pat (s.pi + 1) 42 hc2
  have hsz := Pl.S_size pat
  have hlt' : s.pi < (Pl.S pat).size := by omega
  have hB : (Pl.S pat).size ≤ 1099511627776 := by omega
  have hlt2' : (s.pi : Int) + 1 < ((Pl.S pat).size : Int) := by omega
  have h3 := congrArg List.length ht2
  rw [List.length_drop, List.length_nil] at h3
  have hge3 : ((Pl.S pat).size : Int) ≤ (s.pi : Int) + 1 + 1 := by omega
  clear hd hc ht hc2 ht2 hlt hlt2 hsz h3
  conv => arg 2; whnf
  rw [hso]
  go_wp2_with fail
  exact hret _ rfl rfl rfl
end Go.Proofs.YthkbkiigpflonaaDoor
