/-
  The walk of the program's match: its switch at a letter behind a backslash.
-/
import Derived.Test.YthkbkiigpflonaaDoorWalkM
namespace Go.Proofs.YthkbkiigpflonaaDoor
open Go.RowKit

set_option maxHeartbeats 4000000
set_option maxRecDepth 100000

/-- A letter behind a backslash, at the same. -/
theorem sw_esc (pat name : List UInt8) (v : Bool) (s : Pl.St) (a : Act) (w : World) (Q : Exit → Act → World → Prop) (hF : Fr pat name v s a) (hp : pat.length ≤ 1099511627776) (hn : name.length ≤ 1099511627776) (hT : Lib.Utf8Tabs 1 2 w)
    (t : List UInt8) (hd : pat.drop s.pi = 92 :: t) (hne : t ≠ []) (hni : s.ni ≤ name.length) (x d e : Nat) (hxd : Pl.dec t = (x, d)) (hye : Pl.dec (name.drop s.ni) = (x, e))
    (hnext : ∀ a' w', Fr pat name v ⟨s.pi + 1 + d, s.ni + e, decide (x = 47), s.ds, s.st⟩ a' → Below w.heap.size w w' → Q (.exit 1) a' w') : mSw.wp Tryd.prog Q a w := by
  obtain ⟨u, -, rfl⟩ := fr_open hF
  clear hF
  obtain ⟨hc, ht⟩ := drop_get hd
  have hlt := drop_lt hd
  have hg := Pl.S_get pat s.pi 92 hc
  have hsz := Pl.S_size pat
  have hszn := Pl.S_size name
  have hlt' : s.pi < (Pl.S pat).size := by omega
  have hB : (Pl.S pat).size ≤ 1099511627776 := by omega
  have hBn : (Pl.S name).size ≤ 1099511627776 := by omega
  have hni' : s.ni ≤ (Pl.S name).size := by omega
  have h3 := congrArg List.length ht
  rw [List.length_drop] at h3
  have hlen : 0 < t.length := List.length_pos_iff.2 hne
  have hlt2 : (s.pi : Int) + 1 < ((Pl.S pat).size : Int) := by omega
  have hlp := dec_lt pat (s.pi + 1) x d (by omega) (by rw [← ht]; exact hxd)
  have hexn := S_from name s.ni
  have hexp := S_from pat (s.pi + 1)
  rw [← ht] at hexp
  have HD := Lib.hid hxd
  have HE := Lib.hid hye
  have hle := dec_lt _ _ _ _ hni hye
  have hsum : (s.ni : Int) + (e : Int) ≤ ((Pl.S name).size : Int) := by omega
  have hsump : (s.pi : Int) + 1 + (d : Int) ≤ ((Pl.S pat).size : Int) := by omega
  generalize name.drop s.ni = nt at *
  clear hd hc ht hlt hsz hszn hle hlp hxd hye h3 hlen hne
  conv => arg 2; whnf
  go_upto_region 90 with (first | (go_at_call 40; refine (dec_at t _ hT x d HD.out).mono ?_; rintro e1 w1 ⟨rfl, hb⟩))
  have hT1 := tabs_below hT hb
  go_wp2_with (first | (go_at_call 40; refine (dec_at nt _ hT1 x e HE.out).mono ?_; rintro e1 w2 ⟨rfl, hb2⟩) | (go_at_call 42; refine (rune_yes _ _ _ _ rfl).mono ?_; rintro e1 w3 ⟨rfl, rfl⟩))
  refine hnext _ _ ?_ (hb.trans (hb2.mono hb.size))
  exact ⟨rfl, rfl, rfl, rfl, rfl, rfl, rfl, rfl, rfl, rfl, rfl, rfl, rfl, rfl, rfl, congrArg Value.bool (beq47 x)⟩

/-- A letter behind a backslash, at another. -/
theorem sw_esc_back (pat name : List UInt8) (v : Bool) (s : Pl.St) (a : Act) (w : World) (Q : Exit → Act → World → Prop) (hF : Fr pat name v s a) (hp : pat.length ≤ 1099511627776) (hn : name.length ≤ 1099511627776) (hT : Lib.Utf8Tabs 1 2 w)
    (t : List UInt8) (hd : pat.drop s.pi = 92 :: t) (hne : t ≠ []) (hni : s.ni ≤ name.length) (x d y e : Nat) (hxd : Pl.dec t = (x, d)) (hye : Pl.dec (name.drop s.ni) = (y, e)) (hxy : x ≠ y)
    (hback : ∀ a' w', Fr pat name v s a' → Below w.heap.size w w' → Q .normal a' w') : mSw.wp Tryd.prog Q a w := by
  obtain ⟨u, -, rfl⟩ := fr_open hF
  clear hF
  obtain ⟨hc, ht⟩ := drop_get hd
  have hlt := drop_lt hd
  have hg := Pl.S_get pat s.pi 92 hc
  have hsz := Pl.S_size pat
  have hszn := Pl.S_size name
  have hlt' : s.pi < (Pl.S pat).size := by omega
  have hB : (Pl.S pat).size ≤ 1099511627776 := by omega
  have hBn : (Pl.S name).size ≤ 1099511627776 := by omega
  have hni' : s.ni ≤ (Pl.S name).size := by omega
  have h3 := congrArg List.length ht
  rw [List.length_drop] at h3
  have hlen : 0 < t.length := List.length_pos_iff.2 hne
  have hlt2 : (s.pi : Int) + 1 < ((Pl.S pat).size : Int) := by omega
  have hlp := dec_lt pat (s.pi + 1) x d (by omega) (by rw [← ht]; exact hxd)
  have hexn := S_from name s.ni
  have hexp := S_from pat (s.pi + 1)
  rw [← ht] at hexp
  have HD := Lib.hid hxd
  have HE := Lib.hid hye
  have HN : Hid ((x : Int) ≠ (y : Int)) := Lib.hid (by omega)
  generalize name.drop s.ni = nt at *
  clear hd hc ht hlt hsz hszn hlp hxd hye h3 hlen hne hxy
  conv => arg 2; whnf
  go_upto_region 90 with (first | (go_at_call 40; refine (dec_at t _ hT x d HD.out).mono ?_; rintro e1 w1 ⟨rfl, hb⟩))
  have hT1 := tabs_below hT hb
  go_wp2_with (first | (go_at_call 40; refine (dec_at nt _ hT1 y e HE.out).mono ?_; rintro e1 w2 ⟨rfl, hb2⟩) | (go_at_call 42; refine (rune_no _ _ _ _ HN.out).mono ?_; rintro e1 w3 ⟨rfl, rfl⟩))
  refine hback _ _ ?_ (hb.trans (hb2.mono hb.size))
  exact ⟨rfl, rfl, rfl, rfl, rfl, rfl, rfl, rfl, rfl, rfl, rfl, rfl, rfl, rfl, rfl, rfl⟩
end Go.Proofs.YthkbkiigpflonaaDoor
