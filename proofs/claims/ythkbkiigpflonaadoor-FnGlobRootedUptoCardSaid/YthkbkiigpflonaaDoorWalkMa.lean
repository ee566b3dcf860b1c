/-
  The walk of the program's match: its switch at any one letter, at a letter, at a letter behind a backslash.
-/
import Derived.Test.YthkbkiigpflonaaDoorWalkM
namespace Go.Proofs.YthkbkiigpflonaaDoor
open Go.RowKit

set_option maxHeartbeats 4000000
set_option maxRecDepth 100000

/-- Any one letter, at one. -/
theorem sw_one (pat name : List UInt8) (v : Bool) (s : Pl.St) (a : Act) (w : World) (Q : Exit → Act → World → Prop) (hF : Fr pat name v s a) (hp : pat.length ≤ 1099511627776) (hn : name.length ≤ 1099511627776) (hT : Lib.Utf8Tabs 1 2 w)
    (t : List UInt8) (hd : pat.drop s.pi = 63 :: t) (hni : s.ni ≤ name.length) (x d : Nat) (hxd : Pl.dec (name.drop s.ni) = (x, d)) (h47 : x ≠ 47)
    (hnext : ∀ a' w', Fr pat name v ⟨s.pi + 1, s.ni + d, false, s.ds, s.st⟩ a' → Below w.heap.size w w' → Q (.exit 1) a' w') : mSw.wp Tryd.prog Q a w := by
  obtain ⟨u, -, rfl⟩ := fr_open hF
  clear hF
  obtain ⟨hc, ht⟩ := drop_get hd
  have hlt := drop_lt hd
  have hg := Pl.S_get pat s.pi 63 hc
  have hsz := Pl.S_size pat
  have hszn := Pl.S_size name
  have hlt' : s.pi < (Pl.S pat).size := by omega
  have hB : (Pl.S pat).size ≤ 1099511627776 := by omega
  have hBn : (Pl.S name).size ≤ 1099511627776 := by omega
  have hni' : s.ni ≤ (Pl.S name).size := by omega
  have hle := dec_lt _ _ _ _ hni hxd
  have hsum : (s.ni : Int) + (d : Int) ≤ ((Pl.S name).size : Int) := by omega
  have hex := S_from name s.ni
  have t47 : ((x : Int) == 47) = false := by
    rw [beq_eq_false_iff_ne]
    omega
  have HD := Lib.hid hxd
  generalize name.drop s.ni = nt at *
  clear hd hc ht hlt hsz hszn hle hxd h47
  conv => arg 2; whnf
  go_wp2_with (go_at_call 40; refine (dec_at nt _ hT x d HD.out).mono ?_; rintro e w1 ⟨rfl, hb⟩)
  refine hnext _ _ ?_ hb
  exact ⟨rfl, rfl, rfl, rfl, rfl, rfl, rfl, rfl, rfl, rfl, rfl, rfl, rfl, rfl, rfl, rfl⟩

/-- Any one letter, at a slash. -/
theorem sw_one_back (pat name : List UInt8) (v : Bool) (s : Pl.St) (a : Act) (w : World) (Q : Exit → Act → World → Prop) (hF : Fr pat name v s a) (hp : pat.length ≤ 1099511627776) (hn : name.length ≤ 1099511627776) (hT : Lib.Utf8Tabs 1 2 w)
    (t : List UInt8) (hd : pat.drop s.pi = 63 :: t) (hni : s.ni ≤ name.length) (d : Nat) (hxd : Pl.dec (name.drop s.ni) = (47, d))
    (hback : ∀ a' w', Fr pat name v ⟨s.pi, s.ni, false, s.ds, s.st⟩ a' → Below w.heap.size w w' → Q .normal a' w') : mSw.wp Tryd.prog Q a w := by
  obtain ⟨u, -, rfl⟩ := fr_open hF
  clear hF
  obtain ⟨hc, ht⟩ := drop_get hd
  have hlt := drop_lt hd
  have hg := Pl.S_get pat s.pi 63 hc
  have hsz := Pl.S_size pat
  have hszn := Pl.S_size name
  have hlt' : s.pi < (Pl.S pat).size := by omega
  have hB : (Pl.S pat).size ≤ 1099511627776 := by omega
  have hBn : (Pl.S name).size ≤ 1099511627776 := by omega
  have hni' : s.ni ≤ (Pl.S name).size := by omega
  have hex := S_from name s.ni
  have HD := Lib.hid hxd
  generalize name.drop s.ni = nt at *
  clear hd hc ht hlt hsz hszn hxd
  conv => arg 2; whnf
  go_wp2_with (go_at_call 40; refine (dec_at nt _ hT 47 d HD.out).mono ?_; rintro e w1 ⟨rfl, hb⟩)
  refine hback _ _ ?_ hb
  exact ⟨rfl, rfl, rfl, rfl, rfl, rfl, rfl, rfl, rfl, rfl, rfl, rfl, rfl, rfl, rfl, rfl⟩

/-- A byte that means nothing. -/
def plainB (c : UInt8) : Prop := c.toNat ≠ 42 ∧ c.toNat ≠ 63 ∧ c.toNat ≠ 91 ∧ c.toNat ≠ 123 ∧ c.toNat ≠ 92

/-- A letter, at the same. -/
theorem sw_lit (pat name : List UInt8) (v : Bool) (s : Pl.St) (a : Act) (w : World) (Q : Exit → Act → World → Prop) (hF : Fr pat name v s a) (hp : pat.length ≤ 1099511627776) (hn : name.length ≤ 1099511627776) (hT : Lib.Utf8Tabs 1 2 w)
    (c : UInt8) (t : List UInt8) (hd : pat.drop s.pi = c :: t) (hcb : plainB c) (hni : s.ni ≤ name.length) (x d e : Nat) (hxd : Pl.dec (c :: t) = (x, d)) (hye : Pl.dec (name.drop s.ni) = (x, e))
    (hnext : ∀ a' w', Fr pat name v ⟨s.pi + d, s.ni + e, decide (x = 47), s.ds, s.st⟩ a' → Below w.heap.size w w' → Q (.exit 1) a' w') : mSw.wp Tryd.prog Q a w := by
  obtain ⟨u, -, rfl⟩ := fr_open hF
  clear hF
  obtain ⟨hc, ht⟩ := drop_get hd
  have hlt := drop_lt hd
  have hg := Pl.S_get pat s.pi c hc
  have hsz := Pl.S_size pat
  have hszn := Pl.S_size name
  have hlt' : s.pi < (Pl.S pat).size := by omega
  have hB : (Pl.S pat).size ≤ 1099511627776 := by omega
  have hBn : (Pl.S name).size ≤ 1099511627776 := by omega
  have hni' : s.ni ≤ (Pl.S name).size := by omega
  have hle := dec_lt _ _ _ _ hni hye
  have hsum : (s.ni : Int) + (e : Int) ≤ ((Pl.S name).size : Int) := by omega
  have hlp := dec_lt pat s.pi x d (by omega) (by rw [hd]; exact hxd)
  have hsump : (s.pi : Int) + (d : Int) ≤ ((Pl.S pat).size : Int) := by omega
  have hexn := S_from name s.ni
  have hexp := S_from pat s.pi
  rw [hd] at hexp
  obtain ⟨n1, n2, n3, n4, n5⟩ := hcb
  have t1 : ((c.toNat : Int) == 42) = false := by rw [beq_eq_false_iff_ne]; omega
  have t2 : ((c.toNat : Int) == 63) = false := by rw [beq_eq_false_iff_ne]; omega
  have t3 : ((c.toNat : Int) == 91) = false := by rw [beq_eq_false_iff_ne]; omega
  have t4 : ((c.toNat : Int) == 123) = false := by rw [beq_eq_false_iff_ne]; omega
  have t5 : ((c.toNat : Int) == 92) = false := by rw [beq_eq_false_iff_ne]; omega
  have HD := Lib.hid hxd
  have HE := Lib.hid hye
  generalize name.drop s.ni = nt at *
  generalize c :: t = pt at *
  clear hd hc ht hlt hsz hszn hle hlp hxd hye n1 n2 n3 n4 n5
  conv => arg 2; whnf
  go_upto_region 90 with (first | (go_at_call 40; refine (dec_at pt _ hT x d HD.out).mono ?_; rintro e1 w1 ⟨rfl, hb⟩))
  have hT1 := tabs_below hT hb
  go_wp2_with (first | (go_at_call 40; refine (dec_at nt _ hT1 x e HE.out).mono ?_; rintro e1 w2 ⟨rfl, hb2⟩) | (go_at_call 42; refine (rune_yes _ _ _ _ rfl).mono ?_; rintro e1 w3 ⟨rfl, rfl⟩))
  refine hnext _ _ ?_ (hb.trans (hb2.mono hb.size))
  exact ⟨rfl, rfl, rfl, rfl, rfl, rfl, rfl, rfl, rfl, rfl, rfl, rfl, rfl, rfl, rfl, congrArg Value.bool (beq47 x)⟩

/-- A letter, at another, at the pattern's beginning. -/
theorem sw_lit_back0 (pat name : List UInt8) (v : Bool) (ni : Nat) (sos : Bool) (ds st : Option (Nat × Nat)) (a : Act) (w : World) (Q : Exit → Act → World → Prop) (hF : Fr pat name v ⟨0, ni, sos, ds, st⟩ a) (hp : pat.length ≤ 1099511627776) (hn : name.length ≤ 1099511627776) (hT : Lib.Utf8Tabs 1 2 w)
    (c : UInt8) (t : List UInt8) (hd : pat.drop 0 = c :: t) (hcb : plainB c) (hni : ni ≤ name.length) (x d y e : Nat) (hxd : Pl.dec (c :: t) = (x, d)) (hye : Pl.dec (name.drop ni) = (y, e)) (hxy : x ≠ y)
    (hback : ∀ a' w', Fr pat name v ⟨0, ni, sos, ds, st⟩ a' → Below w.heap.size w w' → Q .normal a' w') : mSw.wp Tryd.prog Q a w := by
  obtain ⟨u, -, rfl⟩ := fr_open hF
  clear hF
  obtain ⟨hc, ht⟩ := drop_get hd
  have hlt := drop_lt hd
  have hg := Pl.S_get pat 0 c hc
  have hsz := Pl.S_size pat
  have hszn := Pl.S_size name
  have hlt' : 0 < (Pl.S pat).size := by omega
  have hB : (Pl.S pat).size ≤ 1099511627776 := by omega
  have hBn : (Pl.S name).size ≤ 1099511627776 := by omega
  have hni' : ni ≤ (Pl.S name).size := by omega
  have hlp := dec_lt pat (0) x d (by omega) (by rw [hd]; exact hxd)
  have hexn := S_from name ni
  have hexp := S_from pat (0)
  rw [hd] at hexp
  obtain ⟨n1, n2, n3, n4, n5⟩ := hcb
  have t1 : ((c.toNat : Int) == 42) = false := by rw [beq_eq_false_iff_ne]; omega
  have t2 : ((c.toNat : Int) == 63) = false := by rw [beq_eq_false_iff_ne]; omega
  have t3 : ((c.toNat : Int) == 91) = false := by rw [beq_eq_false_iff_ne]; omega
  have t4 : ((c.toNat : Int) == 123) = false := by rw [beq_eq_false_iff_ne]; omega
  have t5 : ((c.toNat : Int) == 92) = false := by rw [beq_eq_false_iff_ne]; omega
  have HD := Lib.hid hxd
  have HE := Lib.hid hye
  have HN : Hid ((x : Int) ≠ (y : Int)) := Lib.hid (by omega)
  generalize name.drop ni = nt at *
  generalize c :: t = pt at *
  clear hd hc ht hlt hsz hszn hlp hxd hye n1 n2 n3 n4 n5 hxy
  conv => arg 2; whnf
  go_upto_region 90 with (first | (go_at_call 40; refine (dec_at pt _ hT x d HD.out).mono ?_; rintro e1 w1 ⟨rfl, hb⟩))
  have hT1 := tabs_below hT hb
  go_wp2_with (first | (go_at_call 40; refine (dec_at nt _ hT1 y e HE.out).mono ?_; rintro e1 w2 ⟨rfl, hb2⟩) | (go_at_call 42; refine (rune_no _ _ _ _ HN.out).mono ?_; rintro e1 w3 ⟨rfl, rfl⟩))
  refine hback _ _ ?_ (hb.trans (hb2.mono hb.size))
  exact ⟨rfl, rfl, rfl, rfl, rfl, rfl, rfl, rfl, rfl, rfl, rfl, rfl, rfl, rfl, rfl, rfl⟩

/-- A letter, at another, behind a byte. -/
theorem sw_lit_back (pat name : List UInt8) (v : Bool) (q ni : Nat) (sos : Bool) (ds st : Option (Nat × Nat)) (a : Act) (w : World) (Q : Exit → Act → World → Prop) (hF : Fr pat name v ⟨q + 1, ni, sos, ds, st⟩ a) (hp : pat.length ≤ 1099511627776) (hn : name.length ≤ 1099511627776) (hT : Lib.Utf8Tabs 1 2 w)
    (c : UInt8) (t : List UInt8) (hd : pat.drop (q + 1) = c :: t) (hcb : plainB c) (hni : ni ≤ name.length) (x d y e : Nat) (hxd : Pl.dec (c :: t) = (x, d)) (hye : Pl.dec (name.drop ni) = (y, e)) (hxy : x ≠ y)
    (hback : ∀ a' w', Fr pat name v ⟨if pat[q]? = some 92 then q else q + 1, ni, sos, ds, st⟩ a' → Below w.heap.size w w' → Q .normal a' w') : mSw.wp Tryd.prog Q a w := by
  obtain ⟨u, -, rfl⟩ := fr_open hF
  clear hF
  obtain ⟨hc, ht⟩ := drop_get hd
  have hlt := drop_lt hd
  have hg := Pl.S_get pat (q + 1) c hc
  have hsz := Pl.S_size pat
  have hszn := Pl.S_size name
  have hlt' : q + 1 < (Pl.S pat).size := by omega
  have hB : (Pl.S pat).size ≤ 1099511627776 := by omega
  have hBn : (Pl.S name).size ≤ 1099511627776 := by omega
  have hni' : ni ≤ (Pl.S name).size := by omega
  have hlp := dec_lt pat (q + 1) x d (by omega) (by rw [hd]; exact hxd)
  have hexn := S_from name ni
  have hexp := S_from pat (q + 1)
  rw [hd] at hexp
  obtain ⟨n1, n2, n3, n4, n5⟩ := hcb
  have t1 : ((c.toNat : Int) == 42) = false := by rw [beq_eq_false_iff_ne]; omega
  have t2 : ((c.toNat : Int) == 63) = false := by rw [beq_eq_false_iff_ne]; omega
  have t3 : ((c.toNat : Int) == 91) = false := by rw [beq_eq_false_iff_ne]; omega
  have t4 : ((c.toNat : Int) == 123) = false := by rw [beq_eq_false_iff_ne]; omega
  have t5 : ((c.toNat : Int) == 92) = false := by rw [beq_eq_false_iff_ne]; omega
  have HD := Lib.hid hxd
  have HE := Lib.hid hye
  have HN : Hid ((x : Int) ≠ (y : Int)) := Lib.hid (by omega)
  generalize name.drop ni = nt at *
  generalize c :: t = pt at *
  obtain ⟨c0, hc0⟩ : ∃ c0, pat[q]? = some c0 := ⟨_, List.getElem?_eq_getElem (by omega)⟩
  have hg0 := Pl.S_get pat q c0 hc0
  have hlt0 : q < (Pl.S pat).size := by omega
  have hltz : (q : Int) + 1 < ((Pl.S pat).size : Int) := by omega
  by_cases h92 : c0.toNat = 92
  · have t92 : ((c0.toNat : Int) == 92) = true := by rw [h92]; rfl
    have hc0' : c0 = 92 := UInt8.toNat_inj.1 h92
    rw [hc0, hc0', if_pos rfl] at hback
    clear hd hc ht hlt hsz hszn hlp hxd hye n1 n2 n3 n4 n5 hxy hc0 h92 hc0'
    conv => arg 2; whnf
    go_upto_region 90 with (first | (go_at_call 40; refine (dec_at pt _ hT x d HD.out).mono ?_; rintro e1 w1 ⟨rfl, hb⟩))
    have hT1 := tabs_below hT hb
    go_wp2_with (first | (go_at_call 40; refine (dec_at nt _ hT1 y e HE.out).mono ?_; rintro e1 w2 ⟨rfl, hb2⟩) | (go_at_call 42; refine (rune_no _ _ _ _ HN.out).mono ?_; rintro e1 w3 ⟨rfl, rfl⟩))
    refine hback _ _ ?_ (hb.trans (hb2.mono hb.size))
    exact ⟨rfl, rfl, rfl, rfl, rfl, rfl, rfl, rfl, rfl, rfl, rfl, rfl, rfl, rfl, rfl, rfl⟩
  · have t92 : ((c0.toNat : Int) == 92) = false := by rw [beq_eq_false_iff_ne]; omega
    rw [hc0, if_neg (by intro h; simp only [Option.some.injEq] at h; rw [h] at h92; exact h92 rfl)] at hback
    clear hd hc ht hlt hsz hszn hlp hxd hye n1 n2 n3 n4 n5 hxy hc0 h92
    conv => arg 2; whnf
    go_upto_region 90 with (first | (go_at_call 40; refine (dec_at pt _ hT x d HD.out).mono ?_; rintro e1 w1 ⟨rfl, hb⟩))
    have hT1 := tabs_below hT hb
    go_wp2_with (first | (go_at_call 40; refine (dec_at nt _ hT1 y e HE.out).mono ?_; rintro e1 w2 ⟨rfl, hb2⟩) | (go_at_call 42; refine (rune_no _ _ _ _ HN.out).mono ?_; rintro e1 w3 ⟨rfl, rfl⟩))
    refine hback _ _ ?_ (hb.trans (hb2.mono hb.size))
    exact ⟨rfl, rfl, rfl, rfl, rfl, rfl, rfl, rfl, rfl, rfl, rfl, rfl, rfl, rfl, rfl, rfl⟩
end Go.Proofs.YthkbkiigpflonaaDoor
