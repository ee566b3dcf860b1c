/-
  The walks of the functions over the match, and of the law FnGlobRooted.
-/
import Derived.Test.YthkbkiigpflonaaDoorWalkMk
import Derived.Test.YthkbkiigpflonaaDoorWalkQ
import Derived.Test.YthkbkiigpflonaaDoorWalkJ
import Derived.Test.YthkbkiigpflonaaDoorRooted
namespace Go.Proofs.YthkbkiigpflonaaDoor
open Go.RowKit

set_option maxHeartbeats 4000000

theorem sep_any (k : Nat) (pat name : List UInt8) (v b : Bool) (w : World) (hp : pat.length ≤ 1099511627776) (hn : name.length ≤ 1099511627776) (hT : Lib.Utf8Tabs 1 2 w) (hm : Pl.matchF k v pat name Pl.s0 = some (b, false)) :
    Calls Tryd.prog 38 #[.string (Pl.S pat), .string (Pl.S name), .int .i32 47, .bool v, .bool false] w (MatchPost b w) := by
  have HC := Lib.hid (match_any k pat name v b Pl.s0 w hp hn (Nat.zero_le _) (Nat.zero_le _) rfl hT hm)
  clear hm hT
  go_enter Tryd.func38, Tryd.ntmps38
  go_wp2_with (go_at_call 39; refine HC.out.mono ?_; rintro e w1 ⟨rfl, hb⟩)
  go_ret2
  exact ⟨rfl, hb⟩
theorem mat_any (k : Nat) (pat name : List UInt8) (b : Bool) (w : World) (hp : pat.length ≤ 1099511627776) (hn : name.length ≤ 1099511627776) (hT : Lib.Utf8Tabs 1 2 w) (hm : Pl.matchF k true pat name Pl.s0 = some (b, false)) :
    Calls Tryd.prog 31 #[.string (Pl.S pat), .string (Pl.S name)] w (MatchPost b w) := by
  have HC := Lib.hid (sep_any k pat name true b w hp hn hT hm)
  clear hm hT
  go_enter Tryd.func31, Tryd.ntmps31
  go_wp2_with (go_at_call 38; refine HC.out.mono ?_; rintro e w1 ⟨rfl, hb⟩)
  go_ret2
  exact ⟨rfl, hb⟩
def OnePost (b : Bool) (w : World) (e : Ending) (w' : World) : Prop := e = .returned (.bool b) ∧ Below w.heap.size w w'
def TwoPost (b c : Bool) (w : World) (e : Ending) (w' : World) : Prop := e = .returned (.tuple #[.bool b, .bool c]) ∧ Below w.heap.size w w'
theorem unval_any (k : Nat) (pat name : List UInt8) (b : Bool) (w : World) (hp : pat.length ≤ 1099511627776) (hn : name.length ≤ 1099511627776) (hT : Lib.Utf8Tabs 1 2 w) (hm : Pl.matchF k false pat name Pl.s0 = some (b, false)) :
    Calls Tryd.prog 32 #[.string (Pl.S pat), .string (Pl.S name)] w (OnePost b w) := by
  have HC := Lib.hid (sep_any k pat name false b w hp hn hT hm)
  clear hm hT
  go_enter Tryd.func32, Tryd.ntmps32
  go_wp2_with (go_at_call 38; refine HC.out.mono ?_; rintro e w1 ⟨rfl, hb⟩)
  go_ret
  exact ⟨rfl, hb⟩
theorem valp_any (l : List UInt8) (w : World) (hl : l.length ≤ 1099511627776) :
    Calls Tryd.prog 33 #[.string (Pl.S l)] w fun e w' => e = .returned (.bool (Pl.validM l 0 0)) ∧ w = w' := by
  go_enter Tryd.func33, Tryd.ntmps33
  go_wp2_with (go_at_call 36; refine (valid_any l _ hl).mono ?_; rintro e w1 ⟨rfl, rfl⟩)
  go_ret
  exact ⟨rfl, rfl⟩
theorem gval_any (l : List UInt8) (w : World) (hl : l.length ≤ 1099511627776) :
    Calls Tryd.prog 24 #[.string (Pl.S l)] w fun e w' => e = .returned (.bool (Pl.validM l 0 0)) ∧ w = w' := by
  go_enter Tryd.func24, Tryd.ntmps24
  go_wp2_with (go_at_call 33; refine (valp_any l _ hl).mono ?_; rintro e w1 ⟨rfl, rfl⟩)
  go_ret
  exact ⟨rfl, rfl⟩
theorem gany_any (k : Nat) (pat name : List UInt8) (b : Bool) (w : World) (hp : pat.length ≤ 1099511627776) (hn : name.length ≤ 1099511627776) (hT : Lib.Utf8Tabs 1 2 w) (hm : Pl.matchF k false pat name Pl.s0 = some (b, false)) :
    Calls Tryd.prog 23 #[.string (Pl.S pat), .string (Pl.S name)] w (OnePost b w) := by
  have HC := Lib.hid (unval_any k pat name b w hp hn hT hm)
  clear hm hT
  go_enter Tryd.func23, Tryd.ntmps23
  go_wp2_with (go_at_call 32; refine HC.out.mono ?_; rintro e w1 ⟨rfl, hb⟩)
  go_ret
  exact ⟨rfl, hb⟩
theorem gmat_any (k : Nat) (pat name : List UInt8) (b : Bool) (w : World) (hp : pat.length ≤ 1099511627776) (hn : name.length ≤ 1099511627776) (hT : Lib.Utf8Tabs 1 2 w) (hm : Pl.matchF k true pat name Pl.s0 = some (b, false)) :
    Calls Tryd.prog 22 #[.string (Pl.S pat), .string (Pl.S name)] w (TwoPost b false w) := by
  have HC := Lib.hid (mat_any k pat name b w hp hn hT hm)
  clear hm hT
  go_enter Tryd.func22, Tryd.ntmps22
  go_upto_region 2 with (go_at_call 31; refine HC.out.mono ?_; rintro e w1 ⟨rfl, hb⟩)
  go_quiet (fail)
  go_wp2
  go_ret2
  exact ⟨rfl, below_drewN hb _⟩
theorem lmat_any (k : Nat) (pat name : List UInt8) (b : Bool) (w : World) (hp : pat.length ≤ 1099511627776) (hn : name.length ≤ 1099511627776) (hT : Lib.Utf8Tabs 1 2 w) (hm : Pl.matchF k true pat name Pl.s0 = some (b, false)) :
    Calls Tryd.prog 11 #[.string (Pl.S pat), .string (Pl.S name)] w (TwoPost b true w) := by
  have HC := Lib.hid (gmat_any k pat name b w hp hn hT hm)
  clear hm hT
  go_enter Tryd.func11, Tryd.ntmps11
  go_wp2_with (go_at_call 22; refine HC.out.mono ?_; rintro e w1 ⟨rfl, hb⟩)
  go_ret2
  exact ⟨rfl, hb⟩

theorem star_a (v : Bool) : Pl.matchF 5 v [42] [97] Pl.s0 = some (true, false) := by cases v <;> decide
theorem star_ok : Pl.validM [42] 0 0 = true := by decide

theorem awake_any (w : World) (hT : Lib.Utf8Tabs 1 2 w) : Calls Tryd.prog 12 #[] w (OnePost true w) := by
  go_enter Tryd.func12, Tryd.ntmps12
  go_wp2_with fail
  refine (gmat_any 5 [42] [97] true _ (by decide) (by decide) hT (star_a true)).mono ?_
  rintro e w1 ⟨rfl, hb⟩
  have hT1 := tabs_below hT hb
  go_wp2_with fail
  refine (gany_any 5 [42] [97] true _ (by decide) (by decide) hT1 (star_a false)).mono ?_
  rintro e w2 ⟨rfl, hb2⟩
  go_wp2_with fail
  refine (gval_any [42] _ (by decide)).mono ?_
  rintro e w3 ⟨rfl, rfl⟩
  rw [star_ok]
  go_wp2_with fail
  go_ret
  exact ⟨rfl, hb.trans (hb2.mono hb.size)⟩

def TextPost (ps : List Pl.Part) (w : World) (e : Ending) (w' : World) : Prop := ∃ (l : List UInt8) (ok : Bool), e = .returned (.tuple #[.string (Pl.S l), .bool ok]) ∧ Below w.heap.size w w' ∧ (ok = true → l = Pl.asT true ps ∧ 0 < ps.length ∧ Pl.okParts ps)

theorem okTerms_wf {l : List Pl.Term} (h : Pl.okTerms l) : ∃ c, Pl.wfL c l = true := by
  obtain ⟨deep, left, ⟨s, e, n, x⟩, hr⟩ := h
  exact ⟨false, (Pl.flatL l deep left false false true s e n x hr).1⟩

theorem gtext_any (n : Nat) (gv : Value) (ps : List Pl.Part) (w : World) (hg : Rd.GlobV w w.heap.size n gv ps) (ht : (Pl.asT true ps).length ≤ 1073741824) :
    Calls Tryd.prog 9 #[gv] w (TextPost ps w) := by
  obtain ⟨vs, rfl, hv⟩ := hg
  obtain ⟨A, cap, rfl, hm, hx⟩ := hv.form
  have HG : Hid (Rd.GlobV w w.heap.size n (.agg #[.slice A ps.length cap]) ps) := Lib.hid ⟨_, rfl, hv⟩
  have hW : Below w.heap.size w (w.alloc (.cells #[.slice A ps.length cap] 30)) := (Below.refl _ _).alloc (Nat.le_refl _) _
  have hbox : Hid ((w.alloc (.cells #[.slice A ps.length cap] 30)).cell? ⟨w.heap.size, 0, none⟩ = some (.slice A ps.length cap)) := Lib.hid (by simp)
  clear hx hv
  go_enter Tryd.func9, Tryd.ntmps9
  go_wp2_with fail
  refine (right_any n _ ps _ (HG.out.up hW)).mono ?_
  rintro e w1 ⟨b1, rfl, hb1, hr1⟩
  have hw1 := hW.trans (hb1.mono (by simp))
  have hc1 := (hb1.cell (p := ⟨w.heap.size, 0, none⟩) (by simp)).trans hbox.out
  cases b1
  · clear hr1
    go_wp2_with fail
    go_ret2
    exact ⟨[], false, rfl, hw1, fun h => by cases h⟩
  have HR := Lib.hid (hr1 rfl)
  clear hr1
  go_wp2_with fail
  refine (open_any n _ ps _ (HG.out.up hw1)).mono ?_
  rintro e w2 ⟨b2, rfl, hb2, hr2⟩
  replace hb2 := hb1.trans (hb2.mono hb1.size)
  have hw2 := hW.trans (hb2.mono (by simp))
  have hc2 := (hb2.cell (p := ⟨w.heap.size, 0, none⟩) (by simp)).trans hbox.out
  clear hb1 hc1 hw1
  cases b2
  case true =>
    clear hr2
    go_wp2_with fail
    go_ret2
    exact ⟨[], false, rfl, hw2, fun h => by cases h⟩
  have HO := Lib.hid (hr2 rfl)
  clear hr2
  go_wp2_with fail
  refine (vanishes_any n _ ps _ (HG.out.up hw2)).mono ?_
  rintro e w3 ⟨b3, rfl, hb3⟩
  replace hb3 := hb2.trans (hb3.mono hb2.size)
  have hw3 := hW.trans (hb3.mono (by simp))
  have hc3 := (hb3.cell (p := ⟨w.heap.size, 0, none⟩) (by simp)).trans hbox.out
  clear hb2 hc2 hw2
  cases b3
  case true =>
    go_wp2_with fail
    go_ret2
    exact ⟨[], false, rfl, hw3, fun h => by cases h⟩
  go_wp2_with fail
  refine (text_any n _ ps _ (HG.out.up hw3) (by omega)).mono ?_
  rintro e w4 ⟨rfl, hb4⟩
  replace hb4 := hw3.trans (hb4.mono hw3.size)
  go_wp2_with fail
  go_ret2
  exact ⟨_, true, rfl, hb4, fun _ => ⟨rfl, HR.out.1, fun p hp ha => ⟨okTerms_wf (HR.out.2 p hp ha).2, HO.out p hp ha⟩⟩⟩

set_option maxRecDepth 100000 in
theorem rooted_any (n : Nat) (gv : Value) (ps : List Pl.Part) (l : List UInt8) (w : World) (hg : Rd.GlobV w w.heap.size n gv ps) (hl : l.length ≤ 1048576) (hp : ps.length ≤ 1048576) (ht : (Pl.asT true ps).length ≤ 1073741824) (hT : Lib.Utf8Tabs 1 2 w) :
    Calls Tryd.prog 4 #[gv, .string (Pl.S l)] w fun e w' => e = .returned (.bool true) ∧ Below w.heap.size w w' := by
  obtain ⟨vs, rfl, hv⟩ := hg
  obtain ⟨A, cap, rfl, hm, hx⟩ := hv.form
  have HX := Lib.hid hx
  have HG : Hid (Rd.GlobV w w.heap.size n (.agg #[.slice A ps.length cap]) ps) := Lib.hid ⟨_, rfl, hv⟩
  have hsl : (Pl.S l).size ≤ 1048576 := by rw [Pl.S_size]; exact hl
  have hW : Below w.heap.size w (w.alloc (.cells #[.slice A ps.length cap] 30)) := (Below.refl _ _).alloc (Nat.le_refl _) _
  have hbox : Hid ((w.alloc (.cells #[.slice A ps.length cap] 30)).cell? ⟨w.heap.size, 0, none⟩ = some (.slice A ps.length cap)) := Lib.hid (by simp)
  have HT := Lib.hid hT
  clear hx hv hT
  go_enter Tryd.func4, Tryd.ntmps4
  go_wp2_with fail
  refine (fits_any n _ ps _ (HG.out.up hW) hp).mono ?_
  rintro e w1 ⟨rfl, hb1⟩
  have hw1 := hW.trans (hb1.mono (by simp))
  have hc1 := (hb1.cell (p := ⟨w.heap.size, 0, none⟩) (by simp)).trans hbox.out
  go_wp2_with fail
  refine (gtext_any n _ ps _ (HG.out.up hw1) ht).mono ?_
  rintro e w2 ⟨sl, ok, rfl, hb2, hok⟩
  replace hb2 := hb1.trans (hb2.mono hb1.size)
  have hw2 := hW.trans (hb2.mono (by simp))
  have hc2 := (hb2.cell (p := ⟨w.heap.size, 0, none⟩) (by simp)).trans hbox.out
  have HOK := Lib.hid hok
  clear hb1 hc1 hw1 hok
  go_wp2_with fail
  refine (name_any l _ hl).mono ?_
  rintro e w3 ⟨v3, b3, rfl, hb3, hn3⟩
  replace hb3 := hb2.trans (hb3.mono hb2.size)
  have hw3 := hW.trans (hb3.mono (by simp))
  have hc3 := (hb3.cell (p := ⟨w.heap.size, 0, none⟩) (by simp)).trans hbox.out
  have HN := Lib.hid hn3
  clear hb2 hc2 hw2 hn3
  cases ok
  · clear HOK HN HX
    go_wp2_with fail
    go_ret
    exact ⟨rfl, hw3⟩
  cases b3
  · clear HOK HN HX
    go_wp2_with fail
    go_ret
    exact ⟨rfl, hw3⟩
  obtain ⟨rfl, hpos, hparts⟩ := HOK.out rfl
  obtain ⟨rs, hrs⟩ := HN.out rfl
  clear HOK HN
  obtain ⟨⟨any, tl⟩, hx0⟩ : ∃ x, ps[0]? = some x := ⟨_, List.getElem?_eq_getElem hpos⟩
  obtain ⟨pb, poff, rfl, hpb, pv, hp0, hp1, _⟩ := HX.out 0 _ hx0
  have hq0 := (hw3.cell (p := ⟨pb, poff + 0 * 2, none⟩) hpb).trans hp0
  simp only [Nat.zero_mul, Nat.add_zero] at hq0
  have hpos' : (0 : Int) < (ps.length : Int) := by omega
  clear hp0 hp1 HX hx0
  cases any
  case true =>
    clear hparts hrs
    go_wp2_with fail
    go_ret
    exact ⟨rfl, hw3⟩
  obtain ⟨k, b, hm1, hm2, hm3⟩ := Pl.rooted_law hparts hrs
  have H1 := Lib.hid hm1
  have H2 := Lib.hid hm2
  have H3 := Lib.hid hm3
  have hlen : (47 :: Pl.asT true ps).length ≤ 1099511627776 := by simp; omega
  have hlenn : (47 :: l).length ≤ 1099511627776 := by simp; omega
  have hcp : (⟨#[47]⟩ : ByteArray) ++ Pl.S (Pl.asT true ps) = Pl.S (47 :: Pl.asT true ps) := by rw [Pl.lit1, Pl.S_add]; rfl
  have hcn : (⟨#[47]⟩ : ByteArray) ++ Pl.S l = Pl.S (47 :: l) := by rw [Pl.lit1, Pl.S_add]; rfl
  have HCP := Lib.hid hcp
  have HCN := Lib.hid hcn
  have hzp : (Pl.S (Pl.asT true ps)).size ≤ 1073741824 := by rw [Pl.S_size]; exact ht
  clear hm1 hm2 hm3 hparts hrs hcp hcn
  generalize Pl.asT true ps = s at *
  go_wp2_with fail
  refine (lmat_any k s l b _ (by omega) (by omega) (tabs_below HT.out hw3) H1.out).mono ?_
  rintro e w4 ⟨rfl, hb4⟩
  replace hb4 := hw3.trans (hb4.mono hw3.size)
  clear hq0 hc3 hb3
  go_wp2_with fail
  rw [HCP.out, HCN.out]
  refine (lmat_any (k + 1) (47 :: s) (47 :: l) b _ hlen hlenn (tabs_below HT.out hb4) H2.out).mono ?_
  rintro e w5 ⟨rfl, hb5⟩
  replace hb5 := hb4.trans (hb5.mono hb4.size)
  go_wp2_with fail
  rw [HCP.out]
  refine (lmat_any 1 (47 :: s) l false _ hlen (by omega) (tabs_below HT.out hb5) H3.out).mono ?_
  rintro e w6 ⟨rfl, hb6⟩
  replace hb6 := hb5.trans (hb6.mono hb5.size)
  cases b
  all_goals
    go_wp2_with fail
    refine (awake_any _ (tabs_below HT.out hb6)).mono ?_
    rintro e w7 ⟨rfl, hb7⟩
    go_wp2_with fail
    go_ret
    exact ⟨rfl, hb6.trans (hb7.mono hb6.size)⟩
end Go.Proofs.YthkbkiigpflonaaDoor
