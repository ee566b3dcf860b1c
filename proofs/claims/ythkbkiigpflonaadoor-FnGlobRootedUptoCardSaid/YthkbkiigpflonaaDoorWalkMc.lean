/-
  The walk of the program's match: the rounds of its look at a class.
-/
import Derived.Test.YthkbkiigpflonaaDoorWalkM
namespace Go.Proofs.YthkbkiigpflonaaDoor
open Go.RowKit

set_option maxHeartbeats 4000000
set_option maxRecDepth 100000

/-- One round of the look at a class. -/
noncomputable def clsBody : Code := (firstLoop mSw).getD .skip

/-- Where the look at a class stands: in the pattern at q; the name's letter x takes d bytes; m: it is of the class; last: the letter that a range may begin with. -/
structure FrC (pat name : List UInt8) (v : Bool) (s : Pl.St) (q x d : Nat) (m : Bool) (last : Nat) (a : Act) : Prop where
  fr : Fr pat name v ⟨q, s.ni, false, s.ds, s.st⟩ a
  h31 : a.tmps.getD 31 undef = .int .i32 x
  h32 : a.tmps.getD 32 undef = .int .i64 d
  h33 : a.tmps.getD 33 undef = .bool m
  h34 : a.tmps.getD 34 undef = .bool false
  h35 : a.tmps.getD 35 undef = .int .i32 last

theorem cls_open {pat name : List UInt8} {v : Bool} {s : Pl.St} {q x d : Nat} {m : Bool} {last : Nat} {a : Act} (h : FrC pat name v s q x d m last a) : ∃ u : Nat → Value, a = ⟨#[.string (Pl.S pat), .string (Pl.S name), .int .i32 47, .bool v, .bool false, .int .i64 (optP s.ds), .int .i64 (optN s.ds), .int .i64 (optP s.st), .int .i64 (optN s.st), .int .i64 q, .int .i64 s.ni, u 11, u 12, u 13, u 14, u 15, u 16, u 17, u 18, u 19, u 20, u 21, u 22, u 23, .int .i64 (Pl.S pat).size, .int .i64 (Pl.S name).size, .bool false, u 27, u 28, u 29, u 30, .int .i32 x, .int .i64 d, .bool m, .bool false, .int .i32 last, u 36, u 37, u 38, u 39, u 40, u 41, u 42, u 43, u 44, u 45, u 46, u 47, u 48, u 49, u 50, u 51, u 52, u 53, u 54, u 55, u 56, u 57, u 58, u 59, u 60, u 61, u 62, u 63, u 64, u 65, u 66, u 67, u 68, u 69, u 70, u 71, u 72, u 73, u 74, u 75, u 76, u 77, u 78, u 79, u 80, u 81, u 82, u 83, u 84, u 85, u 86, u 87, u 88, u 89, u 90, u 91, u 92, u 93, u 94, u 95, u 96, u 97, u 98, u 99, u 100, u 101, u 102, u 103, u 104, u 105, u 106, u 107, u 108, u 109, u 110, u 111, u 112, u 113, u 114, u 115, u 116, u 117, u 118, u 119, u 120, u 121, u 122, u 123, u 124, u 125, u 126, u 127, u 128, u 129, u 130, u 131, u 132, u 133, u 134, u 135, u 136, u 137, u 138, u 139, u 140, u 141, u 142, u 143, u 144, u 145, u 146, u 147, u 148, u 149, u 150, u 151, u 152, u 153, u 154, u 155, u 156, u 157, u 158, u 159, u 160, u 161, u 162, u 163, u 164, u 165, u 166, u 167, u 168, u 169, u 170, u 171, u 172, u 173, u 174, u 175, u 176, u 177, u 178, u 179, u 180, u 181, u 182, u 183, u 184, u 185, u 186, u 187, u 188, u 189, u 190, u 191, u 192, u 193, u 194, u 195, u 196, u 197, u 198, u 199, u 200, u 201, u 202, u 203, u 204, u 205, u 206, u 207, u 208, u 209, u 210, u 211, u 212, u 213, u 214, u 215, u 216, u 217, u 218, u 219, u 220, u 221, u 222, u 223, u 224, u 225, u 226, u 227, u 228, u 229, u 230, u 231, u 232, u 233, u 234, u 235, u 236, u 237, u 238, u 239, u 240, u 241, u 242, u 243, u 244, u 245, u 246, u 247, u 248, u 249, u 250, u 251, u 252, u 253, u 254, u 255, u 256, u 257, u 258, u 259, u 260, u 261, u 262, u 263, u 264, u 265, u 266, u 267, u 268, u 269, u 270, u 271, u 272, u 273, u 274, u 275, u 276, u 277, u 278, u 279, u 280, u 281, u 282, u 283, u 284, u 285, u 286, u 287, u 288, u 289, u 290, u 291, u 292, u 293, u 294, u 295, u 296, u 297, u 298, u 299, u 300, u 301, u 302, u 303, u 304, u 305, u 306, u 307, u 308, u 309, u 310, u 311, u 312, u 313, u 314, u 315, u 316, u 317, u 318, u 319, u 320, u 321, u 322, u 323, u 324, u 325, u 326, u 327, u 328, u 329, u 330, u 331, u 332, u 333, u 334, u 335, u 336, u 337, u 338, u 339, u 340, u 341, u 342, u 343, u 344, u 345, u 346, u 347, u 348, u 349, u 350, u 351, u 352, u 353, u 354, u 355, u 356, u 357, u 358, u 359, u 360, u 361, u 362, u 363, u 364, u 365, u 366, u 367, u 368, u 369, u 370, u 371, u 372, u 373, u 374, u 375, u 376, u 377, u 378, u 379, u 380, u 381, u 382, u 383, u 384, u 385, u 386, u 387, u 388, u 389, u 390, u 391, u 392, u 393, u 394, u 395, u 396, u 397, u 398, u 399, u 400, u 401, u 402, u 403, u 404, u 405, u 406, u 407, u 408, u 409, u 410, u 411, u 412, u 413, u 414, u 415, u 416, u 417, u 418, u 419, u 420, u 421, u 422, u 423, u 424, u 425, u 426, u 427, u 428, u 429, u 430, u 431, u 432, u 433, u 434, u 435, u 436, u 437, u 438, u 439, u 440, u 441, u 442, u 443, u 444, u 445, u 446, u 447, u 448, u 449, u 450, u 451, u 452, u 453, u 454, u 455, u 456, u 457, u 458, u 459, u 460, u 461, u 462, u 463, u 464, u 465, u 466], []⟩ := by
  obtain ⟨u, hu, ha⟩ := fr_open h.fr
  have e31 := (hu 31).symm.trans h.h31
  have e32 := (hu 32).symm.trans h.h32
  have e33 := (hu 33).symm.trans h.h33
  have e34 := (hu 34).symm.trans h.h34
  have e35 := (hu 35).symm.trans h.h35
  rw [e31, e32, e33, e34, e35] at ha
  exact ⟨u, ha⟩

/-- At the class's end, or the pattern's. -/
theorem cls_end (pat name : List UInt8) (v : Bool) (s : Pl.St) (q x d last : Nat) (a : Act) (w : World) (Q : Exit → Act → World → Prop) (hC : FrC pat name v s q x d false last a) (hp : pat.length ≤ 1099511627776)
    (hq : q ≤ pat.length) (he : pat.drop q = [] ∨ ∃ t, pat.drop q = 93 :: t) (hout : ∀ a', FrC pat name v s q x d false last a' → Q (.exit 9) a' w) : clsBody.wp Tryd.prog Q a w := by
  obtain ⟨u, rfl⟩ := cls_open hC
  clear hC
  have hsz := Pl.S_size pat
  have hB : (Pl.S pat).size ≤ 1099511627776 := by omega
  rcases he with he | ⟨t, hd⟩
  · have hl := congrArg List.length he
    rw [List.length_drop, List.length_nil] at hl
    have hge : ¬ ((q : Int) < ((Pl.S pat).size : Int)) := by omega
    have hge' : ¬ (q < (Pl.S pat).size) := by omega
    have hge2 : decide ((q : Int) < ((Pl.S pat).size : Int)) = false := by simpa using hge'
    clear he hl hsz hq
    conv => arg 2; whnf
    go_wp2_with fail
    exact ⟨⟨rfl, rfl, rfl, rfl, rfl, rfl, rfl, rfl, rfl, rfl, rfl, rfl, rfl, rfl, rfl, rfl⟩, rfl, rfl, rfl, rfl, rfl⟩
  · obtain ⟨hc, _⟩ := drop_get hd
    have hlt := drop_lt hd
    have hg := Pl.S_get pat q 93 hc
    have hlt' : q < (Pl.S pat).size := by omega
    clear hd hc hlt hsz hq
    conv => arg 2; whnf
    go_wp2_with fail
    exact ⟨⟨rfl, rfl, rfl, rfl, rfl, rfl, rfl, rfl, rfl, rfl, rfl, rfl, rfl, rfl, rfl, rfl⟩, rfl, rfl, rfl, rfl, rfl⟩

/-- A letter of the class that begins no range's end. -/
theorem cls_one (pat name : List UInt8) (v : Bool) (s : Pl.St) (q x d last : Nat) (a : Act) (w : World) (Q : Exit → Act → World → Prop) (hC : FrC pat name v s q x d false last a) (hp : pat.length ≤ 1099511627776) (hT : Lib.Utf8Tabs 1 2 w)
    (c : UInt8) (t : List UInt8) (hd : pat.drop q = c :: t) (h93 : c.toNat ≠ 93) (x0 d0 : Nat) (hx0 : Pl.dec (c :: t) = (x0, d0)) (h92 : x0 ≠ 92)
    (hnr : x0 ≠ 45)
    (hyes : x0 = x → ∀ a' w', FrC pat name v s (q + d0) x d true last a' → Below w.heap.size w w' → Q (.exit 9) a' w')
    (hno : x0 ≠ x → ∀ a' w', FrC pat name v s (q + d0) x d false x0 a' → Below w.heap.size w w' → Q .normal a' w') : clsBody.wp Tryd.prog Q a w := by
  obtain ⟨u, rfl⟩ := cls_open hC
  clear hC
  have hsz := Pl.S_size pat
  have hB : (Pl.S pat).size ≤ 1099511627776 := by omega
  obtain ⟨hc, _⟩ := drop_get hd
  have hlt := drop_lt hd
  have hg := Pl.S_get pat q c hc
  have hlt' : q < (Pl.S pat).size := by omega
  have t93 : ((c.toNat : Int) == 93) = false := by rw [beq_eq_false_iff_ne]; omega
  have t93' : ((c.toNat : Int) != 93) = true := by rw [bne, t93]; rfl
  have t92 : ((x0 : Int) == 92) = false := by rw [beq_eq_false_iff_ne]; omega
  have hex := S_from pat q
  rw [hd] at hex
  have hlp := dec_lt pat q x0 d0 (by omega) (by rw [hd]; exact hx0)
  have hsum : (q : Int) + (d0 : Int) ≤ ((Pl.S pat).size : Int) := by omega
  have HD := Lib.hid hx0
  generalize c :: t = pt at *
  have hcut : (decide ((last : Int) < 1114111) = false) ∨ ((last : Int) < 1114111 ∧ ((x0 : Int) == 45) = false) := by
    by_cases hl : (last : Int) < 1114111
    · exact .inr ⟨hl, by rw [beq_eq_false_iff_ne]; omega⟩
    · exact .inl (by simpa using hl)
  have HY := Lib.hid hyes
  have HN := Lib.hid hno
  clear hd hc hlt hsz hlp hx0 hnr h92 h93 hyes hno
  conv => arg 2; whnf
  rcases hcut with h1 | ⟨h1, h2⟩
  · go_upto_region 59 with (first | (go_at_call 40; refine (dec_at pt _ hT x0 d0 HD.out).mono ?_; rintro e1 w1 ⟨rfl, hb⟩))
    by_cases hxx : x0 = x
    · have HX := Lib.hid hxx
      have HYX := Lib.hid (HY.out hxx)
      have hxi : (x0 : Int) = (x : Int) := by omega
      have HXI := Lib.hid hxi
      clear hxx hxi
      go_wp2_with (go_at_call 42; refine (rune_yes _ _ _ _ HXI.out).mono ?_; rintro e1 w3 ⟨rfl, rfl⟩)
      refine HYX.out _ _ ?_ hb
      exact ⟨⟨rfl, rfl, rfl, rfl, rfl, rfl, rfl, rfl, rfl, rfl, rfl, rfl, rfl, rfl, rfl, rfl⟩, rfl, rfl, rfl, rfl, rfl⟩
    · have HYX := Lib.hid (HN.out hxx)
      have HXI := Lib.hid (show (x0 : Int) ≠ (x : Int) by omega)
      clear hxx
      go_wp2_with (go_at_call 42; refine (rune_no _ _ _ _ HXI.out).mono ?_; rintro e1 w3 ⟨rfl, rfl⟩)
      refine HYX.out _ _ ?_ hb
      exact ⟨⟨rfl, rfl, rfl, rfl, rfl, rfl, rfl, rfl, rfl, rfl, rfl, rfl, rfl, rfl, rfl, rfl⟩, rfl, rfl, rfl, rfl, rfl⟩
  · go_upto_region 59 with (first | (go_at_call 40; refine (dec_at pt _ hT x0 d0 HD.out).mono ?_; rintro e1 w1 ⟨rfl, hb⟩))
    by_cases hxx : x0 = x
    · have HX := Lib.hid hxx
      have HYX := Lib.hid (HY.out hxx)
      have hxi : (x0 : Int) = (x : Int) := by omega
      have HXI := Lib.hid hxi
      clear hxx hxi
      go_wp2_with (go_at_call 42; refine (rune_yes _ _ _ _ HXI.out).mono ?_; rintro e1 w3 ⟨rfl, rfl⟩)
      refine HYX.out _ _ ?_ hb
      exact ⟨⟨rfl, rfl, rfl, rfl, rfl, rfl, rfl, rfl, rfl, rfl, rfl, rfl, rfl, rfl, rfl, rfl⟩, rfl, rfl, rfl, rfl, rfl⟩
    · have HYX := Lib.hid (HN.out hxx)
      have HXI := Lib.hid (show (x0 : Int) ≠ (x : Int) by omega)
      clear hxx
      go_wp2_with (go_at_call 42; refine (rune_no _ _ _ _ HXI.out).mono ?_; rintro e1 w3 ⟨rfl, rfl⟩)
      refine HYX.out _ _ ?_ hb
      exact ⟨⟨rfl, rfl, rfl, rfl, rfl, rfl, rfl, rfl, rfl, rfl, rfl, rfl, rfl, rfl, rfl, rfl⟩, rfl, rfl, rfl, rfl, rfl⟩

/-- A letter of the class behind a backslash. -/
theorem cls_esc (pat name : List UInt8) (v : Bool) (s : Pl.St) (q x d last : Nat) (a : Act) (w : World) (Q : Exit → Act → World → Prop) (hC : FrC pat name v s q x d false last a) (hp : pat.length ≤ 1099511627776) (hT : Lib.Utf8Tabs 1 2 w)
    (c : UInt8) (t : List UInt8) (hd : pat.drop q = c :: t) (h93 : c.toNat ≠ 93) (d0 : Nat) (hx0 : Pl.dec (c :: t) = (92, d0)) (y d1 : Nat) (hx1 : Pl.dec (pat.drop (q + d0)) = (y, d1))
    (hyes : y = x → ∀ a' w', FrC pat name v s (q + d0 + d1) x d true last a' → Below w.heap.size w w' → Q (.exit 9) a' w')
    (hno : y ≠ x → ∀ a' w', FrC pat name v s (q + d0 + d1) x d false y a' → Below w.heap.size w w' → Q .normal a' w') : clsBody.wp Tryd.prog Q a w := by
  obtain ⟨u, rfl⟩ := cls_open hC
  clear hC
  have hsz := Pl.S_size pat
  have hB : (Pl.S pat).size ≤ 1099511627776 := by omega
  obtain ⟨hc, _⟩ := drop_get hd
  have hlt := drop_lt hd
  have hg := Pl.S_get pat q c hc
  have hlt' : q < (Pl.S pat).size := by omega
  have t93 : ((c.toNat : Int) == 93) = false := by rw [beq_eq_false_iff_ne]; omega
  have t93' : ((c.toNat : Int) != 93) = true := by rw [bne, t93]; rfl
  have hex := S_from pat q
  rw [hd] at hex
  have HD := Lib.hid hx0
  have HD1 := Lib.hid hx1
  have hlp := dec_lt pat q 92 d0 (by omega) (by rw [hd]; exact hx0)
  have hlp1 := dec_lt pat (q + d0) y d1 (by omega) hx1
  have hex1 := S_from pat (q + d0)
  have hsum : (q : Int) + (d0 : Int) ≤ ((Pl.S pat).size : Int) := by omega
  have hsum1 : (q : Int) + (d0 : Int) + (d1 : Int) ≤ ((Pl.S pat).size : Int) := by omega
  have hcut : (decide ((last : Int) < 1114111) = false) ∨ ((last : Int) < 1114111) := by
    by_cases hl : (last : Int) < 1114111
    · exact .inr hl
    · exact .inl (by simpa using hl)
  have HY := Lib.hid hyes
  have HN := Lib.hid hno
  generalize c :: t = pt at *
  generalize pat.drop (q + d0) = pu at *
  clear hd hc hlt hsz hlp hlp1 hx0 hx1 h93 hyes hno
  conv => arg 2; whnf
  rcases hcut with h1 | h1
  · go_upto_region 57 with (first | (go_at_call 40; refine (dec_at pt _ hT 92 d0 HD.out).mono ?_; rintro e1 w1 ⟨rfl, hb⟩))
    have hT1 := tabs_below hT hb
    go_upto_region 59 with (first | (go_at_call 40; refine (dec_at pu _ hT1 y d1 HD1.out).mono ?_; rintro e1 w2 ⟨rfl, hb2⟩))
    by_cases hxx : y = x
    · have HYX := Lib.hid (HY.out hxx)
      have HXI := Lib.hid (show (y : Int) = (x : Int) by omega)
      clear hxx
      go_wp2_with (go_at_call 42; refine (rune_yes _ _ _ _ HXI.out).mono ?_; rintro e1 w3 ⟨rfl, rfl⟩)
      refine HYX.out _ _ ?_ (hb.trans (hb2.mono hb.size))
      exact ⟨⟨rfl, rfl, rfl, rfl, rfl, rfl, rfl, rfl, rfl, rfl, rfl, rfl, rfl, rfl, rfl, rfl⟩, rfl, rfl, rfl, rfl, rfl⟩
    · have HYX := Lib.hid (HN.out hxx)
      have HXI := Lib.hid (show (y : Int) ≠ (x : Int) by omega)
      clear hxx
      go_wp2_with (go_at_call 42; refine (rune_no _ _ _ _ HXI.out).mono ?_; rintro e1 w3 ⟨rfl, rfl⟩)
      refine HYX.out _ _ ?_ (hb.trans (hb2.mono hb.size))
      exact ⟨⟨rfl, rfl, rfl, rfl, rfl, rfl, rfl, rfl, rfl, rfl, rfl, rfl, rfl, rfl, rfl, rfl⟩, rfl, rfl, rfl, rfl, rfl⟩
  · go_upto_region 57 with (first | (go_at_call 40; refine (dec_at pt _ hT 92 d0 HD.out).mono ?_; rintro e1 w1 ⟨rfl, hb⟩))
    have hT1 := tabs_below hT hb
    go_upto_region 59 with (first | (go_at_call 40; refine (dec_at pu _ hT1 y d1 HD1.out).mono ?_; rintro e1 w2 ⟨rfl, hb2⟩))
    by_cases hxx : y = x
    · have HYX := Lib.hid (HY.out hxx)
      have HXI := Lib.hid (show (y : Int) = (x : Int) by omega)
      clear hxx
      go_wp2_with (go_at_call 42; refine (rune_yes _ _ _ _ HXI.out).mono ?_; rintro e1 w3 ⟨rfl, rfl⟩)
      refine HYX.out _ _ ?_ (hb.trans (hb2.mono hb.size))
      exact ⟨⟨rfl, rfl, rfl, rfl, rfl, rfl, rfl, rfl, rfl, rfl, rfl, rfl, rfl, rfl, rfl, rfl⟩, rfl, rfl, rfl, rfl, rfl⟩
    · have HYX := Lib.hid (HN.out hxx)
      have HXI := Lib.hid (show (y : Int) ≠ (x : Int) by omega)
      clear hxx
      go_wp2_with (go_at_call 42; refine (rune_no _ _ _ _ HXI.out).mono ?_; rintro e1 w3 ⟨rfl, rfl⟩)
      refine HYX.out _ _ ?_ (hb.trans (hb2.mono hb.size))
      exact ⟨⟨rfl, rfl, rfl, rfl, rfl, rfl, rfl, rfl, rfl, rfl, rfl, rfl, rfl, rfl, rfl, rfl⟩, rfl, rfl, rfl, rfl, rfl⟩

/-- A range of the class. -/
theorem cls_rng (pat name : List UInt8) (v : Bool) (s : Pl.St) (q x d last : Nat) (a : Act) (w : World) (Q : Exit → Act → World → Prop) (hC : FrC pat name v s q x d false last a) (hp : pat.length ≤ 1099511627776) (hT : Lib.Utf8Tabs 1 2 w)
    (c : UInt8) (t : List UInt8) (hd : pat.drop q = c :: t) (h93 : c.toNat ≠ 93) (d0 : Nat) (hx0 : Pl.dec (c :: t) = (45, d0)) (hl : last < 1114111) (c1 : UInt8) (t1 : List UInt8) (hd1 : pat.drop (q + d0) = c1 :: t1) (h193 : c1.toNat ≠ 93)
    (f : Nat) (hf : f = if c1.toNat = 92 then 1 else 0) (y d1 : Nat) (hx1 : Pl.dec (pat.drop (q + d0 + f)) = (y, d1))
    (hyes : (last ≤ x ∧ x ≤ y) → ∀ a' w', FrC pat name v s (q + d0 + f + d1) x d true last a' → Below w.heap.size w w' → Q (.exit 9) a' w')
    (hno : ¬ (last ≤ x ∧ x ≤ y) → ∀ a' w', FrC pat name v s (q + d0 + f + d1) x d false 1114111 a' → Below w.heap.size w w' → Q .normal a' w') : clsBody.wp Tryd.prog Q a w := by
  obtain ⟨u, rfl⟩ := cls_open hC
  clear hC
  have hsz := Pl.S_size pat
  have hB : (Pl.S pat).size ≤ 1099511627776 := by omega
  obtain ⟨hc, _⟩ := drop_get hd
  have hlt := drop_lt hd
  have hg := Pl.S_get pat q c hc
  have hlt' : q < (Pl.S pat).size := by omega
  have t93 : ((c.toNat : Int) == 93) = false := by rw [beq_eq_false_iff_ne]; omega
  have t93' : ((c.toNat : Int) != 93) = true := by rw [bne, t93]; rfl
  have hex := S_from pat q
  rw [hd] at hex
  have HD := Lib.hid hx0
  have HD1 := Lib.hid hx1
  have hlp := dec_lt pat q 45 d0 (by omega) (by rw [hd]; exact hx0)
  obtain ⟨hc1, _⟩ := drop_get hd1
  have hlt1 := drop_lt hd1
  have hg1 := Pl.S_get pat (q + d0) c1 hc1
  have hsum : (q : Int) + (d0 : Int) < ((Pl.S pat).size : Int) := by omega
  have u93 : ((c1.toNat : Int) == 93) = false := by rw [beq_eq_false_iff_ne]; omega
  have u93' : ((c1.toNat : Int) != 93) = true := by rw [bne, u93]; rfl
  have h1 : (last : Int) < 1114111 := by omega
  have hz : (0 : Int) ≤ (q : Int) + (d0 : Int) := by omega
  have HY := Lib.hid hyes
  have HN := Lib.hid hno
  conv => arg 2; whnf
  by_cases h92 : c1.toNat = 92
  · have t92 : ((c1.toNat : Int) == 92) = true := by rw [h92]; rfl
    rw [if_pos h92] at hf
    subst hf
    have hlp1 := dec_lt pat (q + d0 + 1) y d1 (by omega) hx1
    have hex1 := S_from pat (q + d0 + 1)
    have hsum1 : (q : Int) + (d0 : Int) + 1 + (d1 : Int) ≤ ((Pl.S pat).size : Int) := by omega
    generalize c :: t = pt at *
    generalize pat.drop (q + d0 + 1) = pu at *
    clear hd hc hlt hsz hlp hlp1 hx0 hx1 h93 hyes hno hd1 hc1 hlt1 h193 hl h92
    go_upto_region 48 with (first | (go_at_call 40; refine (dec_at pt _ hT 45 d0 HD.out).mono ?_; rintro e1 w1 ⟨rfl, hb⟩))
    have hT1 := tabs_below hT hb
    go_upto_region 53 with (first | (go_at_call 40; refine (dec_at pu _ hT1 y d1 HD1.out).mono ?_; rintro e1 w2 ⟨rfl, hb2⟩))
    by_cases hxx : last ≤ x ∧ x ≤ y
    · have HYX := Lib.hid (HY.out hxx)
      have HA := Lib.hid (show (last : Int) ≤ (x : Int) by omega)
      have HB := Lib.hid (show (x : Int) ≤ (y : Int) by omega)
      clear hxx
      go_wp2_with (go_at_call 41; refine (range_yes _ _ _ _ _ HA.out HB.out).mono ?_; rintro e1 w3 ⟨rfl, rfl⟩)
      refine HYX.out _ _ ?_ (hb.trans (hb2.mono hb.size))
      exact ⟨⟨rfl, rfl, rfl, rfl, rfl, rfl, rfl, rfl, rfl, rfl, rfl, rfl, rfl, rfl, rfl, rfl⟩, rfl, rfl, rfl, rfl, rfl⟩
    · have HYX := Lib.hid (HN.out hxx)
      have HA := Lib.hid (show ¬ ((last : Int) ≤ (x : Int) ∧ (x : Int) ≤ (y : Int)) by omega)
      clear hxx
      go_wp2_with (go_at_call 41; refine (range_no _ _ _ _ _ HA.out).mono ?_; rintro e1 w3 ⟨rfl, rfl⟩)
      refine HYX.out _ _ ?_ (hb.trans (hb2.mono hb.size))
      exact ⟨⟨rfl, rfl, rfl, rfl, rfl, rfl, rfl, rfl, rfl, rfl, rfl, rfl, rfl, rfl, rfl, rfl⟩, rfl, rfl, rfl, rfl, rfl⟩
  · have t92 : ((c1.toNat : Int) == 92) = false := by rw [beq_eq_false_iff_ne]; omega
    rw [if_neg h92] at hf
    subst hf
    simp only [Nat.add_zero] at hx1 hyes hno HY HN HD1
    have hlp1 := dec_lt pat (q + d0) y d1 (by omega) hx1
    have hex1 := S_from pat (q + d0)
    have hsum1 : (q : Int) + (d0 : Int) + (d1 : Int) ≤ ((Pl.S pat).size : Int) := by omega
    generalize c :: t = pt at *
    generalize pat.drop (q + d0) = pu at *
    clear hd hc hlt hsz hlp hlp1 hx0 hx1 h93 hyes hno hd1 hc1 hlt1 h193 hl h92
    go_upto_region 48 with (first | (go_at_call 40; refine (dec_at pt _ hT 45 d0 HD.out).mono ?_; rintro e1 w1 ⟨rfl, hb⟩))
    have hT1 := tabs_below hT hb
    go_upto_region 53 with (first | (go_at_call 40; refine (dec_at pu _ hT1 y d1 HD1.out).mono ?_; rintro e1 w2 ⟨rfl, hb2⟩))
    by_cases hxx : last ≤ x ∧ x ≤ y
    · have HYX := Lib.hid (HY.out hxx)
      have HA := Lib.hid (show (last : Int) ≤ (x : Int) by omega)
      have HB := Lib.hid (show (x : Int) ≤ (y : Int) by omega)
      clear hxx
      go_wp2_with (go_at_call 41; refine (range_yes _ _ _ _ _ HA.out HB.out).mono ?_; rintro e1 w3 ⟨rfl, rfl⟩)
      refine HYX.out _ _ ?_ (hb.trans (hb2.mono hb.size))
      exact ⟨⟨rfl, rfl, rfl, rfl, rfl, rfl, rfl, rfl, rfl, rfl, rfl, rfl, rfl, rfl, rfl, rfl⟩, rfl, rfl, rfl, rfl, rfl⟩
    · have HYX := Lib.hid (HN.out hxx)
      have HA := Lib.hid (show ¬ ((last : Int) ≤ (x : Int) ∧ (x : Int) ≤ (y : Int)) by omega)
      clear hxx
      go_wp2_with (go_at_call 41; refine (range_no _ _ _ _ _ HA.out).mono ?_; rintro e1 w3 ⟨rfl, rfl⟩)
      refine HYX.out _ _ ?_ (hb.trans (hb2.mono hb.size))
      exact ⟨⟨rfl, rfl, rfl, rfl, rfl, rfl, rfl, rfl, rfl, rfl, rfl, rfl, rfl, rfl, rfl, rfl⟩, rfl, rfl, rfl, rfl, rfl⟩
end Go.Proofs.YthkbkiigpflonaaDoor
