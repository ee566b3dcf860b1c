/-
  The walk of the program's match: the rounds of its alternatives.
-/
import Derived.Test.YthkbkiigpflonaaDoorWalkMd
import Derived.Deep.RegionWith
namespace Go.Proofs.YthkbkiigpflonaaDoor
open Go.RowKit

set_option maxHeartbeats 4000000
set_option maxRecDepth 100000

/-- Without a panic. -/
def NoP (Q : Exit → Act → World → Prop) : Exit → Act → World → Prop
  | .panic _, _, _ => False
  | e, a, w => Q e a w
theorem nop_wp {P : Program} {c : Code} {Q : Exit → Act → World → Prop} {a : Act} {w : World} (h : c.wp P (NoP Q) a w) : c.wp P Q a w :=
  wp_mono h fun e a w h => by
    cases e with
    | panic _ => exact False.elim h
    | _ => exact h

def blockIn (n : Nat) : Code → Option Code
  | .block m c => if m = n then some c else blockIn n c
  | .loop c => blockIn n c
  | .scope c => blockIn n c
  | .seq a b => match blockIn n a with
    | some c => some c
    | none => blockIn n b
  | .cond _ a b => match blockIn n a with
    | some c => some c
    | none => blockIn n b
  | _ => none
/-- One round of the alternatives. -/
noncomputable def altBody : Code := ((blockIn 11 mSw).bind firstLoop).getD .skip

/-- What a call of the match hands back. -/
def MatchPost (b : Bool) (w : World) (e : Ending) (w' : World) : Prop := e = .returned (.tuple #[.bool b, .nilIface]) ∧ Below w.heap.size w w'
/-- What is known of the match with at most so many steps. -/
def MatchAt (k : Nat) : Prop := ∀ (pat name : List UInt8) (v b : Bool) (s : Pl.St) (w : World), pat.length ≤ 1099511627776 → name.length ≤ 1099511627776 → s.pi ≤ pat.length → s.ni ≤ name.length → s.sos = Pl.sos0 pat s.pi → Lib.Utf8Tabs 1 2 w →
    Pl.matchF k v pat name s = some (b, false) →
    Calls Tryd.prog 39 #[.string (Pl.S pat), .string (Pl.S name), .int .i32 47, .bool v, .bool false, .int .i64 (optP s.ds), .int .i64 (optN s.ds), .int .i64 (optP s.st), .int .i64 (optN s.st), .int .i64 s.pi, .int .i64 s.ni] w (MatchPost b w)

/-- Where the alternatives stand: at p, the brace that closes at cl. -/
structure FrA (pat name : List UInt8) (v : Bool) (s : Pl.St) (p cl : Nat) (a : Act) : Prop where
  fr : Fr pat name v ⟨p, s.ni, false, s.ds, s.st⟩ a
  h39 : a.tmps.getD 39 undef = .int .i64 s.pi
  h40 : a.tmps.getD 40 undef = .int .i64 cl
theorem alt_open {pat name : List UInt8} {v : Bool} {s : Pl.St} {p cl : Nat} {a : Act} (h : FrA pat name v s p cl a) : ∃ u : Nat → Value, a = ⟨#[.string (Pl.S pat), .string (Pl.S name), .int .i32 47, .bool v, .bool false, .int .i64 (optP s.ds), .int .i64 (optN s.ds), .int .i64 (optP s.st), .int .i64 (optN s.st), .int .i64 p, .int .i64 s.ni, u 11, u 12, u 13, u 14, u 15, u 16, u 17, u 18, u 19, u 20, u 21, u 22, u 23, .int .i64 (Pl.S pat).size, .int .i64 (Pl.S name).size, .bool false, u 27, u 28, u 29, u 30, u 31, u 32, u 33, u 34, u 35, u 36, u 37, u 38, .int .i64 s.pi, .int .i64 cl, u 41, u 42, u 43, u 44, u 45, u 46, u 47, u 48, u 49, u 50, u 51, u 52, u 53, u 54, u 55, u 56, u 57, u 58, u 59, u 60, u 61, u 62, u 63, u 64, u 65, u 66, u 67, u 68, u 69, u 70, u 71, u 72, u 73, u 74, u 75, u 76, u 77, u 78, u 79, u 80, u 81, u 82, u 83, u 84, u 85, u 86, u 87, u 88, u 89, u 90, u 91, u 92, u 93, u 94, u 95, u 96, u 97, u 98, u 99, u 100, u 101, u 102, u 103, u 104, u 105, u 106, u 107, u 108, u 109, u 110, u 111, u 112, u 113, u 114, u 115, u 116, u 117, u 118, u 119, u 120, u 121, u 122, u 123, u 124, u 125, u 126, u 127, u 128, u 129, u 130, u 131, u 132, u 133, u 134, u 135, u 136, u 137, u 138, u 139, u 140, u 141, u 142, u 143, u 144, u 145, u 146, u 147, u 148, u 149, u 150, u 151, u 152, u 153, u 154, u 155, u 156, u 157, u 158, u 159, u 160, u 161, u 162, u 163, u 164, u 165, u 166, u 167, u 168, u 169, u 170, u 171, u 172, u 173, u 174, u 175, u 176, u 177, u 178, u 179, u 180, u 181, u 182, u 183, u 184, u 185, u 186, u 187, u 188, u 189, u 190, u 191, u 192, u 193, u 194, u 195, u 196, u 197, u 198, u 199, u 200, u 201, u 202, u 203, u 204, u 205, u 206, u 207, u 208, u 209, u 210, u 211, u 212, u 213, u 214, u 215, u 216, u 217, u 218, u 219, u 220, u 221, u 222, u 223, u 224, u 225, u 226, u 227, u 228, u 229, u 230, u 231, u 232, u 233, u 234, u 235, u 236, u 237, u 238, u 239, u 240, u 241, u 242, u 243, u 244, u 245, u 246, u 247, u 248, u 249, u 250, u 251, u 252, u 253, u 254, u 255, u 256, u 257, u 258, u 259, u 260, u 261, u 262, u 263, u 264, u 265, u 266, u 267, u 268, u 269, u 270, u 271, u 272, u 273, u 274, u 275, u 276, u 277, u 278, u 279, u 280, u 281, u 282, u 283, u 284, u 285, u 286, u 287, u 288, u 289, u 290, u 291, u 292, u 293, u 294, u 295, u 296, u 297, u 298, u 299, u 300, u 301, u 302, u 303, u 304, u 305, u 306, u 307, u 308, u 309, u 310, u 311, u 312, u 313, u 314, u 315, u 316, u 317, u 318, u 319, u 320, u 321, u 322, u 323, u 324, u 325, u 326, u 327, u 328, u 329, u 330, u 331, u 332, u 333, u 334, u 335, u 336, u 337, u 338, u 339, u 340, u 341, u 342, u 343, u 344, u 345, u 346, u 347, u 348, u 349, u 350, u 351, u 352, u 353, u 354, u 355, u 356, u 357, u 358, u 359, u 360, u 361, u 362, u 363, u 364, u 365, u 366, u 367, u 368, u 369, u 370, u 371, u 372, u 373, u 374, u 375, u 376, u 377, u 378, u 379, u 380, u 381, u 382, u 383, u 384, u 385, u 386, u 387, u 388, u 389, u 390, u 391, u 392, u 393, u 394, u 395, u 396, u 397, u 398, u 399, u 400, u 401, u 402, u 403, u 404, u 405, u 406, u 407, u 408, u 409, u 410, u 411, u 412, u 413, u 414, u 415, u 416, u 417, u 418, u 419, u 420, u 421, u 422, u 423, u 424, u 425, u 426, u 427, u 428, u 429, u 430, u 431, u 432, u 433, u 434, u 435, u 436, u 437, u 438, u 439, u 440, u 441, u 442, u 443, u 444, u 445, u 446, u 447, u 448, u 449, u 450, u 451, u 452, u 453, u 454, u 455, u 456, u 457, u 458, u 459, u 460, u 461, u 462, u 463, u 464, u 465, u 466], []⟩ := by
  obtain ⟨u, hu, ha⟩ := fr_open h.fr
  have e39 := (hu 39).symm.trans h.h39
  have e40 := (hu 40).symm.trans h.h40
  rw [e39, e40] at ha
  exact ⟨u, ha⟩

/-- No comma more. -/
theorem alt_end (pat name : List UInt8) (v : Bool) (s : Pl.St) (p cl : Nat) (a : Act) (w : World) (Q : Exit → Act → World → Prop) (hA : FrA pat name v s p cl a) (hp : pat.length ≤ 1099511627776)
    (h1 : p ≤ cl) (h2 : cl ≤ pat.length) (hno : Pl.nextM ((pat.take cl).drop p) 0 1 0 = none) (hout : ∀ a', FrA pat name v s p cl a' → Q (.exit 11) a' w) : altBody.wp Tryd.prog Q a w := by
  obtain ⟨u, rfl⟩ := alt_open hA
  clear hA
  have hsz := Pl.S_size pat
  have hB : (Pl.S pat).size ≤ 1099511627776 := by omega
  have x1 : (p : Int) ≤ (cl : Int) := by omega
  have x2 : (cl : Int) ≤ ((Pl.S pat).size : Int) := by omega
  have hex : (Pl.S pat).extract p cl = Pl.S ((pat.take cl).drop p) := Pl.S_ext _ _ _
  have hlen : ((pat.take cl).drop p).length ≤ 1099511627776 := by rw [List.length_drop, List.length_take]; omega
  have hpl : Pl.place (Pl.nextM ((pat.take cl).drop p) 0 1 0) = -1 := by rw [hno]; rfl
  have HPL := Lib.hid hpl
  generalize (pat.take cl).drop p = inn at *
  clear hsz hno hpl
  conv => arg 2; whnf
  go_wp2_with (go_at_call 35; refine (next_any inn _ hlen).mono ?_; rintro e w1 ⟨rfl, rfl⟩; rw [HPL.out])
  exact ⟨⟨rfl, rfl, rfl, rfl, rfl, rfl, rfl, rfl, rfl, rfl, rfl, rfl, rfl, rfl, rfl, rfl⟩, rfl, rfl⟩

theorem sos0_take (pat r : List UInt8) (pi : Nat) (h : pi ≤ pat.length) : Pl.sos0 (pat.take pi) pi = Pl.sos0 (pat.take pi ++ r) pi := by
  unfold Pl.sos0
  cases pi with
  | zero => rfl
  | succ q =>
    have : (pat.take (q + 1) ++ r)[q + 1 - 1]? = (pat.take (q + 1))[q + 1 - 1]? := List.getElem?_append_left (by rw [List.length_take]; omega)
    rw [this]

/-- One alternative, with a comma behind it. -/
theorem alt_one (K : Nat) (IH : MatchAt K) (pat name : List UInt8) (v : Bool) (s : Pl.St) (p cl : Nat) (a : Act) (w : World) (Q : Exit → Act → World → Prop) (hA : FrA pat name v s p cl a) (hp : pat.length ≤ 1099511627776) (hn : name.length ≤ 1099511627776) (hT : Lib.Utf8Tabs 1 2 w)
    (h0 : s.pi + 1 ≤ p) (h1 : p ≤ cl) (h2 : cl < pat.length) (hni : s.ni ≤ name.length) (j : Nat) (hj : Pl.nextM ((pat.take cl).drop p) 0 1 0 = some j) (b : Bool)
    (hm : Pl.matchF K v (pat.take s.pi ++ (((pat.take cl).drop p).take j ++ pat.drop (cl + 1))) name ⟨s.pi, s.ni, Pl.sos0 (pat.take s.pi) s.pi, s.ds, s.st⟩ = some (b, false))
    (hret : b = true → ∀ a' w', a'.defers = [] → a'.tmps.getD 22 undef = .bool true → a'.tmps.getD 23 undef = .nilIface → Below w.heap.size w w' → Q .ret a' w')
    (hnext : b = false → ∀ a' w', FrA pat name v s (j + p + 1) cl a' → Below w.heap.size w w' → Q .normal a' w') : altBody.wp Tryd.prog Q a w := by
  obtain ⟨u, rfl⟩ := alt_open hA
  clear hA
  have hsz := Pl.S_size pat
  have hB : (Pl.S pat).size ≤ 1099511627776 := by omega
  have x1 : (p : Int) ≤ (cl : Int) := by omega
  have x2 : (cl : Int) ≤ ((Pl.S pat).size : Int) := by omega
  have hex : (Pl.S pat).extract p cl = Pl.S ((pat.take cl).drop p) := Pl.S_ext _ _ _
  have hil : ((pat.take cl).drop p).length = cl - p := by rw [List.length_drop, List.length_take]; omega
  have hlen : ((pat.take cl).drop p).length ≤ 1099511627776 := by omega
  have hjl := (Pl.nextM_lt _ _ _ _ _ hj).2
  have hpl : Pl.place (Pl.nextM ((pat.take cl).drop p) 0 1 0) = j := by rw [hj]; rfl
  have HPL := Lib.hid hpl
  have hjm : ((j : Int) == -1) = false := by rw [beq_eq_false_iff_ne]; omega
  have hex0 : (Pl.S pat).extract 0 s.pi = Pl.S (pat.take s.pi) := by rw [Pl.S_ext]; rfl
  have hex2 : (Pl.S pat).extract p (j + p) = Pl.S (((pat.take cl).drop p).take j) := by
    rw [Pl.S_ext, List.take_drop, List.take_take]
    congr 3
    omega
  have hex3 := S_from pat (cl + 1)
  have hal : (pat.take s.pi).length = s.pi := by rw [List.length_take]; omega
  have htl : (((pat.take cl).drop p).take j).length = j := by rw [List.length_take]; omega
  have hrl : (pat.drop (cl + 1)).length = pat.length - (cl + 1) := List.length_drop
  have hlenp : (pat.take s.pi ++ (((pat.take cl).drop p).take j ++ pat.drop (cl + 1))).length ≤ 1099511627776 := by rw [List.length_append, List.length_append, hal, htl, hrl]; omega
  have hpi' : s.pi ≤ (pat.take s.pi ++ (((pat.take cl).drop p).take j ++ pat.drop (cl + 1))).length := by rw [List.length_append, hal]; omega
  have HIH := Lib.hid (fun w' hT' => IH _ name v b ⟨s.pi, s.ni, Pl.sos0 (pat.take s.pi) s.pi, s.ds, s.st⟩ w' hlenp hn hpi' hni (sos0_take _ _ _ (by omega)) hT' hm)
  have hcat : Pl.S (pat.take s.pi) ++ Pl.S (((pat.take cl).drop p).take j) = Pl.S (pat.take s.pi ++ ((pat.take cl).drop p).take j) := Pl.S_add _ _
  have hcat2 : Pl.S (pat.take s.pi ++ ((pat.take cl).drop p).take j) ++ Pl.S (pat.drop (cl + 1)) = Pl.S (pat.take s.pi ++ (((pat.take cl).drop p).take j ++ pat.drop (cl + 1))) := by rw [Pl.S_add, List.append_assoc]
  have y1 : ¬ 9223372036854775807 < (Pl.S (pat.take s.pi)).size + (Pl.S (((pat.take cl).drop p).take j)).size := by rw [Pl.S_size, Pl.S_size]; omega
  have y2 : ¬ 9223372036854775807 < (Pl.S (pat.take s.pi ++ ((pat.take cl).drop p).take j)).size + (Pl.S (pat.drop (cl + 1))).size := by rw [Pl.S_size, Pl.S_size, List.length_append]; omega
  generalize pat.take s.pi ++ (((pat.take cl).drop p).take j ++ pat.drop (cl + 1)) = pn at *
  generalize pat.take s.pi ++ ((pat.take cl).drop p).take j = p12 at *
  generalize pat.take s.pi = p1 at *
  generalize ((pat.take cl).drop p).take j = p2 at *
  generalize pat.drop (cl + 1) = p3 at *
  generalize (pat.take cl).drop p = inn at *
  have z0 : (s.pi : Int) ≤ ((Pl.S pat).size : Int) := by omega
  have z1 : (cl : Int) + 1 ≤ ((Pl.S pat).size : Int) := by omega
  have z2 : (p : Int) ≤ (j : Int) + (p : Int) := by omega
  have z3 : (j : Int) + (p : Int) ≤ ((Pl.S pat).size : Int) := by omega
  have z4 : (0 : Int) ≤ (cl : Int) + 1 := by omega
  have z5 : (0 : Int) ≤ (j : Int) + (p : Int) := by omega
  clear hsz hil hj hjl hpl hal htl hrl hlenp hpi' hm IH
  refine nop_wp ?_
  conv => arg 2; whnf
  go_upto_region 80 with (go_at_call 35; refine (next_any inn _ hlen).mono ?_; rintro e w1 ⟨rfl, rfl⟩; rw [HPL.out])
  have w2 : IntKind.i64.wrap ((cl : Int) + 1) = (cl : Int) + 1 := IntWalk.i64_in _ (by omega)
  have w3 : ((cl : Int) + 1).toNat = cl + 1 := by omega
  have w4 : ((j : Int) + (p : Int)).toNat = j + p := by omega
  go_region_with (go_at_call 39; refine (HIH.out _ ?_).mono ?_; exact tabs_below hT (Below.refl _ _).drew; rintro e w1 ⟨rfl, hb⟩)
  have hbw := ((Below.refl w.heap.size w).drew).trans hb
  have hb3 : (j : Int) + (p : Int) + 1 ≤ 9223372036854775807 := by omega
  clear w2 w3 w4 z0 z1 z2 z3 z4 z5 y1 y2 hcat hcat2 hex0 hex2 hex3 hex HIH HPL hb
  cases b with
  | true =>
    have HR := Lib.hid (hret rfl)
    clear hnext hret
    go_wp2_with fail
    exact HR.out _ _ rfl rfl rfl hbw
  | false =>
    have HR := Lib.hid (hnext rfl)
    clear hret hnext
    go_wp2_with fail
    exact HR.out _ _ ⟨⟨rfl, rfl, rfl, rfl, rfl, rfl, rfl, rfl, rfl, rfl, rfl, rfl, rfl, rfl, rfl, rfl⟩, rfl, rfl⟩ hbw
end Go.Proofs.YthkbkiigpflonaaDoor
