/-
  The frame of the program's match, its loop's body and the parts of it, and the chain of what follows.
-/
import Derived.Test.YthkbkiigpflonaaDoorWalkZ
import Derived.Test.YthkbkiigpflonaaDoorWalkR
import Derived.Test.YthkbkiigpflonaaDoorLaid
import Derived.Lib.Hide
import Derived.Deep.LoopGhost
namespace Go.Proofs.YthkbkiigpflonaaDoor
open Go.RowKit

def firstLoop : Code → Option Code
  | .loop c => some c
  | .seq a b => match firstLoop a with
    | some c => some c
    | none => firstLoop b
  | .block _ c => firstLoop c
  | .scope c => firstLoop c
  | .cond _ a b => match firstLoop a with
    | some c => some c
    | none => firstLoop b
  | _ => none
/-- The loop's body. -/
noncomputable def mBody : Code := ((Tryd.f39.body.bind firstLoop).getD .skip)
/-- A sequence's statements. -/
def spine : Code → List Code
  | .seq x y => spine x ++ [y]
  | c => [c]
/-- What the loop's body does where the name has not come to its end. -/
noncomputable def mBlk : Code := match mBody with | .seq _ (.block _ c) => c | _ => .skip
/-- The switch over the pattern's byte. -/
noncomputable def mSw : Code := match (spine mBlk).getD 1 .skip with | .cond _ x _ => x | _ => .skip
/-- What follows it: going back. -/
noncomputable def mBack : List Code := (spine mBlk).drop 2

/-- Statements in a row: what is asked ahead of them. -/
def chain (P : Program) : List Code → (Act → World → Prop) → (Exit → Act → World → Prop) → Act → World → Prop
  | [], K, _, a, w => K a w
  | c :: r, K, Q, a, w => c.wp P (Exit.then (chain P r K Q) Q) a w
theorem chain_append (P : Program) (l r : List Code) (K : Act → World → Prop) (Q : Exit → Act → World → Prop) (a : Act) (w : World) : chain P (l ++ r) K Q a w = chain P l (chain P r K Q) Q a w := by
  induction l generalizing a w with
  | nil => rfl
  | cons c l ih =>
    have : chain P (l ++ r) K Q = chain P l (chain P r K Q) Q := by funext a w; exact ih a w
    rw [List.cons_append, chain, chain, this]
theorem chain_wp {P : Program} : ∀ (c : Code) (K : Act → World → Prop) (Q : Exit → Act → World → Prop) (a : Act) (w : World), chain P (spine c) K Q a w → c.wp P (Exit.then K Q) a w
  | .seq x y, K, Q, a, w, h => by
    rw [spine, chain_append] at h
    have h1 := chain_wp x _ Q a w h
    refine wp_seq (wp_mono h1 fun e a w hq => ?_)
    cases e <;> exact hq
  | .skip, _, _, _, _, h | .region .., _, _, _, _, h | .cond .., _, _, _, _, h | .block .., _, _, _, _, h | .loop .., _, _, _, _, h | .exit .., _, _, _, _, h | .scope .., _, _, _, _, h | .label .., _, _, _, _, h | .goto .., _, _, _, _, h | .ret, _, _, _, _, h => h
  | .rangeFunc .., _, _, _, _, h | .refuse .., _, _, _, _, h => h
theorem chain_k {P : Program} {c : Code} {r : List Code} {K : Act → World → Prop} {Q : Exit → Act → World → Prop} {a : Act} {w : World} (h : ∀ K1 : Act → World → Prop, (∀ a w, chain P r K Q a w → K1 a w) → c.wp P (Exit.then K1 Q) a w) : chain P (c :: r) K Q a w := h _ fun _ _ h => h

theorem list_u (l : List Value) (n : Nat) (h : l.length = n) : l = (List.range n).map fun i => (⟨l⟩ : Array Value).getD i undef := by
  apply List.ext_getElem
  · simp [h]
  · intro i h1 h2
    simp at h2
    simp [h1]
set_option maxRecDepth 100000 in
/-- A frame, slot by slot. -/
theorem act_u (a : Act) (hs : a.tmps.size = 467) (hd : a.defers = []) : ∃ u : Nat → Value, (∀ n, a.tmps.getD n undef = u n) ∧ a = ⟨#[u 0, u 1, u 2, u 3, u 4, u 5, u 6, u 7, u 8, u 9, u 10, u 11, u 12, u 13, u 14, u 15, u 16, u 17, u 18, u 19, u 20, u 21, u 22, u 23, u 24, u 25, u 26, u 27, u 28, u 29, u 30, u 31, u 32, u 33, u 34, u 35, u 36, u 37, u 38, u 39, u 40, u 41, u 42, u 43, u 44, u 45, u 46, u 47, u 48, u 49, u 50, u 51, u 52, u 53, u 54, u 55, u 56, u 57, u 58, u 59, u 60, u 61, u 62, u 63, u 64, u 65, u 66, u 67, u 68, u 69, u 70, u 71, u 72, u 73, u 74, u 75, u 76, u 77, u 78, u 79, u 80, u 81, u 82, u 83, u 84, u 85, u 86, u 87, u 88, u 89, u 90, u 91, u 92, u 93, u 94, u 95, u 96, u 97, u 98, u 99, u 100, u 101, u 102, u 103, u 104, u 105, u 106, u 107, u 108, u 109, u 110, u 111, u 112, u 113, u 114, u 115, u 116, u 117, u 118, u 119, u 120, u 121, u 122, u 123, u 124, u 125, u 126, u 127, u 128, u 129, u 130, u 131, u 132, u 133, u 134, u 135, u 136, u 137, u 138, u 139, u 140, u 141, u 142, u 143, u 144, u 145, u 146, u 147, u 148, u 149, u 150, u 151, u 152, u 153, u 154, u 155, u 156, u 157, u 158, u 159, u 160, u 161, u 162, u 163, u 164, u 165, u 166, u 167, u 168, u 169, u 170, u 171, u 172, u 173, u 174, u 175, u 176, u 177, u 178, u 179, u 180, u 181, u 182, u 183, u 184, u 185, u 186, u 187, u 188, u 189, u 190, u 191, u 192, u 193, u 194, u 195, u 196, u 197, u 198, u 199, u 200, u 201, u 202, u 203, u 204, u 205, u 206, u 207, u 208, u 209, u 210, u 211, u 212, u 213, u 214, u 215, u 216, u 217, u 218, u 219, u 220, u 221, u 222, u 223, u 224, u 225, u 226, u 227, u 228, u 229, u 230, u 231, u 232, u 233, u 234, u 235, u 236, u 237, u 238, u 239, u 240, u 241, u 242, u 243, u 244, u 245, u 246, u 247, u 248, u 249, u 250, u 251, u 252, u 253, u 254, u 255, u 256, u 257, u 258, u 259, u 260, u 261, u 262, u 263, u 264, u 265, u 266, u 267, u 268, u 269, u 270, u 271, u 272, u 273, u 274, u 275, u 276, u 277, u 278, u 279, u 280, u 281, u 282, u 283, u 284, u 285, u 286, u 287, u 288, u 289, u 290, u 291, u 292, u 293, u 294, u 295, u 296, u 297, u 298, u 299, u 300, u 301, u 302, u 303, u 304, u 305, u 306, u 307, u 308, u 309, u 310, u 311, u 312, u 313, u 314, u 315, u 316, u 317, u 318, u 319, u 320, u 321, u 322, u 323, u 324, u 325, u 326, u 327, u 328, u 329, u 330, u 331, u 332, u 333, u 334, u 335, u 336, u 337, u 338, u 339, u 340, u 341, u 342, u 343, u 344, u 345, u 346, u 347, u 348, u 349, u 350, u 351, u 352, u 353, u 354, u 355, u 356, u 357, u 358, u 359, u 360, u 361, u 362, u 363, u 364, u 365, u 366, u 367, u 368, u 369, u 370, u 371, u 372, u 373, u 374, u 375, u 376, u 377, u 378, u 379, u 380, u 381, u 382, u 383, u 384, u 385, u 386, u 387, u 388, u 389, u 390, u 391, u 392, u 393, u 394, u 395, u 396, u 397, u 398, u 399, u 400, u 401, u 402, u 403, u 404, u 405, u 406, u 407, u 408, u 409, u 410, u 411, u 412, u 413, u 414, u 415, u 416, u 417, u 418, u 419, u 420, u 421, u 422, u 423, u 424, u 425, u 426, u 427, u 428, u 429, u 430, u 431, u 432, u 433, u 434, u 435, u 436, u 437, u 438, u 439, u 440, u 441, u 442, u 443, u 444, u 445, u 446, u 447, u 448, u 449, u 450, u 451, u 452, u 453, u 454, u 455, u 456, u 457, u 458, u 459, u 460, u 461, u 462, u 463, u 464, u 465, u 466], []⟩ := by
  obtain ⟨⟨l⟩, d⟩ := a
  simp only at hs hd
  subst hd
  refine ⟨fun n => (⟨l⟩ : Array Value).getD n undef, fun n => rfl, ?_⟩
  have := list_u l 467 (by simpa using hs)
  generalize (fun n => (⟨l⟩ : Array Value).getD n undef) = u at *
  rw [this]
  rfl

def optP (o : Option (Nat × Nat)) : Int := match o with | none => -1 | some x => x.1
def optN (o : Option (Nat × Nat)) : Int := match o with | none => -1 | some x => x.2

/-- Where the frame stands. -/
structure Fr (pat name : List UInt8) (v : Bool) (s : Pl.St) (a : Act) : Prop where
  size : a.tmps.size = 467
  dfr : a.defers = []
  h0 : a.tmps.getD 0 undef = .string (Pl.S pat)
  h1 : a.tmps.getD 1 undef = .string (Pl.S name)
  h2 : a.tmps.getD 2 undef = .int .i32 47
  h3 : a.tmps.getD 3 undef = .bool v
  h4 : a.tmps.getD 4 undef = .bool false
  h5 : a.tmps.getD 5 undef = .int .i64 (optP s.ds)
  h6 : a.tmps.getD 6 undef = .int .i64 (optN s.ds)
  h7 : a.tmps.getD 7 undef = .int .i64 (optP s.st)
  h8 : a.tmps.getD 8 undef = .int .i64 (optN s.st)
  h9 : a.tmps.getD 9 undef = .int .i64 s.pi
  h10 : a.tmps.getD 10 undef = .int .i64 s.ni
  h24 : a.tmps.getD 24 undef = .int .i64 (Pl.S pat).size
  h25 : a.tmps.getD 25 undef = .int .i64 (Pl.S name).size
  h26 : a.tmps.getD 26 undef = .bool s.sos

set_option maxRecDepth 100000 in
/-- The frame written out. -/
theorem fr_open {pat name : List UInt8} {v : Bool} {s : Pl.St} {a : Act} (h : Fr pat name v s a) : ∃ u : Nat → Value, (∀ n, a.tmps.getD n undef = u n) ∧ a = ⟨#[.string (Pl.S pat), .string (Pl.S name), .int .i32 47, .bool v, .bool false, .int .i64 (optP s.ds), .int .i64 (optN s.ds), .int .i64 (optP s.st), .int .i64 (optN s.st), .int .i64 s.pi, .int .i64 s.ni, u 11, u 12, u 13, u 14, u 15, u 16, u 17, u 18, u 19, u 20, u 21, u 22, u 23, .int .i64 (Pl.S pat).size, .int .i64 (Pl.S name).size, .bool s.sos, u 27, u 28, u 29, u 30, u 31, u 32, u 33, u 34, u 35, u 36, u 37, u 38, u 39, u 40, u 41, u 42, u 43, u 44, u 45, u 46, u 47, u 48, u 49, u 50, u 51, u 52, u 53, u 54, u 55, u 56, u 57, u 58, u 59, u 60, u 61, u 62, u 63, u 64, u 65, u 66, u 67, u 68, u 69, u 70, u 71, u 72, u 73, u 74, u 75, u 76, u 77, u 78, u 79, u 80, u 81, u 82, u 83, u 84, u 85, u 86, u 87, u 88, u 89, u 90, u 91, u 92, u 93, u 94, u 95, u 96, u 97, u 98, u 99, u 100, u 101, u 102, u 103, u 104, u 105, u 106, u 107, u 108, u 109, u 110, u 111, u 112, u 113, u 114, u 115, u 116, u 117, u 118, u 119, u 120, u 121, u 122, u 123, u 124, u 125, u 126, u 127, u 128, u 129, u 130, u 131, u 132, u 133, u 134, u 135, u 136, u 137, u 138, u 139, u 140, u 141, u 142, u 143, u 144, u 145, u 146, u 147, u 148, u 149, u 150, u 151, u 152, u 153, u 154, u 155, u 156, u 157, u 158, u 159, u 160, u 161, u 162, u 163, u 164, u 165, u 166, u 167, u 168, u 169, u 170, u 171, u 172, u 173, u 174, u 175, u 176, u 177, u 178, u 179, u 180, u 181, u 182, u 183, u 184, u 185, u 186, u 187, u 188, u 189, u 190, u 191, u 192, u 193, u 194, u 195, u 196, u 197, u 198, u 199, u 200, u 201, u 202, u 203, u 204, u 205, u 206, u 207, u 208, u 209, u 210, u 211, u 212, u 213, u 214, u 215, u 216, u 217, u 218, u 219, u 220, u 221, u 222, u 223, u 224, u 225, u 226, u 227, u 228, u 229, u 230, u 231, u 232, u 233, u 234, u 235, u 236, u 237, u 238, u 239, u 240, u 241, u 242, u 243, u 244, u 245, u 246, u 247, u 248, u 249, u 250, u 251, u 252, u 253, u 254, u 255, u 256, u 257, u 258, u 259, u 260, u 261, u 262, u 263, u 264, u 265, u 266, u 267, u 268, u 269, u 270, u 271, u 272, u 273, u 274, u 275, u 276, u 277, u 278, u 279, u 280, u 281, u 282, u 283, u 284, u 285, u 286, u 287, u 288, u 289, u 290, u 291, u 292, u 293, u 294, u 295, u 296, u 297, u 298, u 299, u 300, u 301, u 302, u 303, u 304, u 305, u 306, u 307, u 308, u 309, u 310, u 311, u 312, u 313, u 314, u 315, u 316, u 317, u 318, u 319, u 320, u 321, u 322, u 323, u 324, u 325, u 326, u 327, u 328, u 329, u 330, u 331, u 332, u 333, u 334, u 335, u 336, u 337, u 338, u 339, u 340, u 341, u 342, u 343, u 344, u 345, u 346, u 347, u 348, u 349, u 350, u 351, u 352, u 353, u 354, u 355, u 356, u 357, u 358, u 359, u 360, u 361, u 362, u 363, u 364, u 365, u 366, u 367, u 368, u 369, u 370, u 371, u 372, u 373, u 374, u 375, u 376, u 377, u 378, u 379, u 380, u 381, u 382, u 383, u 384, u 385, u 386, u 387, u 388, u 389, u 390, u 391, u 392, u 393, u 394, u 395, u 396, u 397, u 398, u 399, u 400, u 401, u 402, u 403, u 404, u 405, u 406, u 407, u 408, u 409, u 410, u 411, u 412, u 413, u 414, u 415, u 416, u 417, u 418, u 419, u 420, u 421, u 422, u 423, u 424, u 425, u 426, u 427, u 428, u 429, u 430, u 431, u 432, u 433, u 434, u 435, u 436, u 437, u 438, u 439, u 440, u 441, u 442, u 443, u 444, u 445, u 446, u 447, u 448, u 449, u 450, u 451, u 452, u 453, u 454, u 455, u 456, u 457, u 458, u 459, u 460, u 461, u 462, u 463, u 464, u 465, u 466], []⟩ := by
  obtain ⟨u, hu, ha⟩ := act_u a h.size h.dfr
  refine ⟨u, hu, ?_⟩
  have e0 := (hu 0).symm.trans h.h0
  have e1 := (hu 1).symm.trans h.h1
  have e2 := (hu 2).symm.trans h.h2
  have e3 := (hu 3).symm.trans h.h3
  have e4 := (hu 4).symm.trans h.h4
  have e5 := (hu 5).symm.trans h.h5
  have e6 := (hu 6).symm.trans h.h6
  have e7 := (hu 7).symm.trans h.h7
  have e8 := (hu 8).symm.trans h.h8
  have e9 := (hu 9).symm.trans h.h9
  have e10 := (hu 10).symm.trans h.h10
  have e24 := (hu 24).symm.trans h.h24
  have e25 := (hu 25).symm.trans h.h25
  have e26 := (hu 26).symm.trans h.h26
  rw [ha, e0, e1, e2, e3, e4, e5, e6, e7, e8, e9, e10, e24, e25, e26]

theorem S_from (l : List UInt8) (p : Nat) : (Pl.S l).extract p (Pl.S l).size = Pl.S (l.drop p) := by
  rw [Pl.S_ext, Pl.S_size, List.take_length]
theorem drop_get {l : List UInt8} {p : Nat} {c : UInt8} {t : List UInt8} (h : l.drop p = c :: t) : l[p]? = some c ∧ t = l.drop (p + 1) := by
  have h1 : (l.drop p)[0]? = some c := by rw [h]; rfl
  have h2 : (l.drop p).drop 1 = t := by rw [h]; rfl
  rw [List.getElem?_drop] at h1
  rw [List.drop_drop] at h2
  exact ⟨h1, h2.symm⟩
theorem dec_le (l : List UInt8) (x d : Nat) (h : Pl.dec l = (x, d)) : d ≤ l.length := by
  cases hl : l with
  | nil =>
    rw [hl] at h
    simp [Pl.dec] at h
    omega
  | cons c t =>
    have hne : l ≠ [] := by rw [hl]; simp
    unfold Pl.dec at h
    rw [if_neg hne] at h
    have := Lib.decodeL_le l hne
    rw [h] at this
    rw [← hl]
    exact this
theorem dec_lt (l : List UInt8) (p x d : Nat) (hp : p ≤ l.length) (h : Pl.dec (l.drop p) = (x, d)) : p + d ≤ l.length := by
  have := dec_le _ _ _ h
  rw [List.length_drop] at this
  omega
theorem beq47 (x : Nat) : ((x : Int) == 47) = decide (x = 47) := by
  rw [Bool.eq_iff_iff]
  simp only [beq_iff_eq, decide_eq_true_eq]
  omega
theorem drop_lt {l : List UInt8} {p : Nat} {c : UInt8} {t : List UInt8} (h : l.drop p = c :: t) : p < l.length := by
  have := congrArg List.length h
  rw [List.length_drop, List.length_cons] at this
  omega
end Go.Proofs.YthkbkiigpflonaaDoor
