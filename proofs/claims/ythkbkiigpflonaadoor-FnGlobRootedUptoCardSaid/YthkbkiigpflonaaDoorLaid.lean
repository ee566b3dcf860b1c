/-
  The contract of the library's decoding of a letter, at this program: what is handed back is what the plain function says, and nothing that stood below has changed.
-/
import Derived.Test.YthkbkiigpflonaaDoorMatch
import Derived.Test.YthkbkiigpflonaaDoorChecked
import Derived.Shelf.Unicode.DecodeAny
namespace Go.Proofs.YthkbkiigpflonaaDoor
open Go.Shelf Go.RowKit
def lays197_ren : Go.Shelf.Ren := ⟨fun | 197 => 40 | 260 => 44 | n => n, fun | 9 => 9 | 21 => 21 | 3 => 3 | 4 => 4 | 5 => 5 | 105 => 69 | 119 => 74 | 0 => 0 | 46 => 75 | 139 => 78 | 138 => 77 | n => n, fun | 3 => 1 | 4 => 2 | n => n⟩
theorem lays197 : Go.Proofs.Lays.n197 Tryd.prog lays197_ren := {
  mixed := by kernel_rfl
  f197 := Tryd.func40.trans (congrArg some (by kernel_rfl))
  f260 := Tryd.func44.trans (congrArg some (by kernel_rfl))
  t0 := Tryd.underlying0
  a0 := Tryd.isAgg0
  z0 := Tryd.sizeOf0
  v0 := Tryd.zeroValue0
  t3 := Tryd.underlying3
  a3 := Tryd.isAgg3
  z3 := Tryd.sizeOf3
  v3 := Tryd.zeroValue3
  t4 := Tryd.underlying4
  a4 := Tryd.isAgg4
  z4 := Tryd.sizeOf4
  v4 := Tryd.zeroValue4
  t5 := Tryd.underlying5
  a5 := Tryd.isAgg5
  z5 := Tryd.sizeOf5
  v5 := Tryd.zeroValue5
  t9 := Tryd.underlying9
  a9 := Tryd.isAgg9
  z9 := Tryd.sizeOf9
  v9 := Tryd.zeroValue9
  t21 := Tryd.underlying21
  a21 := Tryd.isAgg21
  z21 := Tryd.sizeOf21
  v21 := Tryd.zeroValue21
  t46 := Tryd.underlying75
  a46 := Tryd.isAgg75
  z46 := Tryd.sizeOf75
  v46 := Tryd.zeroValue75
  t105 := Tryd.underlying69
  a105 := Tryd.isAgg69
  z105 := Tryd.sizeOf69
  v105 := Tryd.zeroValue69
  t119 := Tryd.underlying74
  a119 := Tryd.isAgg74
  z119 := Tryd.sizeOf74
  t138 := Tryd.underlying77
  a138 := Tryd.isAgg77
  z138 := Tryd.sizeOf77
  v138 := Tryd.zeroValue77
  t139 := Tryd.underlying78
  a139 := Tryd.isAgg78
  z139 := Tryd.sizeOf78
  v139 := Tryd.zeroValue78
  g3 := by kernel_rfl
  g4 := by kernel_rfl }

theorem decodeGo_S (l : List UInt8) : Lib.decodeGo (Pl.S l) = Pl.dec l := by
  unfold Lib.decodeGo Pl.dec
  rw [Pl.S_size]
  cases l with
  | nil => rfl
  | cons c t => rfl

def DecPost (l : List UInt8) (w : World) (e : Ending) (w' : World) : Prop := e = .returned (.tuple #[.int .i32 (Pl.dec l).1, .int .i64 (Pl.dec l).2]) ∧ Below w.heap.size w w'
theorem dec_any (l : List UInt8) (w : World) (hT : Lib.Utf8Tabs 1 2 w) : Calls Tryd.prog 40 #[.string (Pl.S l)] w (DecPost l w) := by
  refine (Any.utf8_DecodeRuneInString lays197 (Pl.S l) w hT).mono ?_
  rintro e w' ⟨he, hb⟩
  rw [decodeGo_S] at he
  exact ⟨he, hb⟩
def DecAt (x d : Nat) (w : World) (e : Ending) (w' : World) : Prop := e = .returned (.tuple #[.int .i32 x, .int .i64 d]) ∧ Below w.heap.size w w'
theorem dec_at (l : List UInt8) (w : World) (hT : Lib.Utf8Tabs 1 2 w) (x d : Nat) (h : Pl.dec l = (x, d)) : Calls Tryd.prog 40 #[.string (Pl.S l)] w (DecAt x d w) := by
  refine (dec_any l w hT).mono ?_
  rintro e w' ⟨he, hb⟩
  rw [h] at he
  exact ⟨he, hb⟩
theorem tabs_below {w w' : World} (h : Lib.Utf8Tabs 1 2 w) (hb : Below w.heap.size w w') : Lib.Utf8Tabs 1 2 w' := Utf8Tabs_below h hb
end Go.Proofs.YthkbkiigpflonaaDoor
