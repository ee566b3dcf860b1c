/-
  The walk of the reference's look at a name.
-/
import Derived.Test.YthkbkiigpflonaaDoorWalkA
import Derived.Test.YthkbkiigpflonaaDoorRunes
import Derived.Lib.OthersKept
import Derived.WalkSmall
import Derived.Maps.AppendAt
import Derived.Handy
namespace Go.Proofs.YthkbkiigpflonaaDoor
open Go.RowKit

theorem info_string : (Tryd.prog.info? 9).map (fun i => (i.zero, i.size, i.bytes)) = some (some (.string .empty), 1, 16) := by kernel_rfl

theorem own_ge {w : World} {base : Nat} {e : TypeId} {size : Nat} {v : Value} {n : Nat} {xs : List Value} (h : w.ownsRow base e size v n xs) : ∀ k, v.ownBlock = some k → base ≤ k := by
  intro k hk
  rcases h.2 with ⟨rfl, _⟩ | ⟨g, cap, cur, rfl, hg, _⟩
  · simp [Value.ownBlock] at hk
  · simp [Value.ownBlock] at hk
    omega

/-- One letter more of a name. -/
theorem name_step {l atl : List UInt8} {pos d : Nat} {rs : List Int} {c : Int} (hI : l.take pos = rs.flatMap Pl.rune ∧ (∀ c ∈ rs, Pl.letter c = true ∨ c = 47) ∧ (rs = [] → atl = []) ∧ rs.head? ≠ some 47)
    (htk : l.take (pos + d) = l.take pos ++ (l.drop pos).take d) (hdec : Pl.letter c = true ∨ c = 47 → Pl.rune c = (l.drop pos).take d) (hc : Pl.letter c = true ∨ c = 47) (hh : c = 47 → atl ≠ []) (atl' : List UInt8) :
    l.take (pos + d) = (rs ++ [c]).flatMap Pl.rune ∧ (∀ x ∈ rs ++ [c], Pl.letter x = true ∨ x = 47) ∧ (rs ++ [c] = [] → atl' = []) ∧ (rs ++ [c]).head? ≠ some 47 := by
  obtain ⟨h1, h2, h3, h4⟩ := hI
  refine ⟨by rw [htk, h1, ← hdec hc]; simp, fun x hx => ?_, fun e => by simp at e, ?_⟩
  · rcases List.mem_append.1 hx with hx | hx
    · exact h2 x hx
    · simp at hx
      subst hx
      exact hc
  · cases rs with
    | nil =>
      simp only [List.nil_append, List.head?_cons, ne_eq, Option.some.injEq]
      exact fun e => hh e (h3 rfl)
    | cons r rs => simpa using h4

/-- What the look at a name hands back. -/
def NamePost (l : List UInt8) (w : World) (e : Ending) (w' : World) : Prop := ∃ (v : Value) (b : Bool), e = .returned (.tuple #[v, .bool b]) ∧ Below w.heap.size w w' ∧ (b = true → ∃ rs, Pl.Named l rs)

set_option maxHeartbeats 4000000 in
theorem name_any (l : List UInt8) (w : World) (hl : l.length ≤ 1048576) :
    Calls Tryd.prog 10 #[.string (Pl.S l)] w (NamePost l w) := by
  obtain ⟨i0, hi, hz0, hz1, hz2⟩ := info_parts info_string
  have hsz : (Pl.S l).size = l.length := Pl.S_size l
  have hsz' : (Pl.S l).size ≤ 1048576 := by omega
  have HS := Lib.hid hsz
  clear hsz
  go_enter Tryd.func10, Tryd.ntmps10
  go_wp2_with fail
  go_loopw [4, 5] (fun o a wr => ∃ (pos nO : Nat) (xs : List Value) (rs : List Int) (atl : List UInt8), a = .string (Pl.S atl) ∧ wr.ownsRow (w.heap.size + 1) 9 1 o nO xs ∧ nO ≤ pos ∧ wr.heap[w.heap.size]? = some (.stringIter (Pl.S l) pos) ∧ Below w.heap.size w wr ∧
      pos ≤ l.length ∧ atl.length ≤ pos ∧ Hid (l.take pos = rs.flatMap Pl.rune ∧ (∀ c ∈ rs, Pl.letter c = true ∨ c = 47) ∧ (rs = [] → atl = []) ∧ rs.head? ≠ some 47)) (fun _ _ wr => (Pl.S l).size - wr.iterPos w.heap.size)
  case atStart =>
    refine ⟨0, 0, [], [], [], rfl, ⟨by simp, .inl ⟨rfl, rfl⟩⟩, Nat.le_refl _, ?_, (Below.refl _ _).alloc (Nat.le_refl _) _, by simp, by simp, Lib.hid ⟨by simp, by simp, by simp, by simp⟩⟩
    have := World.iter_heap w (Pl.S l) 0
    simpa using this
  case round =>
    obtain ⟨pos, nO, xs, rs, atl, rfl, hown, hnO, hit, hb, hpl, hal, HI⟩ := hrel
    have hks : w.heap.size < wr.heap.size := (Array.getElem?_eq_some_iff.1 hit).1
    have hsa : (Pl.S atl).size ≤ 1048576 := by rw [Pl.S_size]; omega
    by_cases hp : pos < (Pl.S l).size
    · have hnx : ∀ ty, (Instr.next (.pointer (some ⟨w.heap.size, 0, none⟩)) true ty).run Tryd.prog wr = _ := fun ty => Lib.run_next_any_at wr w.heap.size (Pl.S l) pos ty hit hp
      have hwd := Lib.width_pos (Pl.S l) pos
      have hit2 := Lib.iterAt_heap wr w.heap.size (Pl.S l) pos (pos + (Utf8.decode (Pl.S l) pos).2) hit
      have hb2 := Lib.below_iterAt hb (k := w.heap.size) (Nat.le_refl _) (Pl.S l) (pos + (Utf8.decode (Pl.S l) pos).2)
      have hown2 := ownsRow_iterAt hown (k := w.heap.size) (by omega) (Pl.S l) (pos + (Utf8.decode (Pl.S l) pos).2)
      have hsz2 : (wr.iterAt w.heap.size (Pl.S l) (pos + (Utf8.decode (Pl.S l) pos).2)).heap.size = wr.heap.size := Lib.iterAt_size _ _ _ _
      have HSZ := Lib.hid hsz2
      have hpl' : pos < l.length := by have := HS.out; omega
      have hde : Utf8.decode (Pl.S l) pos = Lib.decodeL (l.drop pos) := by rw [← Lib.decodeL_drop]; simp [Pl.S]
      have hne : l.drop pos ≠ [] := by
        intro e
        have := congrArg List.length e
        simp at this
        omega
      have hlew := Lib.decodeL_le (l.drop pos) hne
      have htk : l.take (pos + (Lib.decodeL (l.drop pos)).2) = l.take pos ++ (l.drop pos).take (Lib.decodeL (l.drop pos)).2 := List.take_add
      have hdec : ∀ h, _ := fun h => Pl.decoded (l.drop pos) hne h
      rw [hde] at hnx hit2 hb2 hown2 HSZ hwd
      obtain ⟨c, d, hcd⟩ : ∃ c d, Lib.decodeL (l.drop pos) = (c, d) := ⟨_, _, rfl⟩
      rw [hcd] at hnx hit2 hb2 hown2 HSZ hwd hlew htk hdec
      simp only at hnx hit2 hb2 hown2 HSZ hwd hlew htk hdec
      have HTK := Lib.hid htk
      have HDEC := Lib.hid hdec
      rw [List.length_drop] at hlew
      clear hde hcd htk hdec hne hown hb hsz2
      have hsw : w.heap.size < (wr.iterAt w.heap.size (Pl.S l) (pos + d)).heap.size := by rw [HSZ.out]; exact hks
      have HP0 : Hid (wr.iterPos w.heap.size = pos) := Lib.hid (iterPos_of hit)
      clear hit
      cases hc : ((c : Int) == 47)
      · have HC : Hid (¬ (c : Int) = 47) := Lib.hid (by simpa using hc)
        cases hlt : Pl.letter (c : Int)
        · clear hown2
          go_wp2_with (go_at_call 21; refine (letter_any _ _).mono ?_; rintro e w1 ⟨rfl, rfl⟩)
          go_returns
          exact ⟨_, _, rfl, hb2, fun h => by cases h⟩
        · have HI2 : Hid _ := Lib.hid (name_step (c := (c : Int)) HI.out HTK.out HDEC.out (.inl hlt) (fun h => absurd h HC.out) (atl ++ Pl.rune (c : Int)))
          have hcl := encode_size_le (c : Int)
          have hcv := conv_new (c : Int)
          have hrl := Pl.rune_le (c : Int)
          have HRD : Hid ((Pl.rune (c : Int)).length ≤ d) := Lib.hid (by
            rw [HDEC.out (.inl hlt), List.length_take]
            omega)
          clear HTK HDEC HI
          go_wp2_with (go_at_call 21; refine (letter_any _ _).mono ?_; rintro e w1 ⟨rfl, rfl⟩)
          go_roundw
          case measure =>
            rw [HP0.out, iterPos_of ((Below.heap_alloc _ _ _ hsw).trans hit2)]
            omega
          case rel =>
            have := HRD.out
            exact ⟨pos + d, nO, xs, _, _, str_eq (by rw [← Pl.S_add, Pl.S_rune]), hown2.alloc _, by omega, (Below.heap_alloc _ _ _ hsw).trans hit2, hb2.alloc (by omega) _, by omega, by simp; omega, HI2⟩
      · have HC : Hid ((c : Int) = 47) := Lib.hid (by simpa using hc)
        cases atl with
        | nil =>
          clear hown2
          rw [Pl.S_nil]
          go_wp2_with fail
          go_returns
          exact ⟨_, _, rfl, hb2, fun h => by cases h⟩
        | cons a0 at0 =>
          have HI2 : Hid _ := Lib.hid (name_step (c := (c : Int)) HI.out HTK.out HDEC.out (.inr HC.out) (fun _ => by simp) [])
          have hemp : (Pl.S (a0 :: at0)).toList.isEmpty = false := by simp [Pl.S]
          clear HTK HDEC HI
          go_wp2_with (at_builtin; refine wpList_append_own _ rfl _ _ 34 rfl (w.heap.size + 1) 9 i0 _ 1 16 Tryd.underlying34 hi hz0 hz1 hz2 rfl (by decide) _ _ _ rfl (hown2.alloc _) ⟨(wr.iterAt w.heap.size (Pl.S l) (pos + d)).heap.size, 0, none⟩ 1 1 [.string (Pl.S (a0 :: at0))] rfl rfl (cell_one_new _ _ _) (by simp [Value.oneCell']) (by simp only [maxLen]; omega) (by omega) (by simp; omega) ?_; intro v1 w1 hown1 hg1 _)
          have hit3 : w1.heap[w.heap.size]? = some (.stringIter (Pl.S l) (pos + d)) := (hg1.block _ (by simp; omega) (fun e => by have := own_ge hown2 _ e.symm; omega)).trans ((Below.heap_alloc _ _ _ hsw).trans hit2)
          go_roundw
          case measure =>
            rw [HP0.out, iterPos_of hit3]
            omega
          case rel =>
            exact ⟨pos + d, nO + 1, _, _, [], str_eq Pl.S_nil.symm, hown1, by omega, hit3, (hb2.alloc (by omega) _).grown hg1 (by simp; omega) (fun k hk => by have := own_ge hown2 k hk; omega), by omega, by simp, HI2⟩
    · have hnx : ∀ ty, (Instr.next (.pointer (some ⟨w.heap.size, 0, none⟩)) true ty).run Tryd.prog wr = _ := fun ty => Lib.run_next_end_at wr w.heap.size (Pl.S l) pos ty hit hp
      have HE : Hid ((!(Pl.S atl).toList.isEmpty) = true → ∃ rs, Pl.Named l rs) := Lib.hid (by
        intro h
        obtain ⟨h1, h2, h3, h4⟩ := HI.out
        have hs := HS.out
        rw [List.take_of_length_le (by omega)] at h1
        refine ⟨rs, h1, h2, fun e => ?_, h4⟩
        rw [h3 e] at h
        simp [Pl.S] at h)
      clear HI
      go_wp2_with (at_builtin; refine wpList_append_own _ rfl _ _ 34 rfl (w.heap.size + 1) 9 i0 _ 1 16 Tryd.underlying34 hi hz0 hz1 hz2 rfl (by decide) _ _ _ rfl (hown.alloc _) ⟨wr.heap.size, 0, none⟩ 1 1 [.string (Pl.S atl)] rfl rfl (cell_one_new _ _ _) (by simp [Value.oneCell']) (by simp only [maxLen]; omega) (by omega) (by simp; omega) ?_; intro v1 w1 hown1 hg1 _)
      go_returns
      exact ⟨v1, _, rfl, (hb.alloc (by omega) _).grown hg1 (by simp; omega) (fun k hk => by have := own_ge hown k hk; omega), HE.out⟩
end Go.Proofs.YthkbkiigpflonaaDoor
