/-
  The walk of FnGlobSplit over the contracts.
-/
import Derived.Test.YthkbkiigpflonaaWalkI
import Derived.Test.YthkbkiigpflonaaWalkK
import Derived.Test.YthkbkiigpflonaaSplitLaw
namespace Go.Proofs.Ythkbkiigpflonaa
open Go.RowKit

theorem quoted_len (rs : List Int) : (Pl.quoted rs).length ≤ 2 * (rs.flatMap Pl.rune).length := by
  induction rs with
  | nil => simp [Pl.quoted]
  | cons c rs ih =>
    have := Pl.rune_pos c
    have e : Pl.quoted (c :: rs) = ((if Pl.special c then [92] else []) ++ Pl.rune c) ++ Pl.quoted rs := by simp [Pl.quoted]
    rw [e]
    rw [List.flatMap_cons]
    simp only [List.length_append]
    split
    · rw [List.length_singleton]; omega
    · rw [List.length_nil]; omega

theorem plain_of {l : List UInt8} {rs : List Int} (h : Pl.Named l rs) (hb : ∀ x ∈ l, x.toNat ≠ 44 ∧ x.toNat ≠ 92) : Pl.plainName rs := by
  intro c hc
  have hf := Pl.letter_fine (h.fit c hc)
  have key : ∀ n : Nat, n < 128 → c = n → ∃ x ∈ l, x.toNat = n := by
    rintro n hn rfl
    rcases Pl.rune_shape (n : Int) hf with ⟨_, e⟩ | ⟨k, _⟩ | ⟨k, _⟩ | ⟨k, _⟩
    · refine ⟨_, by rw [h.eq]; exact List.mem_flatMap.2 ⟨_, hc, by rw [e]; exact List.mem_singleton.2 rfl⟩, ?_⟩
      simp
      omega
    all_goals omega
  refine ⟨hf, fun e => ?_, fun e => ?_⟩
  · obtain ⟨x, hx, hn⟩ := key 44 (by omega) e
    exact (hb x hx).1 hn
  · obtain ⟨x, hx, hn⟩ := key 92 (by omega) e
    exact (hb x hx).2 hn

set_option maxHeartbeats 4000000 in
theorem split_any (n : Nat) (l : List UInt8) (gv : Value) (ps : List Pl.Part) (w : World) (hg : Rd.GlobV w w.heap.size n gv ps) (hl : l.length ≤ 1048576) (hp : ps.length ≤ 1048576) (ht : (Pl.asT true ps).length ≤ 1073741824) :
    Calls Try.prog 3 #[.string (Pl.S l), gv] w fun e w' => e = .returned (.bool true) ∧ Below w.heap.size w w' := by
  obtain ⟨vs, rfl, hv⟩ := hg
  obtain ⟨A, cap, rfl, hm, hx⟩ := hv.form
  have HG : Hid (Rd.GlobV w w.heap.size n (.agg #[.slice A ps.length cap]) ps) := Lib.hid ⟨_, rfl, hv⟩
  have hsl : (Pl.S l).size ≤ 1048576 := by rw [Pl.S_size]; exact hl
  clear hx hv
  go_enter Try.func3, Try.ntmps3
  go_wp2_with fail
  refine (fits_any n _ ps _ (HG.out.up ((Below.refl _ _).alloc (Nat.le_refl _) _)) hp).mono ?_
  rintro e w1 ⟨rfl, hb1⟩
  have hW : Below w.heap.size w (w.alloc (.cells #[.slice A ps.length cap] 24)) := (Below.refl _ _).alloc (Nat.le_refl _) _
  have hbox : Hid ((w.alloc (.cells #[.slice A ps.length cap] 24)).cell? ⟨w.heap.size, 0, none⟩ = some (.slice A ps.length cap)) := Lib.hid (by simp)
  go_wp2_with fail
  refine (name_any l _ hl).mono ?_
  rintro e w2 ⟨v2, b2, rfl, hb2, hn2⟩
  replace hb2 := hb1.trans (hb2.mono hb1.size)
  have hw2 := hW.trans (hb2.mono (by simp))
  have hc2 := (hb2.cell (p := ⟨w.heap.size, 0, none⟩) (by simp)).trans hbox.out
  clear hb1
  cases b2
  · clear hn2
    go_wp2_with fail
    go_ret
    exact ⟨rfl, hw2⟩
  obtain ⟨rs, hrs⟩ := hn2 rfl
  have HN := Lib.hid hrs
  clear hn2 hrs
  go_wp2_with fail
  refine (right_any n _ ps _ (HG.out.up hw2)).mono ?_
  rintro e w3 ⟨b3, rfl, hb3, hr3⟩
  replace hb3 := hb2.trans (hb3.mono hb2.size)
  have hw3 := hW.trans (hb3.mono (by simp))
  have hc3 := (hb3.cell (p := ⟨w.heap.size, 0, none⟩) (by simp)).trans hbox.out
  clear hb2 hc2 hw2
  cases b3
  · clear hr3
    go_wp2_with fail
    go_ret
    exact ⟨rfl, hw3⟩
  have HR := Lib.hid (hr3 rfl)
  clear hr3
  go_wp2_with fail
  refine (first_any n _ ps _ (HG.out.up hw3) HR.out.1).mono ?_
  rintro e w4 ⟨b4, rfl, hb4, hf4⟩
  replace hb4 := hb3.trans (hb4.mono hb3.size)
  have hw4 := hW.trans (hb4.mono (by simp))
  have hc4 := (hb4.cell (p := ⟨w.heap.size, 0, none⟩) (by simp)).trans hbox.out
  clear hb3 hc3 hw3
  cases b4
  · clear hf4
    go_wp2_with fail
    go_ret
    exact ⟨rfl, hw4⟩
  have HF : Hid (Pl.firstSpecial ps) := Lib.hid (hf4 rfl)
  clear hf4
  go_wp2_with fail
  refine (base_any l _ hl).mono ?_
  rintro e w5 ⟨b5, rfl, hb5, hp5⟩
  replace hb5 := hb4.trans (hb5.mono hb4.size)
  have hw5 := hW.trans (hb5.mono (by simp))
  have hc5 := (hb5.cell (p := ⟨w.heap.size, 0, none⟩) (by simp)).trans hbox.out
  clear hb4 hc4 hw4
  cases b5
  · clear hp5
    go_wp2_with fail
    go_ret
    exact ⟨rfl, hw5⟩
  have HP := Lib.hid (plain_of HN.out (hp5 rfl))
  clear hp5
  have hql : (Pl.quoted rs).length ≤ 2097152 := by
    have h1 := quoted_len rs
    rw [← HN.out.eq] at h1
    omega
  have hqs : (Pl.S (Pl.quoted rs)).size ≤ 2097152 := by rw [Pl.S_size]; exact hql
  have hts : (Pl.S (Pl.asT true ps)).size ≤ 1073741824 := by rw [Pl.S_size]; exact ht
  have HC1 : Hid (∃ k, PFnGlobSplit.impl_GlobSplit.f k (Pl.S (Pl.quoted rs ++ 47 :: Pl.asT true ps)) = some (Pl.S l, Pl.S (Pl.asT true ps))) := Lib.hid (by
    have h1 := Pl.cut_some rs ps HP.out HN.out.ne HR.out HF.out (by simp only [List.length_append, List.length_cons]; omega)
    rw [← HN.out.eq] at h1
    exact h1)
  have HC2 : Hid (∃ k, PFnGlobSplit.impl_GlobSplit.f k (Pl.S (Pl.asT true ps)) = some (⟨#[46]⟩, Pl.S (Pl.asT true ps))) := Lib.hid (Pl.cut_none ps HR.out HF.out (by omega))
  go_wp2_with fail
  refine (text_any n _ ps _ (HG.out.up hw5) (by omega)).mono ?_
  rintro e w6 ⟨rfl, hb6⟩
  replace hb6 := hw5.trans (hb6.mono hw5.size)
  clear hb5 hc5 hw5
  go_wp2_with fail
  refine (quote_any l rs _ hl HN.out.eq (fun c hc => (HP.out c hc).1) (by omega)).mono ?_
  rintro e w7 ⟨rfl, hb7⟩
  replace hb7 := hb6.trans (hb7.mono hb6.size)
  clear hb6
  go_wp2_with fail
  obtain ⟨k1, hk1⟩ := HC1.out
  have ea : Pl.S (Pl.quoted rs) ++ ⟨#[47]⟩ ++ Pl.S (Pl.asT true ps) = Pl.S (Pl.quoted rs ++ 47 :: Pl.asT true ps) := by rw [Pl.lit1, Pl.S_add, Pl.S_add]; simp
  rw [ea]
  refine (PFnGlobSplit.impl_GlobSplit.calls k1 _ _ _ _ hk1).mono ?_
  rintro e w8 ⟨rfl, hb8⟩
  replace hb8 := hb7.trans (hb8.mono hb7.size)
  clear hb7 hk1 ea
  go_wp2_with fail
  obtain ⟨k2, hk2⟩ := HC2.out
  refine (PFnGlobSplit.impl_GlobSplit.calls k2 _ _ _ _ hk2).mono ?_
  rintro e w9 ⟨rfl, hb9⟩
  replace hb9 := hb8.trans (hb9.mono hb8.size)
  clear hb8 hk2
  go_wp2_with fail
  go_ret
  exact ⟨rfl, hb9⟩
end Go.Proofs.Ythkbkiigpflonaa
