/-
  What comes in: a datum that reads as a pattern.
-/
import Derived.Test.YthkbkiigpflonaaDoorShape
namespace Go.Proofs.YthkbkiigpflonaaDoor
open Go.ChangeShapes Go.WideShapes Go.Deep Go.RowKit
namespace Sh
open Pl (Term)

theorem asT_sum (A : Nat → Pl.Part) : ∀ len : Nat, (Pl.asT true ((List.range len).map A)).length ≤ ((List.range len).map fun i => (Pl.partT (A i)).length + 1).sum
  | 0 => by simp [Pl.asT]
  | n + 1 => by
    have ih := asT_sum A n
    rw [List.range_succ, List.map_append, Pl.asT_append, List.length_append, List.map_append, List.sum_append]
    simp only [List.map_cons, List.map_nil, Pl.asT, List.append_nil, List.sum_cons, List.sum_nil, List.length_append]
    split <;> simp <;> omega

section
variable {H : Type} {enc : TypeId × Value → H} {w : World} {spare : Nat → Bool} {held : Bool}
theorem parts_read (N : Nat) {fuel : Nat} {v : Value} {x : DataW H × List MemPlace} (h : DataW.trod enc Tryd.prog w 0 spare held fuel 28 [v] = some x) (hk : Rows.uptoBulk x.1 ≤ N) (hN : N ≤ 1048576) :
    ∃ l : List Pl.Part, Rd.Sl w.heap.size 2 (Rd.PartAt w w.heap.size N) v l ∧ (Pl.asT true l).length ≤ 16 * Rows.uptoBulk x.1 ∧ l.length ≤ Rows.uptoBulk x.1 := by
  rcases open_slice_fields Tryd.underlying28 Tryd.underlying38 (by kernel_rfl) (by kernel_rfl) h with ⟨hcs, rfl⟩ | ⟨a, len, cap, m, D, Pls, hcs, _, hl, hm, hmm, rfl, hi⟩
  · obtain rfl := List.head_eq_of_cons_eq hcs
    exact ⟨[], .inl ⟨rfl, _, _, rfl⟩, by simp [Pl.asT], by simp⟩
  · obtain rfl := List.head_eq_of_cons_eq hcs
    have hle : len ≤ m := by rw [hmm]; split <;> omega
    have hcnt := bulk_count D len
    have hbulk : Rows.uptoBulkAll ((List.range len).map D) + 1 ≤ Rows.uptoBulk (DataW.slice ((List.range len).map D) ((List.range (m - len)).map fun j => D (len + j))) := by
      simp only [Rows.uptoBulk]
      omega
    simp only at hk ⊢
    have hel : ∀ i, i < len → ∃ p : Pl.Part, (∃ v, w.cell? (a.add (i * 2 + 0)) = some (.bool p.any) ∧ w.cell? (a.add (i * 2 + 1)) = some v ∧ Rd.Terms w w.heap.size N v p.terms) ∧ (Pl.partT p).length + 1 ≤ 16 * Rows.uptoBulk (D i) := by
      intro i hil
      have hd : Rows.uptoBulk (D i) ≤ Rows.uptoBulkAll ((List.range len).map D) := bulk_mem (List.mem_map.2 ⟨i, List.mem_range.2 hil, rfl⟩)
      obtain ⟨ys, n, hD, _, hyl, hf⟩ := hi i (by omega)
      obtain ⟨v0, y0, c0, g0, t0⟩ := hf 0 _ rfl
      obtain ⟨v1, y1, c1, g1, t1⟩ := hf 1 _ rfl
      obtain ⟨any, e0, rfl⟩ := DataW.trod_bool Tryd.underlying4 t0
      obtain rfl := List.head_eq_of_cons_eq e0
      have hys : Rows.uptoBulk y1.1 + 1 ≤ Rows.uptoBulk (D i) := by
        rw [hD]
        match ys, hyl, g1 with
        | [a0, a1], _, g1 =>
          simp at g1
          subst g1
          simp only [Rows.uptoBulk, List.map_cons, List.map_nil, Rows.uptoBulkAll]
          omega
      obtain ⟨l, h1, _, h3⟩ := terms_read N H enc spare held n v1 y1 t1 (by omega) hN
      refine ⟨⟨any, l⟩, ⟨v1, c0, c1, h1⟩, ?_⟩
      unfold Pl.partT
      split
      · simp; omega
      · simp only; omega
    have : Inhabited Pl.Part := ⟨⟨false, []⟩⟩
    obtain ⟨f, hf⟩ := choose_lt (α := Pl.Part) hel
    refine ⟨(List.range len).map f, ?_, ?_, by simp; omega⟩
    · rcases Nat.eq_zero_or_pos len with h0 | h0
      · subst h0
        exact .inl ⟨rfl, _, _, rfl⟩
      · obtain ⟨⟨v, h00, _⟩, _⟩ := hf 0 h0
        have h00' : w.cell? a = some (.bool (f 0).any) := by simpa [Addr.add] using h00
        have ha := addr_of h00'
        have hlt := cell_lt h00'
        refine .inr ⟨by simpa using h0, a.block, a.off, cap, by rw [← ha]; simp, hlt, by simp; omega, fun i x hx => ?_⟩
        obtain ⟨hil, rfl⟩ := range_get hx
        obtain ⟨⟨v, c0, c1, hr⟩, _⟩ := hf i hil
        rw [ha, add_plain'] at c0 c1
        exact ⟨v, c0, c1, hr⟩
    · have h1 := asT_sum f len
      have h2 := bulk_sum D (fun i => (Pl.partT (f i)).length + 1) 16 len (fun i hi => (hf i hi).2)
      omega

/-- A pattern that comes in. -/
theorem glob_read {r : Reach} {b0 : Nat} {v : Value} {d : DataW H} {p : List MemPlace} (hv : Value.okWide Tryd.prog w r b0 30 v) (h : DataW.Trod enc Tryd.prog w 0 spare held 30 v d p) (hk : Rows.uptoBulk d ≤ 1048576) :
    ∃ ps : List Pl.Part, Rd.GlobV w w.heap.size 1048576 v ps ∧ (Pl.asT true ps).length ≤ 16 * Rows.uptoBulk d ∧ ps.length ≤ Rows.uptoBulk d := by
  obtain ⟨cs, rfl, hsz⟩ := okWide_struct Tryd.underlying30 hv
  obtain ⟨l⟩ := cs
  match l, hsz.trans (show Tryd.prog.cellsOf 30 = 1 by kernel_rfl) with
  | [c0], _ =>
    obtain ⟨fuel, hf⟩ := h
    obtain ⟨xs, n, _, hx, _, hlen, hg⟩ := DataW.trod_struct Tryd.underlying30 hf
    match xs, hlen with
    | [y0], _ =>
      have h0 : DataW.trod enc Tryd.prog w 0 spare held n 28 ((List.drop 0 [c0]).take (Tryd.prog.cellsOf 28)) = some y0 := hg 0 _ rfl
      have h0' : DataW.trod enc Tryd.prog w 0 spare held n 28 [c0] = some y0 := by
        have e : Tryd.prog.cellsOf 28 = 1 := by kernel_rfl
        rw [e] at h0
        exact h0
      simp only [Prod.mk.injEq] at hx
      obtain ⟨rfl, _⟩ := hx
      simp only [Rows.uptoBulk, List.map_cons, List.map_nil, Rows.uptoBulkAll] at hk ⊢
      obtain ⟨ps, h1, h2, h3⟩ := parts_read 1048576 h0' (by omega) (Nat.le_refl _)
      exact ⟨ps, ⟨c0, rfl, h1⟩, by omega, by omega⟩
end
end Sh
end Go.Proofs.YthkbkiigpflonaaDoor
