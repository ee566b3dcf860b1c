/-
  What comes in: a datum that reads as terms, or as a pattern, is a tree; it lies in memory as the walks want it; its text is no longer than sixteen times its bulk.
-/
import Derived.Test.YthkbkiigpflonaaDoorRead
import Derived.Test.YthkbkiigpflonaaDoorRows
import Derived.Deep.Slices
import Derived.Deep.Fields
import Derived.ChangeSame
import Derived.OpenShut
namespace Go.Proofs.YthkbkiigpflonaaDoor
open Go.ChangeShapes Go.WideShapes Go.Deep Go.RowKit
namespace Sh
open Pl (Term)

section
variable {H : Type} {enc : TypeId × Value → H} {P : Program} {w : World} {base : Nat} {spare : Nat → Bool} {held : Bool}
theorem open_slice_fields {t e : TypeId} {fs : Array Field} {fuel : Nat} {cs : List Value} {x : DataW H × List MemPlace} (ht : P.underlying t = some (.slice e)) (he : P.underlying e = some (.struct fs))
    (hone : oneCellFields P fs = true) (hC : P.cellsOf e = fs.size) (h : DataW.trod enc P w base spare held fuel t cs = some x) :
    (cs = [.slice none 0 0] ∧ x = (.nil, [])) ∨
    ∃ (a : Addr) (len cap m : Nat) (D : Nat → DataW H) (Pl : Nat → List MemPlace), cs = [.slice (some a) len cap] ∧ base ≤ a.block ∧ len ≤ cap ∧ cap ≤ maxLen ∧ m = (if spare a.block then cap else len) ∧
      x = (.slice ((List.range len).map D) ((List.range (m - len)).map fun j => D (len + j)), MemPlace.row a (m * fs.size) ++ (List.range m).flatMap Pl) ∧
      ∀ i, i < m → ∃ (ys : List (DataW H × List MemPlace)) (n : Nat), D i = .agg (ys.map (·.1)) ∧ Pl i = ys.flatMap (·.2) ∧ ys.length = fs.size ∧
        ∀ (j : Nat) (f : Field), fs[j]? = some f → ∃ (v : Value) (y : DataW H × List MemPlace), w.cell? (a.add (i * fs.size + j)) = some v ∧ ys[j]? = some y ∧ DataW.trod enc P w base spare held n f.type [v] = some y := by
  rcases open_slice ht h with h0 | ⟨a, len, cap, m, n, D, Pl, hcs, hb, hl, hm, hmm, hx, hi⟩
  · exact .inl h0
  · refine .inr ⟨a, len, cap, m, D, Pl, hcs, hb, hl, hm, hmm, by rw [hC] at hx; exact hx, fun i him => ?_⟩
    obtain ⟨cs', hc, ht'⟩ := hi i him
    rw [hC] at hc
    obtain ⟨ys, n', hn', hy, hlen, hyl, hf⟩ := DataW.trod_struct he ht'
    obtain ⟨_, hcl, hat⟩ := World.cells?_some hc
    simp only [Prod.mk.injEq] at hy
    refine ⟨ys, n', hy.1, hy.2, hyl, fun j f hj => ?_⟩
    obtain ⟨ho, hk⟩ := hone_of hone j f hj
    have hjl : j < fs.size := (Array.getElem?_eq_some_iff.1 hj).1
    have hcell := hat j hjl
    have hv : cs'[j]? = some (cs'[j]'(by omega)) := List.getElem?_eq_getElem (by omega)
    have h1 := hf j f hj
    rw [ho, hk] at h1
    have hone' : (cs'.drop j).take 1 = [cs'[j]'(by omega)] := by
      rw [List.drop_eq_getElem_cons (by omega)]
      rfl
    rw [hone'] at h1
    have hys : ys[j]? = some (ys[j]'(by omega)) := List.getElem?_eq_getElem (by omega)
    refine ⟨_, _, ?_, hys, h1.trans hys⟩
    rw [← Go.Deep.add_add, hcell, hv]
end

theorem bulk_pos {H : Type} (d : DataW H) : 1 ≤ Rows.uptoBulk d := by
  cases d with
  | lit l => cases l <;> simp [Rows.uptoBulk]
  | nil => simp [Rows.uptoBulk]
  | ptr d => simp [Rows.uptoBulk]
  | slice elems spare => simp [Rows.uptoBulk]
  | agg parts => simp [Rows.uptoBulk]
  | iface t d => simp [Rows.uptoBulk]
  | map entries => simp [Rows.uptoBulk]
  | held h => simp [Rows.uptoBulk]
theorem bulk_append {H : Type} (l r : List (DataW H)) : Rows.uptoBulkAll (l ++ r) = Rows.uptoBulkAll l + Rows.uptoBulkAll r := by
  induction l with
  | nil => simp [Rows.uptoBulkAll]
  | cons x l ih => simp only [List.cons_append, Rows.uptoBulkAll, ih]; omega
theorem bulk_mem {H : Type} {d : DataW H} {l : List (DataW H)} (h : d ∈ l) : Rows.uptoBulk d ≤ Rows.uptoBulkAll l := by
  induction l with
  | nil => cases h
  | cons x r ih =>
    simp only [Rows.uptoBulkAll]
    cases List.mem_cons.1 h with
    | inl e => subst e; omega
    | inr e => have := ih e; omega
/-- A sum that goes with the bulk of the elements. -/
theorem bulk_sum {H : Type} (D : Nat → DataW H) (f : Nat → Nat) (c : Nat) : ∀ len : Nat, (∀ i, i < len → f i ≤ c * Rows.uptoBulk (D i)) → ((List.range len).map f).sum ≤ c * Rows.uptoBulkAll ((List.range len).map D)
  | 0, _ => by simp
  | n + 1, h => by
    have ih := bulk_sum D f c n (fun i hi => h i (by omega))
    have h1 := h n (by omega)
    rw [List.range_succ, List.map_append, List.map_append, List.sum_append, bulk_append]
    simp only [List.map_cons, List.map_nil, List.sum_cons, List.sum_nil, Rows.uptoBulkAll, Nat.mul_add, Nat.add_zero]
    omega
theorem bulk_count {H : Type} (D : Nat → DataW H) (len : Nat) : len ≤ Rows.uptoBulkAll ((List.range len).map D) := by
  have h := bulk_sum D (fun _ => 1) 1 len (fun i _ => by have := bulk_pos (D i); omega)
  have e : ((List.range len).map fun _ => 1).sum = len := by
    rw [List.map_const']
    simp
  omega

theorem terms_sum (T : Nat → Term) : ∀ len : Nat, (Pl.terms ((List.range len).map T)).length = ((List.range len).map fun i => (Pl.term (T i)).length).sum
  | 0 => by simp [Pl.terms]
  | n + 1 => by
    rw [List.range_succ, List.map_append, Pl.terms_append, List.length_append, terms_sum T n]
    simp [Pl.terms]
theorem topT_sum (T : Nat → Term) : ∀ len : Nat, (Pl.topT ((List.range len).map T)).length = ((List.range len).map fun i => (Pl.topTerm (T i)).length).sum
  | 0 => by simp [Pl.topT]
  | n + 1 => by
    rw [List.range_succ, List.map_append, Pl.topT_append, List.length_append, topT_sum T n]
    simp [Pl.topT]
theorem alts_sum (A : Nat → List Term) : ∀ len : Nat, (Pl.altsT true ((List.range len).map A)).length ≤ ((List.range len).map fun i => (Pl.terms (A i)).length + 1).sum
  | 0 => by simp [Pl.altsT]
  | n + 1 => by
    have ih := alts_sum A n
    rw [List.range_succ, List.map_append, Pl.altsT_append, List.length_append, List.map_append, List.sum_append]
    simp only [List.map_cons, List.map_nil, Pl.altsT, List.append_nil, List.sum_cons, List.sum_nil, List.length_append]
    split <;> simp <;> omega
theorem inClass_len (c : Int) (p : Bool) : (Pl.inClass c p).length ≤ 5 := by
  have := Pl.inClass_le c p
  rwa [Pl.S_size] at this
theorem items_len (top mark first : Bool) (l : List (Int × Int)) : (Pl.items top mark first l).length ≤ 11 * l.length := by
  induction l generalizing first with
  | nil => simp [Pl.items]
  | cons x r ih =>
    have h := ih false
    have h1 := inClass_len x.1 (top && !first && !mark)
    have h2 := inClass_len x.2 (top && !mark)
    simp only [Pl.items, Pl.item, List.length_append, List.length_cons]
    split <;> simp <;> omega
theorem cls_len (t : Term) (top : Bool) : (Pl.clsText t top).length ≤ 11 * t.cls.length + 3 := by
  have h := items_len top t.mark true t.cls
  have h2 : (Pl.clsHead t.neg t.esc).length ≤ 2 := by
    unfold Pl.clsHead
    split
    · split <;> simp
    · simp
  simp only [Pl.clsText, List.length_append, List.length_cons, List.length_nil]
  omega
theorem term_len (t : Term) : (Pl.term t).length ≤ 11 * t.cls.length + (Pl.altsT true t.alts).length + 5 := by
  obtain ⟨k, c, e, n, m, cls, alts⟩ := t
  have h1 := Pl.rune_le c
  have h2 := cls_len (.mk k c e n m cls alts) false
  simp only [Pl.Term.cls, Pl.Term.alts] at h2 ⊢
  rw [Pl.term]
  split
  · simp only [List.length_append]
    split <;> simp <;> omega
  split
  · simp
  split
  · simp
  split
  · omega
  · simp; omega
theorem topTerm_len (t : Term) : (Pl.topTerm t).length ≤ 11 * t.cls.length + (Pl.altsT true t.alts).length + 5 := by
  have h1 := Pl.rune_le t.char
  have h2 := cls_len t true
  have h3 := term_len t
  unfold Pl.topTerm
  split
  · omega
  split
  · omega
  · exact h3

theorem cell_lt {w : World} {a : Addr} {v : Value} (h : w.cell? a = some v) : a.block < w.heap.size := by
  unfold World.cell? at h
  split at h
  · rename_i hb
    exact (Array.getElem?_eq_some_iff.1 hb).1
  · cases h
theorem addr_of {w : World} {a : Addr} {v : Value} (h : w.cell? a = some v) : a = ⟨a.block, a.off, none⟩ := by
  obtain ⟨b, o, s⟩ := a
  have : s = none := World.cell?_spot h
  rw [this]
theorem add_plain' (b o n : Nat) : (⟨b, o, none⟩ : Addr).add n = ⟨b, o + n, none⟩ := Go.WideShapes.add_plain ..

section
variable {H : Type} {enc : TypeId × Value → H} {w : World} {spare : Nat → Bool} {held : Bool}
theorem one51 : Tryd.prog.cellsOf 61 = 2 := by kernel_rfl
theorem one21 : Tryd.prog.cellsOf 21 = 1 := by kernel_rfl
theorem one37 : Tryd.prog.cellsOf 22 = 1 := by kernel_rfl
theorem seven : Tryd.prog.cellsOf 52 = 7 := by kernel_rfl
theorem two : Tryd.prog.cellsOf 38 = 2 := by kernel_rfl

/-- A class's ranges. -/
theorem pairs_read {fuel : Nat} {v : Value} {x : DataW H × List MemPlace} (h : DataW.trod enc Tryd.prog w 0 spare held fuel 49 [v] = some x) (hk : Rows.uptoBulk x.1 ≤ 1048576) :
    ∃ l : List (Int × Int), Rd.Sl w.heap.size 2 (Rd.PairAt w) v l ∧ l.length + 1 ≤ Rows.uptoBulk x.1 := by
  rcases open_slice Tryd.underlying49 h with ⟨hcs, rfl⟩ | ⟨a, len, cap, m, n, D, Pls, hcs, _, hl, hm, hmm, rfl, hi⟩
  · obtain rfl := List.head_eq_of_cons_eq hcs
    exact ⟨[], .inl ⟨rfl, _, _, rfl⟩, by simp [Rows.uptoBulk]⟩
  · obtain rfl := List.head_eq_of_cons_eq hcs
    have hle : len ≤ m := by rw [hmm]; split <;> omega
    have hb : len + 1 ≤ Rows.uptoBulk (DataW.slice ((List.range len).map D) ((List.range (m - len)).map fun j => D (len + j))) := by
      have := bulk_count D len
      simp only [Rows.uptoBulk]
      omega
    simp only at hk ⊢
    rcases Nat.eq_zero_or_pos len with h0 | h0
    · subst h0
      exact ⟨[], .inl ⟨rfl, _, _, rfl⟩, by simpa using hb⟩
    · have hcell : ∀ i, i < len → ∃ p : Int × Int, w.cell? (a.add (i * 2)) = some (.int .i32 p.1) ∧ w.cell? (a.add (i * 2 + 1)) = some (.int .i32 p.2) := by
        intro i hil
        obtain ⟨cs', hc, ht⟩ := hi i (by omega)
        rw [one51] at hc
        obtain ⟨_, hcl, hat⟩ := World.cells?_some hc
        obtain ⟨xs, m', _, _, hcl2, _, hx⟩ := DataW.trod_array Tryd.underlying61 ht
        match cs', hcl with
        | [c0, c1], _ =>
          have h1 := hx 0 (by omega)
          have h2 := hx 1 (by omega)
          rw [one21] at h1 h2
          simp only [Nat.zero_mul, Nat.one_mul, List.drop_zero, List.take_succ_cons, List.take_zero, List.drop_succ_cons] at h1 h2
          have hl2 : xs.length = 2 := by omega
          rw [List.getElem?_eq_getElem (by omega)] at h1 h2
          obtain ⟨p1, e1, _⟩ := DataW.trod_int Tryd.underlying21 h1
          obtain ⟨p2, e2, _⟩ := DataW.trod_int Tryd.underlying21 h2
          obtain rfl := List.head_eq_of_cons_eq e1
          obtain rfl := List.head_eq_of_cons_eq e2
          have g0 := hat 0 (by omega)
          have g1 := hat 1 (by omega)
          refine ⟨(p1, p2), ?_, ?_⟩
          · simpa [Addr.add] using g0
          · rw [← Go.Deep.add_add]
            simpa using g1
      obtain ⟨f, hf⟩ := choose_lt (α := Int × Int) hcell
      have h00 := (hf 0 h0).1
      simp only [Nat.zero_mul] at h00
      have ha := addr_of (by simpa [Addr.add] using h00)
      have hlt := cell_lt (by simpa [Addr.add] using h00)
      refine ⟨(List.range len).map f, .inr ⟨by simpa using h0, a.block, a.off, cap, by rw [← ha]; simp, hlt, by simp; omega, fun i x hx => ?_⟩, by simpa using hb⟩
      have hil : i < len := by
        rcases Nat.lt_or_ge i len with h | h
        · exact h
        · rw [List.getElem?_eq_none (by simpa using h)] at hx
          cases hx
      rw [List.getElem?_map, List.getElem?_range hil] at hx
      simp at hx
      subst hx
      have := hf i hil
      rw [ha, add_plain', add_plain'] at this
      exact this

/-- An element of a list that is given by its index. -/
theorem range_get {α : Type} {f : Nat → α} {len i : Nat} {x : α} (h : ((List.range len).map f)[i]? = some x) : i < len ∧ f i = x := by
  have hil : i < len := by
    rcases Nat.lt_or_ge i len with h' | h'
    · exact h'
    · rw [List.getElem?_eq_none (by simpa using h')] at h
      cases h
  rw [List.getElem?_map, List.getElem?_range hil] at h
  simp at h
  exact ⟨hil, h⟩

def TermsRead (w : World) (N : Nat) : Prop := ∀ (H : Type) (enc : TypeId × Value → H) (spare : Nat → Bool) (held : Bool) (fuel : Nat) (v : Value) (x : DataW H × List MemPlace), DataW.trod enc Tryd.prog w 0 spare held fuel 22 [v] = some x → Rows.uptoBulk x.1 ≤ N → N ≤ 1048576 →
    ∃ l : List Term, Rd.Terms w w.heap.size N v l ∧ (Pl.terms l).length + 16 ≤ 16 * Rows.uptoBulk x.1 ∧ (Pl.topT l).length + 16 ≤ 16 * Rows.uptoBulk x.1

theorem alts_read {N : Nat} (IH : TermsRead w N) {fuel : Nat} {v : Value} {x : DataW H × List MemPlace} (h : DataW.trod enc Tryd.prog w 0 spare held fuel 50 [v] = some x) (hk : Rows.uptoBulk x.1 ≤ N + 1) (hN : N ≤ 1048576) :
    ∃ l : List (List Term), Rd.Sl w.heap.size 1 (fun b o l => ∃ v, w.cell? ⟨b, o, none⟩ = some v ∧ Rd.Terms w w.heap.size N v l) v l ∧ (Pl.altsT true l).length + 16 ≤ 16 * Rows.uptoBulk x.1 := by
  rcases open_slice1 Tryd.underlying50 one37 h with ⟨hcs, rfl⟩ | ⟨a, len, cap, m, n, V, D, Pls, hcs, _, hl, hm, hmm, rfl, hi⟩
  · obtain rfl := List.head_eq_of_cons_eq hcs
    exact ⟨[], .inl ⟨rfl, _, _, rfl⟩, by simp [Rows.uptoBulk, Pl.altsT]⟩
  · obtain rfl := List.head_eq_of_cons_eq hcs
    have hle : len ≤ m := by rw [hmm]; split <;> omega
    have hcnt := bulk_count D len
    have hbulk : Rows.uptoBulkAll ((List.range len).map D) + 1 ≤ Rows.uptoBulk (DataW.slice ((List.range len).map D) ((List.range (m - len)).map fun j => D (len + j))) := by
      simp only [Rows.uptoBulk]
      omega
    have hel : ∀ i, i < len → ∃ l : List Term, Rd.Terms w w.heap.size N (V i) l ∧ (Pl.terms l).length + 16 ≤ 16 * Rows.uptoBulk (D i) := by
      intro i hil
      have hd : Rows.uptoBulk (D i) ≤ Rows.uptoBulkAll ((List.range len).map D) := bulk_mem (List.mem_map.2 ⟨i, List.mem_range.2 hil, rfl⟩)
      simp only at hk
      obtain ⟨l, h1, h2, _⟩ := IH H enc spare held n (V i) _ (hi i (by omega)).2 (by simp only; omega) hN
      exact ⟨l, h1, h2⟩
    obtain ⟨f, hf⟩ := choose_lt (α := List Term) hel
    refine ⟨(List.range len).map f, ?_, ?_⟩
    · rcases Nat.eq_zero_or_pos len with h0 | h0
      · subst h0
        exact .inl ⟨rfl, _, _, rfl⟩
      · have h00 := (hi 0 (by omega)).1
        have h00' : w.cell? a = some (V 0) := by simpa [Addr.add] using h00
        have ha := addr_of h00'
        have hlt := cell_lt h00'
        simp only at hk
        refine .inr ⟨by simpa using h0, a.block, a.off, cap, by rw [← ha]; simp, hlt, by simp; omega, fun i x hx => ?_⟩
        obtain ⟨hil, rfl⟩ := range_get hx
        have hc := (hi i (by omega)).1
        rw [ha, add_plain'] at hc
        exact ⟨V i, by rw [Nat.mul_one]; exact hc, (hf i hil).1⟩
    · have h1 := alts_sum f len
      have h2 := bulk_sum D (fun i => (Pl.terms (f i)).length + 1) 16 len (fun i hi => by have := (hf i hi).2; omega)
      simp only
      omega

theorem terms_read : ∀ N, TermsRead w N
  | 0 => fun H enc spare held fuel v x _ hk _ => by
    have := bulk_pos x.1
    omega
  | N + 1 => fun H enc spare held fuel v x h hk hN => by
    have IH := terms_read N
    rcases open_slice_fields Tryd.underlying22 Tryd.underlying52 (by kernel_rfl) (by kernel_rfl) h with ⟨hcs, rfl⟩ | ⟨a, len, cap, m, D, Pls, hcs, _, hl, hm, hmm, rfl, hi⟩
    · obtain rfl := List.head_eq_of_cons_eq hcs
      exact ⟨[], .inl ⟨rfl, _, _, rfl⟩, by simp [Rows.uptoBulk, Pl.terms], by simp [Rows.uptoBulk, Pl.topT]⟩
    · obtain rfl := List.head_eq_of_cons_eq hcs
      have hle : len ≤ m := by rw [hmm]; split <;> omega
      have hcnt := bulk_count D len
      have hbulk : Rows.uptoBulkAll ((List.range len).map D) + 1 ≤ Rows.uptoBulk (DataW.slice ((List.range len).map D) ((List.range (m - len)).map fun j => D (len + j))) := by
        simp only [Rows.uptoBulk]
        omega
      simp only at hk ⊢
      have hel : ∀ i, i < len → ∃ t : Term, (∃ vo va, w.cell? (a.add (i * 7 + 0)) = some (.int .i64 t.kind) ∧ w.cell? (a.add (i * 7 + 1)) = some (.int .i32 t.char) ∧ w.cell? (a.add (i * 7 + 2)) = some (.bool t.esc) ∧ w.cell? (a.add (i * 7 + 3)) = some (.bool t.neg) ∧
          w.cell? (a.add (i * 7 + 4)) = some (.bool t.mark) ∧ w.cell? (a.add (i * 7 + 5)) = some vo ∧ w.cell? (a.add (i * 7 + 6)) = some va ∧ Rd.Rest w w.heap.size (Rd.Terms w w.heap.size N) vo va t) ∧ 11 * t.cls.length + (Pl.altsT true t.alts).length + 5 ≤ 16 * Rows.uptoBulk (D i) := by
        intro i hil
        have hd : Rows.uptoBulk (D i) ≤ Rows.uptoBulkAll ((List.range len).map D) := bulk_mem (List.mem_map.2 ⟨i, List.mem_range.2 hil, rfl⟩)
        obtain ⟨ys, n, hD, _, hyl, hf⟩ := hi i (by omega)
        obtain ⟨v0, y0, c0, g0, t0⟩ := hf 0 _ rfl
        obtain ⟨v1, y1, c1, g1, t1⟩ := hf 1 _ rfl
        obtain ⟨v2, y2, c2, g2, t2⟩ := hf 2 _ rfl
        obtain ⟨v3, y3, c3, g3, t3⟩ := hf 3 _ rfl
        obtain ⟨v4, y4, c4, g4, t4⟩ := hf 4 _ rfl
        obtain ⟨v5, y5, c5, g5, t5⟩ := hf 5 _ rfl
        obtain ⟨v6, y6, c6, g6, t6⟩ := hf 6 _ rfl
        obtain ⟨k, e0, rfl, _⟩ := DataW.trod_int Tryd.underlying3 t0
        obtain ⟨c, e1, rfl, _⟩ := DataW.trod_int Tryd.underlying21 t1
        obtain ⟨esc, e2, rfl⟩ := DataW.trod_bool Tryd.underlying4 t2
        obtain ⟨neg, e3, rfl⟩ := DataW.trod_bool Tryd.underlying4 t3
        obtain ⟨mark, e4, rfl⟩ := DataW.trod_bool Tryd.underlying4 t4
        obtain rfl := List.head_eq_of_cons_eq e0
        obtain rfl := List.head_eq_of_cons_eq e1
        obtain rfl := List.head_eq_of_cons_eq e2
        obtain rfl := List.head_eq_of_cons_eq e3
        obtain rfl := List.head_eq_of_cons_eq e4
        have h5 : y5.1 ∈ ys.map (·.1) := List.mem_map.2 ⟨y5, List.mem_of_getElem? g5, rfl⟩
        have hys : Rows.uptoBulk y5.1 + Rows.uptoBulk y6.1 + 1 ≤ Rows.uptoBulk (D i) := by
          rw [hD]
          match ys, hyl, g5, g6 with
          | [a0, a1, a2, a3, a4, a5, a6], _, g5, g6 =>
            simp at g5 g6
            subst g5 g6
            simp only [Rows.uptoBulk, List.map_cons, List.map_nil, Rows.uptoBulkAll]
            omega
        obtain ⟨cls, hcls, hcl⟩ := pairs_read t5 (by omega)
        obtain ⟨alts, halts, hal⟩ := alts_read IH t6 (by omega) (by omega)
        refine ⟨.mk k c esc neg mark cls alts, ⟨v5, v6, c0, c1, c2, c3, c4, c5, c6, hcls, halts⟩, ?_⟩
        simp only [Pl.Term.cls, Pl.Term.alts]
        omega
      have : Inhabited Term := ⟨.mk 0 0 false false false [] []⟩
      obtain ⟨f, hf⟩ := choose_lt (α := Term) hel
      refine ⟨(List.range len).map f, ?_, ?_, ?_⟩
      · rcases Nat.eq_zero_or_pos len with h0 | h0
        · subst h0
          exact .inl ⟨rfl, _, _, rfl⟩
        · obtain ⟨⟨vo, va, h00, _⟩, _⟩ := hf 0 h0
          have h00' : w.cell? a = some (.int .i64 (f 0).kind) := by simpa [Addr.add] using h00
          have ha := addr_of h00'
          have hlt := cell_lt h00'
          refine .inr ⟨by simpa using h0, a.block, a.off, cap, by rw [← ha]; simp, hlt, by simp; omega, fun i x hx => ?_⟩
          obtain ⟨hil, rfl⟩ := range_get hx
          obtain ⟨⟨vo, va, c0, c1, c2, c3, c4, c5, c6, hr⟩, _⟩ := hf i hil
          rw [ha, add_plain'] at c0 c1 c2 c3 c4 c5 c6
          exact ⟨vo, va, ⟨c0, c1, c2, c3, c4, c5, c6⟩, hr⟩
      · have h1 := terms_sum f len
        have h2 := bulk_sum D (fun i => (Pl.term (f i)).length) 16 len (fun i hi => by have := (hf i hi).2; have := term_len (f i); omega)
        omega
      · have h1 := topT_sum f len
        have h2 := bulk_sum D (fun i => (Pl.topTerm (f i)).length) 16 len (fun i hi => by have := (hf i hi).2; have := topTerm_len (f i); omega)
        omega
end
end Sh
end Go.Proofs.YthkbkiigpflonaaDoor
