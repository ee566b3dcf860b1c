/-
  How a tree of terms lies in memory: what a value of the program's reads as, below a block number.
-/
import Derived.Test.YthkbkiigpflonaaDoorPlain
import Derived.Below
namespace Go.Proofs.YthkbkiigpflonaaDoor
open Go.RowKit
namespace Rd
open Pl (Term)

/-- The slice value v is the list l: each element, 'size' cells wide, lies as R says. -/
def Sl {α : Type} (B size : Nat) (R : Nat → Nat → α → Prop) (v : Value) (l : List α) : Prop :=
  (l = [] ∧ ∃ A cap, v = .slice A 0 cap) ∨
  (0 < l.length ∧ ∃ b off cap, v = .slice (some ⟨b, off, none⟩) l.length cap ∧ b < B ∧ l.length ≤ 140737488351232 ∧ ∀ i x, l[i]? = some x → R b (off + i * size) x)

def PairAt (w : World) (b o : Nat) (p : Int × Int) : Prop :=
  w.cell? ⟨b, o, none⟩ = some (.int .i32 p.1) ∧ w.cell? ⟨b, o + 1, none⟩ = some (.int .i32 p.2)

/-- A term's class and alternatives, as its last two fields have them. -/
def Rest (w : World) (B : Nat) (T : Value → List Term → Prop) (vo va : Value) (t : Term) : Prop :=
  Sl B 2 (PairAt w) vo t.cls ∧ Sl B 1 (fun b o l => ∃ v, w.cell? ⟨b, o, none⟩ = some v ∧ T v l) va t.alts

def Cells (w : World) (b o : Nat) (t : Term) (vo va : Value) : Prop :=
  w.cell? ⟨b, o, none⟩ = some (.int .i64 t.kind) ∧ w.cell? ⟨b, o + 1, none⟩ = some (.int .i32 t.char) ∧ w.cell? ⟨b, o + 2, none⟩ = some (.bool t.esc) ∧
  w.cell? ⟨b, o + 3, none⟩ = some (.bool t.neg) ∧ w.cell? ⟨b, o + 4, none⟩ = some (.bool t.mark) ∧ w.cell? ⟨b, o + 5, none⟩ = some vo ∧ w.cell? ⟨b, o + 6, none⟩ = some va

def TermAt (w : World) (B : Nat) : Nat → Nat → Nat → Term → Prop
  | 0, _, _, _ => False
  | n + 1, b, o, t => ∃ vo va, Cells w b o t vo va ∧ Rest w B (Sl B 7 (TermAt w B n)) vo va t

/-- The slice value v reads as terms, of depth n at most. -/
def Terms (w : World) (B n : Nat) (v : Value) (l : List Term) : Prop := Sl B 7 (TermAt w B n) v l

/-- A term as a value. -/
def TermV (w : World) (B n : Nat) (v : Value) (t : Term) : Prop :=
  ∃ vo va, v = .agg #[.int .i64 t.kind, .int .i32 t.char, .bool t.esc, .bool t.neg, .bool t.mark, vo, va] ∧ Rest w B (Terms w B n) vo va t

theorem Sl.mono {α : Type} {B B' size : Nat} {R R' : Nat → Nat → α → Prop} {v : Value} {l : List α} (h : Sl B size R v l) (hB : B ≤ B') (hR : ∀ b o x, b < B → x ∈ l → R b o x → R' b o x) : Sl B' size R' v l := by
  rcases h with h | ⟨hl, b, off, cap, hv, hb, hm, hx⟩
  · exact .inl h
  · exact .inr ⟨hl, b, off, cap, hv, by omega, hm, fun i x hi => hR _ _ _ hb (List.mem_of_getElem? hi) (hx i x hi)⟩

/-- The value of a slice, empty or not, under one head. -/
theorem Sl.form {α : Type} {B size : Nat} {R : Nat → Nat → α → Prop} {v : Value} {l : List α} (h : Sl B size R v l) :
    ∃ A cap, v = .slice A l.length cap ∧ l.length ≤ 140737488351232 ∧ ∀ i x, l[i]? = some x → ∃ b off, A = some ⟨b, off, none⟩ ∧ b < B ∧ R b (off + i * size) x := by
  rcases h with ⟨rfl, A, cap, rfl⟩ | ⟨_, b, off, cap, rfl, hb, hm, hx⟩
  · exact ⟨A, cap, rfl, by simp, fun i x hi => by simp at hi⟩
  · exact ⟨_, cap, rfl, hm, fun i x hi => ⟨b, off, rfl, hb, hx i x hi⟩⟩

theorem cellB {B : Nat} {w w' : World} (h : ∀ p : Addr, p.block < B → w'.cell? p = w.cell? p) {b o : Nat} (hb : b < B) : w'.cell? ⟨b, o, none⟩ = w.cell? ⟨b, o, none⟩ := h _ hb

theorem PairAt.keep {B : Nat} {w w' : World} (h : ∀ p : Addr, p.block < B → w'.cell? p = w.cell? p) {b o : Nat} {p : Int × Int} (hb : b < B) (hp : PairAt w b o p) : PairAt w' b o p := by
  unfold PairAt
  rw [cellB h hb, cellB h hb]
  exact hp

theorem Cells.keep {B : Nat} {w w' : World} (h : ∀ p : Addr, p.block < B → w'.cell? p = w.cell? p) {b o : Nat} {t : Term} {vo va : Value} (hb : b < B) (hp : Cells w b o t vo va) : Cells w' b o t vo va := by
  unfold Cells
  simp only [cellB h hb]
  exact hp

theorem Rest.keep {B B' : Nat} {w w' : World} (h : ∀ p : Addr, p.block < B → w'.cell? p = w.cell? p) (hB : B ≤ B') {T T' : Value → List Term → Prop} (hT : ∀ v l, T v l → T' v l) {vo va : Value} {t : Term} (hp : Rest w B T vo va t) : Rest w' B' T' vo va t :=
  ⟨hp.1.mono hB fun _ _ _ hb _ hx => PairAt.keep h hb hx, hp.2.mono hB fun b o l hb _ ⟨v, hv, hl⟩ => ⟨v, by rw [cellB h hb]; exact hv, hT _ _ hl⟩⟩

theorem TermAt.keep {B B' : Nat} {w w' : World} (h : ∀ p : Addr, p.block < B → w'.cell? p = w.cell? p) (hB : B ≤ B') : ∀ (n b o : Nat) (t : Term), b < B → TermAt w B n b o t → TermAt w' B' n b o t
  | 0, _, _, _, _, hp => hp
  | n + 1, _, _, _, hb, ⟨vo, va, hc, hr⟩ => ⟨vo, va, Cells.keep h hb hc, hr.keep h hB fun _ _ hl => hl.mono hB fun _ _ _ hb' _ hx => TermAt.keep h hB n _ _ _ hb' hx⟩

theorem Terms.keep {B B' n : Nat} {w w' : World} (h : ∀ p : Addr, p.block < B → w'.cell? p = w.cell? p) (hB : B ≤ B') {v : Value} {l : List Term} (hp : Terms w B n v l) : Terms w' B' n v l :=
  Sl.mono hp hB fun _ _ _ hb _ hx => TermAt.keep h hB _ _ _ _ hb hx

theorem TermV.keep {B B' n : Nat} {w w' : World} (h : ∀ p : Addr, p.block < B → w'.cell? p = w.cell? p) (hB : B ≤ B') {v : Value} {t : Term} (hp : TermV w B n v t) : TermV w' B' n v t := by
  obtain ⟨vo, va, hv, hr⟩ := hp
  exact ⟨vo, va, hv, hr.keep h hB fun _ _ hl => Terms.keep h hB hl⟩

theorem Terms.below {B n : Nat} {w w' : World} (h : Below B w w') {v : Value} {l : List Term} (hp : Terms w B n v l) : Terms w' B n v l := hp.keep (fun _ hb => h.cell hb) (Nat.le_refl _)
theorem TermV.below {B n : Nat} {w w' : World} (h : Below B w w') {v : Value} {t : Term} (hp : TermV w B n v t) : TermV w' B n v t := hp.keep (fun _ hb => h.cell hb) (Nat.le_refl _)

/-- A part of a pattern, and a pattern as a value. -/
def PartAt (w : World) (B n b o : Nat) (p : Pl.Part) : Prop :=
  ∃ v, w.cell? ⟨b, o, none⟩ = some (.bool p.any) ∧ w.cell? ⟨b, o + 1, none⟩ = some v ∧ Terms w B n v p.terms
def GlobV (w : World) (B n : Nat) (v : Value) (ps : List Pl.Part) : Prop := ∃ vs, v = .agg #[vs] ∧ Sl B 2 (PartAt w B n) vs ps

theorem PartAt.keep {B B' n : Nat} {w w' : World} (h : ∀ p : Addr, p.block < B → w'.cell? p = w.cell? p) (hB : B ≤ B') {b o : Nat} {p : Pl.Part} (hb : b < B) (hp : PartAt w B n b o p) : PartAt w' B' n b o p := by
  obtain ⟨v, h0, h1, h2⟩ := hp
  exact ⟨v, by rw [cellB h hb]; exact h0, by rw [cellB h hb]; exact h1, h2.keep h hB⟩
theorem GlobV.keep {B B' n : Nat} {w w' : World} (h : ∀ p : Addr, p.block < B → w'.cell? p = w.cell? p) (hB : B ≤ B') {v : Value} {ps : List Pl.Part} (hp : GlobV w B n v ps) : GlobV w' B' n v ps := by
  obtain ⟨vs, hv, hr⟩ := hp
  exact ⟨vs, hv, hr.mono hB fun _ _ _ hb _ hx => PartAt.keep h hB hb hx⟩
theorem GlobV.below {B n : Nat} {w w' : World} (h : Below B w w') {v : Value} {ps : List Pl.Part} (hp : GlobV w B n v ps) : GlobV w' B n v ps := hp.keep (fun _ hb => h.cell hb) (Nat.le_refl _)
/-- .. over new memory. -/
theorem GlobV.up {n : Nat} {w w' : World} (h : Below w.heap.size w w') {v : Value} {ps : List Pl.Part} (hp : GlobV w w.heap.size n v ps) : GlobV w' w'.heap.size n v ps := hp.keep (fun _ hb => h.cell hb) h.size
theorem Terms.up {n : Nat} {w w' : World} (h : Below w.heap.size w w') {v : Value} {l : List Term} (hp : Terms w w.heap.size n v l) : Terms w' w'.heap.size n v l := hp.keep (fun _ hb => h.cell hb) h.size
theorem TermV.up {n : Nat} {w w' : World} (h : Below w.heap.size w w') {v : Value} {t : Term} (hp : TermV w w.heap.size n v t) : TermV w' w'.heap.size n v t := hp.keep (fun _ hb => h.cell hb) h.size
theorem Rest.up {n : Nat} {w w' : World} (h : Below w.heap.size w w') {vo va : Value} {t : Term} (hp : Rest w w.heap.size (Terms w w.heap.size n) vo va t) : Rest w' w'.heap.size (Terms w' w'.heap.size n) vo va t :=
  hp.keep (fun _ hb => h.cell hb) h.size fun _ _ hl => hl.up h

end Rd
end Go.Proofs.YthkbkiigpflonaaDoor
