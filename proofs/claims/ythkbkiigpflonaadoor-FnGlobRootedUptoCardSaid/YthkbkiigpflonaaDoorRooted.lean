/-
  What a pattern's text matches, and what it matches with a slash ahead. No program in sight.
-/
import Derived.Test.YthkbkiigpflonaaDoorTotalB
import Derived.Test.YthkbkiigpflonaaDoorShift
namespace Go.Proofs.YthkbkiigpflonaaDoor
namespace Pl

/-- Where a match begins. -/
def s0 : St := ⟨0, 0, true, none, none⟩

def partK (p : Part) : List Tok := if p.any then [.tm (.mk 2 0 false false false [] []), .tm (.mk 2 0 false false false [] [])] else p.terms.map Tok.top
/-- A pattern's pieces. -/
def toks : Bool → List Part → List Tok
  | _, [] => []
  | first, p :: r => (if first then [] else [Tok.sl]) ++ (partK p ++ toks false r)
/-- What the look at a pattern says of it, if it says yes, as far as it is wanted here. -/
def okParts (ps : List Part) : Prop := ∀ p ∈ ps, p.any = false → (∃ c, wfL c p.terms = true) ∧ neL p.terms = false

theorem topT_txt (l : List Term) : txt (l.map Tok.top) = topT l := by
  induction l with
  | nil => rfl
  | cons x l ih => simp [txt, topT, ih, Tok.text]
theorem part_txt (p : Part) : txt (partK p) = partT p := by
  unfold partK partT
  split
  · simp [txt, Tok.text, term]
  · exact topT_txt _
theorem toks_txt : ∀ (ps : List Part) (first : Bool), txt (toks first ps) = asT first ps
  | [], _ => rfl
  | p :: r, first => by
    rw [toks, asT, txt_append, txt_append, part_txt, toks_txt r false]
    cases first <;> rfl
theorem ok_top : ∀ (a : List Term) (c : Bool), wfL c a = true → neL a = false → okL (a.map Tok.top) = true
  | [], _, _, _ => rfl
  | x :: a, c, h, hn => by
    rw [wfL] at h
    simp only [Bool.and_eq_true] at h
    rw [neL, Bool.or_eq_false_iff] at hn
    have := ok_top a _ h.2 hn.2
    simp only [okL, List.map_cons, List.all_cons, Bool.and_eq_true] at this ⊢
    exact ⟨by simp [Tok.ok, h.1.1, hn.1], this⟩
theorem toks_ok : ∀ (ps : List Part) (first : Bool), okParts ps → okL (toks first ps) = true
  | [], _, _ => rfl
  | p :: r, first, h => by
    have h1 := toks_ok r false fun q hq => h q (by simp [hq])
    have h2 : okL (partK p) = true := by
      unfold partK
      cases hp : p.any with
      | true => rfl
      | false =>
        obtain ⟨⟨c, hw⟩, hn⟩ := h p (by simp) hp
        exact ok_top _ c hw hn
    rw [toks, okL_append, okL_append, h1, h2]
    cases first <;> rfl

theorem s0_inv (ts : List Tok) (name : List UInt8) : Inv ts name s0 :=
  ⟨⟨[], ts, rfl, rfl⟩, (fun _ _ e => by cases e), (fun _ _ e => by cases e)⟩

/-- A name's first letter is no slash. -/
theorem named_dec {name : List UInt8} {rs : List Int} (h : Named name rs) : name ≠ [] ∧ (dec name).1 ≠ 47 := by
  obtain ⟨he, hf, hne, hh⟩ := h
  cases rs with
  | nil => exact absurd rfl hne
  | cons c r =>
    have hc := hf c (by simp)
    have hcf := letter_fine hc
    have h47 : c ≠ 47 := fun e => hh (by rw [e]; rfl)
    have hpos := rune_pos c
    rw [he, List.flatMap_cons]
    refine ⟨fun e => ?_, ?_⟩
    · rw [(List.append_eq_nil_iff.1 e).1] at hpos
      simp at hpos
    · rw [dec_rune c hcf]
      have := hcf.1
      simp only
      omega

/-- A match is the same with a slash ahead of both, and none with a slash ahead of the pattern alone; none says that the pattern is malformed. -/
theorem rooted_law {ps : List Part} {name : List UInt8} {rs : List Int} (h : okParts ps) (hn : Named name rs) :
    ∃ K b, matchF K true (asT true ps) name s0 = some (b, false) ∧ matchF (K + 1) true (47 :: asT true ps) (47 :: name) s0 = some (b, false) ∧ matchF 1 true (47 :: asT true ps) name s0 = some (false, false) := by
  have hok := toks_ok ps true h
  obtain ⟨K, b, hK⟩ := tot true name _ (toks true ps) s0 (Nat.le_refl _) hok (s0_inv _ _)
  have hv := valid_txt _ hok
  rw [toks_txt] at hK hv
  obtain ⟨h1, h2⟩ := named_dec hn
  exact ⟨K, b, hK K (Nat.le_refl _), rooted true K _ _ b (hK K (Nat.le_refl _)), unrooted true _ _ hv h1 h2⟩
end Pl
end Go.Proofs.YthkbkiigpflonaaDoor
