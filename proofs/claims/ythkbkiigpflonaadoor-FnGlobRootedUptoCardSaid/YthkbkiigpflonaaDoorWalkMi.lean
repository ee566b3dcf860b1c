/-
  The walk of the program's match: its switch, whole.
-/
import Derived.Test.YthkbkiigpflonaaDoorWalkMa
import Derived.Test.YthkbkiigpflonaaDoorWalkMb
import Derived.Test.YthkbkiigpflonaaDoorWalkMf
import Derived.Test.YthkbkiigpflonaaDoorTotalB
namespace Go.Proofs.YthkbkiigpflonaaDoor
open Go.RowKit

/-- What comes of going back. -/
def backF (k : Nat) (v : Bool) (pat name : List UInt8) (s : Pl.St) (p : Nat) : Option (Bool × Bool) :=
  match Pl.backs v pat name s p with
  | .next s' => Pl.matchF k v pat name s'
  | .ret b => some (b, false)
  | _ => some (false, true)

theorem not_bad {b : Bool} (h : some (false, true) = some (b, false)) : False := by
  simp only [Option.some.injEq, Prod.mk.injEq] at h
  exact absurd h.2 (by decide)

/-- The switch. -/
theorem sw_law (K n : Nat) (IH : ∀ k, k < K → MatchAt k) (pat name : List UInt8) (v b : Bool) (s : Pl.St) (a : Act) (w : World) (Q : Exit → Act → World → Prop) (hF : Fr pat name v s a) (hp : pat.length ≤ 1099511627776) (hn : name.length ≤ 1099511627776) (hT : Lib.Utf8Tabs 1 2 w)
    (c : UInt8) (t : List UInt8) (hd : pat.drop s.pi = c :: t) (hni : s.ni < name.length) (hnK : n ≤ K) (hm : Pl.matchF (n + 1) v pat name s = some (b, false))
    (hnext : ∀ s' a' w', Fr pat name v s' a' → Below w.heap.size w w' → s'.pi ≤ pat.length → s'.ni ≤ name.length → Pl.matchF n v pat name s' = some (b, false) → Q (.exit 1) a' w')
    (hback : ∀ s' a' w', Fr pat name v s' a' → Below w.heap.size w w' → s'.ds = s.ds → s'.st = s.st → s'.pi ≤ pat.length → s'.ni ≤ name.length → backF n v pat name s s'.pi = some (b, false) → Q .normal a' w')
    (hret : ∀ a' w', a'.defers = [] → a'.tmps.getD 22 undef = .bool b → a'.tmps.getD 23 undef = .nilIface → Below w.heap.size w w' → Q .ret a' w') : mSw.wp Tryd.prog Q a w := by
  have hz : ¬ name.length ≤ s.ni := by omega
  have hni' : s.ni ≤ name.length := by omega
  have hlt := drop_lt hd
  have ht := (drop_get hd).2
  have hs := Pl.step_cons hz hd
  rw [Pl.matchF] at hm
  obtain ⟨x, d, hxd⟩ : ∃ x d, Pl.dec (name.drop s.ni) = (x, d) := ⟨_, _, rfl⟩
  have hle := dec_lt _ _ _ _ hni' hxd
  have hB : ∀ p, Pl.step pat name s = .back p → backF n v pat name s p = some (b, false) := by
    intro p h
    rw [h] at hm
    exact hm
  have hN : ∀ s', Pl.step pat name s = .next s' → Pl.matchF n v pat name s' = some (b, false) := by
    intro s' h
    rw [h] at hm
    exact hm
  have hbad : Pl.step pat name s = .bad → False := by
    intro h
    rw [h] at hm
    exact not_bad hm
  by_cases h42 : c.toNat = 42
  · obtain rfl : c = 42 := UInt8.toNat_inj.1 h42
    rw [if_pos h42] at hs
    by_cases h2 : t.head? = some 42
    · rw [if_pos h2] at hs
      obtain ⟨t2, rfl⟩ : ∃ t2, t = 42 :: t2 := by
        cases t with
        | nil => simp at h2
        | cons y t2 =>
          simp only [List.head?_cons, Option.some.injEq] at h2
          exact ⟨t2, by rw [h2]⟩
      have hlt2 := drop_lt ht.symm
      have hdr : (42 :: t2 : List UInt8).drop 1 = t2 := rfl
      rw [hdr] at hs
      cases hso : s.sos with
      | false =>
        rw [hso, if_neg (by decide)] at hs
        exact sw_star2 pat name v s a w Q hF hp hT t2 hd (.inl hso) fun a' w' h1 h2 => hnext _ a' w' h1 h2 (by simp only; omega) hni' (hN _ hs)
      | true =>
        rw [hso, if_pos rfl] at hs
        by_cases h0 : t2 = []
        · rw [if_pos h0] at hs
          rw [hs] at hm
          simp only [Option.some.injEq, Prod.mk.injEq] at hm
          obtain ⟨rfl, _⟩ := hm
          subst h0
          exact sw_all pat name v s a w Q hF hp hd hso fun a' h1 h2 h3 => hret a' w h1 h2 h3 (Below.refl _ _)
        rw [if_neg h0] at hs
        obtain ⟨y, e, hye⟩ : ∃ y e, Pl.dec t2 = (y, e) := ⟨_, _, rfl⟩
        rw [hye] at hs
        by_cases h47 : y = 47
        · subst h47
          rw [if_pos rfl] at hs
          have hle2 := dec_le _ _ _ hye
          have ht2 := congrArg List.length (drop_get ht.symm).2
          rw [List.length_drop] at ht2
          exact sw_dirs pat name v s a w Q hF hp hT t2 hd hso h0 e hye fun a' w' h1 h2 => hnext _ a' w' h1 h2 (by simp only; omega) hni' (hN _ hs)
        · rw [if_neg h47] at hs
          exact sw_star2 pat name v s a w Q hF hp hT t2 hd (.inr ⟨hso, h0, by rw [hye]; exact h47⟩) fun a' w' h1 h2 => hnext _ a' w' h1 h2 (by simp only; omega) hni' (hN _ hs)
    · rw [if_neg h2] at hs
      exact sw_star1 pat name v s a w Q hF hp t hd h2 fun a' h1 => hnext _ a' w h1 (Below.refl _ _) (by simp only; omega) hni' (hN _ hs)
  rw [if_neg h42] at hs
  by_cases h63 : c.toNat = 63
  · obtain rfl : c = 63 := UInt8.toNat_inj.1 h63
    rw [if_pos h63, hxd] at hs
    by_cases h47 : x = 47
    · subst h47
      rw [if_pos rfl] at hs
      exact sw_one_back pat name v s a w Q hF hp hn hT t hd hni' d hxd fun a' w' h1 h2 => hback _ a' w' h1 h2 rfl rfl (by simp only; omega) hni' (hB _ hs)
    · rw [if_neg h47] at hs
      exact sw_one pat name v s a w Q hF hp hn hT t hd hni' x d hxd h47 fun a' w' h1 h2 => hnext _ a' w' h1 h2 (by simp only; omega) hle (hN _ hs)
  rw [if_neg h63] at hs
  by_cases h91 : c.toNat = 91
  · obtain rfl : c = 91 := UInt8.toNat_inj.1 h91
    rw [if_pos h91] at hs
    by_cases hb1 : t = [] ∨ t.head? = some 33 ∨ t.head? = some 94 ∨ t.head? = some 93
    · rw [if_pos hb1] at hs
      exact (hbad hs).elim
    rw [if_neg hb1] at hs
    cases t with
    | nil => exact absurd (.inl rfl) hb1
    | cons c1 t1 =>
      have g1 : c1.toNat ≠ 33 := fun h => hb1 (.inr (.inl (by rw [List.head?_cons]; congr 1; exact UInt8.toNat_inj.1 h)))
      have g2 : c1.toNat ≠ 94 := fun h => hb1 (.inr (.inr (.inl (by rw [List.head?_cons]; congr 1; exact UInt8.toNat_inj.1 h))))
      have g3 : c1.toNat ≠ 93 := fun h => hb1 (.inr (.inr (.inr (by rw [List.head?_cons]; congr 1; exact UInt8.toNat_inj.1 h))))
      rw [hxd] at hs
      simp only at hs
      cases hcl : Pl.clsF ((c1 :: t1).length + 1) (c1 :: t1) 1114111 x (s.pi + 1) with
      | none =>
        rw [hcl] at hs
        exact (hbad hs).elim
      | some me =>
        obtain ⟨m, e⟩ := me
        rw [hcl] at hs
        cases m with
        | false =>
          simp only at hs
          by_cases hge : pat.length ≤ e
          · rw [if_pos hge] at hs
            exact (hbad hs).elim
          rw [if_neg hge] at hs
          exact sw_cls pat name v s a w Q hF hp hn hT c1 t1 hd g1 g2 g3 hni' x d hxd false e _ hcl (fun _ => by omega) 0 (fun h => by cases h)
            (fun _ a' w' h1 h2 => hback _ a' w' h1 h2 rfl rfl (by simp only; omega) hni' (hB _ hs)) (fun h => by cases h)
        | true =>
          simp only at hs
          cases hj : Pl.closerM (pat.drop e) false 0 with
          | none =>
            rw [hj] at hs
            exact (hbad hs).elim
          | some j =>
            rw [hj] at hs
            simp only at hs
            have hjl := (closer_lt _ _ _ _ hj).2
            rw [List.length_drop] at hjl
            exact sw_cls pat name v s a w Q hF hp hn hT c1 t1 hd g1 g2 g3 hni' x d hxd true e _ hcl (fun h => by cases h) j (fun _ => hj)
              (fun h => by cases h) (fun _ a' w' h1 h2 => hnext _ a' w' h1 h2 (by simp only; omega) hle (hN _ hs))
  rw [if_neg h91] at hs
  by_cases h123 : c.toNat = 123
  · obtain rfl : c = 123 := UInt8.toNat_inj.1 h123
    rw [if_pos h123] at hs
    rw [hs] at hm
    simp only at hm
    rw [← ht] at hm
    cases hci : Pl.closeM t 0 1 0 with
    | none =>
      rw [hci] at hm
      exact (not_bad hm).elim
    | some ci =>
      rw [hci] at hm
      simp only at hm
      exact sw_alts K IH pat name v s a w Q hF hp hn hT t hd hni' ci n b hci hnK hm hret
  rw [if_neg h123] at hs
  by_cases h92 : c.toNat = 92
  · obtain rfl : c = 92 := UInt8.toNat_inj.1 h92
    rw [if_pos h92] at hs
    by_cases h0 : t = []
    · rw [if_pos h0] at hs
      exact (hbad hs).elim
    rw [if_neg h0] at hs
    obtain ⟨y, e, hye⟩ : ∃ y e, Pl.dec t = (y, e) := ⟨_, _, rfl⟩
    have hle2 := dec_le _ _ _ hye
    have htl := congrArg List.length ht
    rw [List.length_drop] at htl
    rw [hye, hxd] at hs
    simp only at hs
    by_cases hyx : y = x
    · subst hyx
      rw [if_pos rfl] at hs
      exact sw_esc pat name v s a w Q hF hp hn hT t hd h0 hni' y e d hye hxd fun a' w' h1 h2 => hnext _ a' w' h1 h2 (by simp only; omega) hle (hN _ hs)
    · rw [if_neg hyx] at hs
      exact sw_esc_back pat name v s a w Q hF hp hn hT t hd h0 hni' y e x d hye hxd hyx fun a' w' h1 h2 => hback s a' w' h1 h2 rfl rfl (by omega) hni' (hB _ hs)
  rw [if_neg h92] at hs
  have hcb : plainB c := ⟨h42, h63, h91, h123, h92⟩
  obtain ⟨y, e, hye⟩ : ∃ y e, Pl.dec (c :: t) = (y, e) := ⟨_, _, rfl⟩
  have hle2 := dec_lt pat s.pi y e (by omega) (by rw [hd]; exact hye)
  rw [hye, hxd] at hs
  simp only at hs
  by_cases hyx : y = x
  · subst hyx
    rw [if_pos rfl] at hs
    exact sw_lit pat name v s a w Q hF hp hn hT c t hd hcb hni' y e d hye hxd fun a' w' h1 h2 => hnext _ a' w' h1 h2 hle2 hle (hN _ hs)
  · rw [if_neg hyx] at hs
    have hb := hB _ hs
    obtain ⟨pi, ni, sos, ds, st⟩ := s
    simp only at hd hni hni' hlt hxd hb hle hle2
    cases pi with
    | zero =>
      rw [if_neg (fun h => Nat.lt_irrefl 0 h.1)] at hb
      exact sw_lit_back0 pat name v ni sos ds st a w Q hF hp hn hT c t hd hcb hni' y e x d hye hxd hyx fun a' w' h1 h2 => hback _ a' w' h1 h2 rfl rfl (by simp only; omega) hni' hb
    | succ q =>
      refine sw_lit_back pat name v q ni sos ds st a w Q hF hp hn hT c t hd hcb hni' y e x d hye hxd hyx fun a' w' h1 h2 => hback _ a' w' h1 h2 rfl rfl (by simp only; split <;> omega) hni' ?_
      simp only [Nat.add_sub_cancel, Nat.succ_pos, true_and] at hb
      exact hb
end Go.Proofs.YthkbkiigpflonaaDoor
