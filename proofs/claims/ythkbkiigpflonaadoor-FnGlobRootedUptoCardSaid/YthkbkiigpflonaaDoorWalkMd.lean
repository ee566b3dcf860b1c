/-
  The walk of the program's match: its switch at a class.
-/
import Derived.Test.YthkbkiigpflonaaDoorWalkMc
namespace Go.Proofs.YthkbkiigpflonaaDoor
open Go.RowKit

set_option maxHeartbeats 4000000
set_option maxRecDepth 100000

/-- A loop that is left by ways that are named. -/
theorem loop_law {P : Program} {c : Code} {Q : Exit → Act → World → Prop} {a : Act} {w : World} (I : Nat → Act → World → Prop) (X : Exit → Act → World → Prop) (n0 : Nat) (h0 : I n0 a w) (hX : ∀ e a w, e ≠ .normal → X e a w → Q e a w)
    (round : ∀ n a w, I n a w → ∀ Q' : Exit → Act → World → Prop, (∀ n' a' w', n' < n → I n' a' w' → Q' .normal a' w') → (∀ e a' w', e ≠ .normal → X e a' w' → Q' e a' w') → c.wp P Q' a w) : (Code.loop c).wp P Q a w :=
  wp_loop_ghost I n0 h0 fun n a w hI => round n a w hI _ (fun n' a' w' h1 h2 => ⟨n', h1, h2⟩) fun e a' w' he hx => by
    cases e with
    | normal => exact absurd rfl he
    | _ => exact hX _ _ _ he hx

/-- Where the look at a class may stand: within, and at its end. -/
def ClsI (pat name : List UInt8) (v : Bool) (s : Pl.St) (x d : Nat) (m : Bool) (e : Nat) (w : World) (n : Nat) (a' : Act) (w' : World) : Prop :=
  ∃ q last, FrC pat name v s q x d false last a' ∧ Below w.heap.size w w' ∧ q ≤ pat.length ∧ Pl.clsF n (pat.drop q) last x q = some (m, e)
def ClsX (pat name : List UInt8) (v : Bool) (s : Pl.St) (x d : Nat) (m : Bool) (e : Nat) (w : World) (ex : Exit) (a' : Act) (w' : World) : Prop :=
  ex = .exit 9 ∧ ∃ last, FrC pat name v s e x d m last a' ∧ Below w.heap.size w w' ∧ e ≤ pat.length

theorem cls_round (pat name : List UInt8) (v : Bool) (s : Pl.St) (x d : Nat) (m : Bool) (e : Nat) (w : World) (hp : pat.length ≤ 1099511627776) (hT : Lib.Utf8Tabs 1 2 w) (n : Nat) (a : Act) (w1 : World) (hI : ClsI pat name v s x d m e w n a w1) (Q : Exit → Act → World → Prop)
    (hnext : ∀ n' a' w', n' < n → ClsI pat name v s x d m e w n' a' w' → Q .normal a' w') (hX : ∀ ex a' w', ex ≠ .normal → ClsX pat name v s x d m e w ex a' w' → Q ex a' w') : clsBody.wp Tryd.prog Q a w1 := by
  obtain ⟨q, last, hC, hb, hq, hcl⟩ := hI
  have hT1 := tabs_below hT hb
  cases n with
  | zero => simp [Pl.clsF] at hcl
  | succ n =>
    have hend : pat.drop q = [] ∨ (∃ t, pat.drop q = 93 :: t) → m = false ∧ e = q := by
      intro h
      rcases h with h | ⟨t, h⟩
      · rw [h, Pl.clsF] at hcl
        simp at hcl
        exact ⟨hcl.1, hcl.2.symm⟩
      · rw [h, Pl.clsF] at hcl
        simp at hcl
        exact ⟨hcl.1, hcl.2.symm⟩
    by_cases he : pat.drop q = [] ∨ (∃ t, pat.drop q = 93 :: t)
    · obtain ⟨rfl, rfl⟩ := hend he
      exact cls_end pat name v s _ x d last a w1 Q hC hp hq he fun a' h => hX _ _ _ (by simp) ⟨rfl, last, h, hb, hq⟩
    obtain ⟨c, t, hd⟩ : ∃ c t, pat.drop q = c :: t := by
      cases h : pat.drop q with
      | nil => exact absurd (.inl h) he
      | cons c t => exact ⟨c, t, rfl⟩
    have h93 : c.toNat ≠ 93 := fun h => he (.inr ⟨t, by rw [hd]; congr 1; exact UInt8.toNat_inj.1 h⟩)
    clear he hend
    obtain ⟨x0, d0, hx0⟩ : ∃ x0 d0, Pl.dec (c :: t) = (x0, d0) := ⟨_, _, rfl⟩
    have hlp := dec_lt pat q x0 d0 hq (by rw [hd]; exact hx0)
    have hdr : ∀ k, (c :: t).drop k = pat.drop (q + k) := fun k => by rw [← hd, List.drop_drop]
    rw [hd, Pl.clsF] at hcl
    rw [if_neg h93] at hcl
    simp only [hx0] at hcl
    by_cases h45 : x0 = 45
    · subst h45
      rw [if_pos rfl] at hcl
      split at hcl
      · rename_i hg
        obtain ⟨hl, hne, h93'⟩ := hg
        rw [hdr] at hne h93'
        obtain ⟨c1, t1, hd1⟩ : ∃ c1 t1, pat.drop (q + d0) = c1 :: t1 := by
          cases h : pat.drop (q + d0) with
          | nil => exact absurd h hne
          | cons c t => exact ⟨c, t, rfl⟩
        rw [hd1, List.head?_cons] at h93'
        have hc1 : c1.toNat ≠ 93 := fun h => h93' (by congr 1; exact UInt8.toNat_inj.1 h)
        have hlt1 := drop_lt hd1
        have hf : (if ((c :: t).drop d0).head? = some 92 then 1 else 0) = if c1.toNat = 92 then 1 else 0 := by
          rw [hdr, hd1, List.head?_cons]
          by_cases h : c1 = 92
          · rw [h, if_pos rfl, if_pos (by rfl)]
          · rw [if_neg (by simpa using h), if_neg (fun e : c1.toNat = 92 => h (UInt8.toNat_inj.1 e))]
        rw [hf] at hcl
        obtain ⟨f, hff⟩ : ∃ f, f = if c1.toNat = 92 then 1 else 0 := ⟨_, rfl⟩
        have hf1 : f ≤ 1 := by rw [hff]; split <;> omega
        rw [← hff] at hcl
        obtain ⟨y, d1, hx1⟩ : ∃ y d1, Pl.dec (pat.drop (q + d0 + f)) = (y, d1) := ⟨_, _, rfl⟩
        have hlp1 := dec_lt pat (q + d0 + f) y d1 (by omega) hx1
        rw [hdr, ← Nat.add_assoc, hx1] at hcl
        simp only at hcl
        rw [hdr] at hcl
        have hass : q + (d0 + f + d1) = q + d0 + f + d1 := by omega
        rw [hass] at hcl
        refine cls_rng pat name v s q x d last a w1 Q hC hp hT1 c t hd h93 d0 hx0 hl c1 t1 hd1 hc1 f hff y d1 hx1 (fun hy a' w' h hb' => ?_) (fun hy a' w' h hb' => ?_)
        · rw [if_pos hy] at hcl
          simp only [Option.some.injEq, Prod.mk.injEq] at hcl
          obtain ⟨rfl, rfl⟩ := hcl
          exact hX _ _ _ (by simp) ⟨rfl, last, h, hb.trans (hb'.mono hb.size), hlp1⟩
        · rw [if_neg hy] at hcl
          exact hnext n _ _ (Nat.lt_succ_self n) ⟨_, _, h, hb.trans (hb'.mono hb.size), hlp1, hcl⟩
      · cases hcl
    rw [if_neg h45] at hcl
    by_cases h92 : x0 = 92
    · subst h92
      simp only [if_true] at hcl
      obtain ⟨y, d1, hx1⟩ : ∃ y d1, Pl.dec (pat.drop (q + d0)) = (y, d1) := ⟨_, _, rfl⟩
      have hlp1 := dec_lt pat (q + d0) y d1 hlp hx1
      rw [hdr, hx1] at hcl
      simp only at hcl
      rw [hdr, ← Nat.add_assoc] at hcl
      refine cls_esc pat name v s q x d last a w1 Q hC hp hT1 c t hd h93 d0 hx0 y d1 hx1 (fun hy a' w' h hb' => ?_) (fun hy a' w' h hb' => ?_)
      · rw [if_pos hy] at hcl
        simp only [Option.some.injEq, Prod.mk.injEq] at hcl
        obtain ⟨rfl, rfl⟩ := hcl
        exact hX _ _ _ (by simp) ⟨rfl, last, h, hb.trans (hb'.mono hb.size), hlp1⟩
      · rw [if_neg hy] at hcl
        exact hnext n _ _ (Nat.lt_succ_self n) ⟨_, _, h, hb.trans (hb'.mono hb.size), hlp1, hcl⟩
    · simp only [h92, if_false, List.drop_zero, hx0, Nat.zero_add] at hcl
      rw [hdr] at hcl
      refine cls_one pat name v s q x d last a w1 Q hC hp hT1 c t hd h93 x0 d0 hx0 h92 h45 (fun hy a' w' h hb' => ?_) (fun hy a' w' h hb' => ?_)
      · rw [if_pos hy] at hcl
        simp only [Option.some.injEq, Prod.mk.injEq] at hcl
        obtain ⟨rfl, rfl⟩ := hcl
        exact hX _ _ _ (by simp) ⟨rfl, last, h, hb.trans (hb'.mono hb.size), hlp⟩
      · rw [if_neg hy] at hcl
        exact hnext n _ _ (Nat.lt_succ_self n) ⟨_, _, h, hb.trans (hb'.mono hb.size), hlp, hcl⟩

/-- A class. -/
theorem sw_cls (pat name : List UInt8) (v : Bool) (s : Pl.St) (a : Act) (w : World) (Q : Exit → Act → World → Prop) (hF : Fr pat name v s a) (hp : pat.length ≤ 1099511627776) (hn : name.length ≤ 1099511627776) (hT : Lib.Utf8Tabs 1 2 w)
    (c1 : UInt8) (t1 : List UInt8) (hd : pat.drop s.pi = 91 :: c1 :: t1) (h1 : c1.toNat ≠ 33) (h2 : c1.toNat ≠ 94) (h3 : c1.toNat ≠ 93) (hni : s.ni ≤ name.length) (x d : Nat) (hxd : Pl.dec (name.drop s.ni) = (x, d))
    (m : Bool) (e n : Nat) (hcl : Pl.clsF n (c1 :: t1) 1114111 x (s.pi + 1) = some (m, e)) (hm0 : m = false → e < pat.length) (j : Nat) (hm1 : m = true → Pl.closerM (pat.drop e) false 0 = some j)
    (hback : m = false → ∀ a' w', Fr pat name v ⟨e, s.ni, false, s.ds, s.st⟩ a' → Below w.heap.size w w' → Q .normal a' w')
    (hnext : m = true → ∀ a' w', Fr pat name v ⟨e + (j + 1), s.ni + d, false, s.ds, s.st⟩ a' → Below w.heap.size w w' → Q (.exit 1) a' w') : mSw.wp Tryd.prog Q a w := by
  obtain ⟨u, -, rfl⟩ := fr_open hF
  clear hF
  obtain ⟨hc, ht⟩ := drop_get hd
  obtain ⟨hc1, _⟩ := drop_get ht.symm
  have hlt := drop_lt hd
  have hlt1 := drop_lt ht.symm
  have hg := Pl.S_get pat s.pi 91 hc
  have hg1 := Pl.S_get pat (s.pi + 1) c1 hc1
  have hsz := Pl.S_size pat
  have hszn := Pl.S_size name
  have hlt' : s.pi < (Pl.S pat).size := by omega
  have hB : (Pl.S pat).size ≤ 1099511627776 := by omega
  have hBn : (Pl.S name).size ≤ 1099511627776 := by omega
  have hni' : s.ni ≤ (Pl.S name).size := by omega
  have hle := dec_lt _ _ _ _ hni hxd
  have hsum : (s.ni : Int) + (d : Int) ≤ ((Pl.S name).size : Int) := by omega
  have hlt1' : (s.pi : Int) + 1 < ((Pl.S pat).size : Int) := by omega
  have hex := S_from name s.ni
  have t33 : ((c1.toNat : Int) == 33) = false := by rw [beq_eq_false_iff_ne]; omega
  have t94 : ((c1.toNat : Int) == 94) = false := by rw [beq_eq_false_iff_ne]; omega
  have t93 : ((c1.toNat : Int) == 93) = false := by rw [beq_eq_false_iff_ne]; omega
  have HD := Lib.hid hxd
  have HSZ := Lib.hid hsz
  have H0 := Lib.hid (show Pl.clsF n (pat.drop (s.pi + 1)) 1114111 x (s.pi + 1) = some (m, e) by rw [← ht]; exact hcl)
  have HL := Lib.hid hlt
  have HM0 := Lib.hid hm0
  have HM1 := Lib.hid hm1
  have HB := Lib.hid hback
  have HN := Lib.hid hnext
  have HP := Lib.hid hp
  generalize name.drop s.ni = nt at *
  clear hd hc ht hc1 hlt hlt1 hsz hszn hle hxd h1 h2 h3 hcl hm0 hm1 hback hnext
  conv => arg 2; whnf
  go_wp2_with (go_at_call 40; refine (dec_at nt _ hT x d HD.out).mono ?_; rintro e w1 ⟨rfl, hb⟩)
  refine loop_law (ClsI pat name v s x d m e w) (ClsX pat name v s x d m e w) n ?_ ?_ (fun n' a' w' hI Q' hn' hx' => cls_round pat name v s x d m e w hp hT n' a' w' hI Q' hn' hx')
  · have := HL.out
    exact ⟨s.pi + 1, 1114111, ⟨⟨rfl, rfl, rfl, rfl, rfl, rfl, rfl, rfl, rfl, rfl, rfl, rfl, rfl, rfl, rfl, rfl⟩, rfl, rfl, rfl, rfl, rfl⟩, hb, by omega, H0.out⟩
  · rintro ex a' w' - ⟨rfl, last, hC, hb2, hel⟩
    obtain ⟨u', rfl⟩ := cls_open hC
    clear hC
    have hel' : e ≤ (Pl.S pat).size := by rw [HSZ.out]; exact hel
    cases m with
    | false =>
      have HX := Lib.hid (HB.out rfl)
      have hlt2 : (e : Int) < ((Pl.S pat).size : Int) := by have := HM0.out rfl; have := HSZ.out; omega
      clear hel HB HN HM0 HM1 H0
      go_wp2_with fail
      exact HX.out _ _ ⟨rfl, rfl, rfl, rfl, rfl, rfl, rfl, rfl, rfl, rfl, rfl, rfl, rfl, rfl, rfl, rfl⟩ hb2
    | true =>
      have HX := Lib.hid (HN.out rfl)
      have hcj := HM1.out rfl
      have hcl := closer_lt _ _ _ _ hcj
      rw [List.length_drop] at hcl
      have hel2 : (e : Int) + ((j : Int) + 1) ≤ ((Pl.S pat).size : Int) := by have := HSZ.out; omega
      have hjm : ((j : Int) == -1) = false := by rw [beq_eq_false_iff_ne]; omega
      have hex2 := S_from pat e
      have hlen : (pat.drop e).length ≤ 1099511627776 := by rw [List.length_drop]; omega
      have hpl : Pl.place (Pl.closerM (pat.drop e) false 0) = j := by rw [hcj]; rfl
      have HPL := Lib.hid hpl
      clear hel HB HN HM0 HM1 H0 hcj hcl hpl
      generalize pat.drop e = pe at *
      go_wp2_with (go_at_call 43; refine (closer_any pe _ hlen).mono ?_; rintro e1 w3 ⟨rfl, rfl⟩; rw [HPL.out])
      exact HX.out _ _ ⟨rfl, rfl, rfl, rfl, rfl, rfl, rfl, rfl, rfl, rfl, rfl, rfl, rfl, rfl, rfl, rfl⟩ hb2
end Go.Proofs.YthkbkiigpflonaaDoor
