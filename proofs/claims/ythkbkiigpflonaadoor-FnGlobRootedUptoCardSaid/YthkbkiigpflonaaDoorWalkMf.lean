/-
  The walk of the program's match: its switch at alternatives.
-/
import Derived.Test.YthkbkiigpflonaaDoorWalkMe
namespace Go.Proofs.YthkbkiigpflonaaDoor
open Go.RowKit

set_option maxHeartbeats 4000000
set_option maxRecDepth 100000

theorem altsF_cases {n : Nat} {v : Bool} {ahead inner rest name : List UInt8} {s : Pl.St} {b : Bool} (h : Pl.altsF n v ahead inner rest name s = some (b, false)) :
    ∃ n', n = n' + 1 ∧ ((Pl.nextM inner 0 1 0 = none ∧ Pl.matchF n' v (ahead ++ (inner ++ rest)) name ⟨s.pi, s.ni, Pl.sos0 ahead s.pi, s.ds, s.st⟩ = some (b, false)) ∨
      ∃ j, Pl.nextM inner 0 1 0 = some j ∧ ((b = true ∧ Pl.matchF n' v (ahead ++ (inner.take j ++ rest)) name ⟨s.pi, s.ni, Pl.sos0 ahead s.pi, s.ds, s.st⟩ = some (true, false)) ∨
        (Pl.matchF n' v (ahead ++ (inner.take j ++ rest)) name ⟨s.pi, s.ni, Pl.sos0 ahead s.pi, s.ds, s.st⟩ = some (false, false) ∧ Pl.altsF n' v ahead (inner.drop (j + 1)) rest name s = some (b, false)))) := by
  cases n with
  | zero => simp [Pl.altsF] at h
  | succ n' =>
    refine ⟨n', rfl, ?_⟩
    rw [Pl.altsF] at h
    cases hn : Pl.nextM inner 0 1 0 with
    | none => rw [hn] at h; exact .inl ⟨rfl, h⟩
    | some j =>
      rw [hn] at h
      dsimp only at h
      right
      refine ⟨j, rfl, ?_⟩
      cases hz : Pl.matchF n' v (ahead ++ (inner.take j ++ rest)) name ⟨s.pi, s.ni, Pl.sos0 ahead s.pi, s.ds, s.st⟩ with
      | none => rw [hz] at h; simp at h
      | some bb =>
        obtain ⟨b1, b2⟩ := bb
        rw [hz] at h
        dsimp only at h
        cases b1 <;> cases b2 <;> simp at h ⊢
        · exact h
        · exact h

def AltI (K : Nat) (pat name : List UInt8) (v : Bool) (s : Pl.St) (cl : Nat) (b : Bool) (w : World) (n : Nat) (a' : Act) (w' : World) : Prop :=
  ∃ p, FrA pat name v s p cl a' ∧ Below w.heap.size w w' ∧ s.pi + 1 ≤ p ∧ p ≤ cl ∧ n ≤ K ∧ Pl.altsF n v (pat.take s.pi) ((pat.take cl).drop p) (pat.drop (cl + 1)) name s = some (b, false)
def AltX (K : Nat) (pat name : List UInt8) (v : Bool) (s : Pl.St) (cl : Nat) (b : Bool) (w : World) (ex : Exit) (a' : Act) (w' : World) : Prop :=
  (ex = .exit 11 ∧ ∃ p n, FrA pat name v s p cl a' ∧ Below w.heap.size w w' ∧ s.pi + 1 ≤ p ∧ p ≤ cl ∧ n < K ∧ Pl.matchF n v (pat.take s.pi ++ ((pat.take cl).drop p ++ pat.drop (cl + 1))) name ⟨s.pi, s.ni, Pl.sos0 (pat.take s.pi) s.pi, s.ds, s.st⟩ = some (b, false)) ∨
  (ex = .ret ∧ a'.defers = [] ∧ a'.tmps.getD 22 undef = .bool b ∧ a'.tmps.getD 23 undef = .nilIface ∧ Below w.heap.size w w')

theorem alt_round (K : Nat) (IH : ∀ k, k < K → MatchAt k) (pat name : List UInt8) (v : Bool) (s : Pl.St) (cl : Nat) (b : Bool) (w : World) (hp : pat.length ≤ 1099511627776) (hn : name.length ≤ 1099511627776) (hT : Lib.Utf8Tabs 1 2 w) (hcl : cl < pat.length) (hni : s.ni ≤ name.length)
    (n : Nat) (a : Act) (w1 : World) (hI : AltI K pat name v s cl b w n a w1) (Q : Exit → Act → World → Prop)
    (hnext : ∀ n' a' w', n' < n → AltI K pat name v s cl b w n' a' w' → Q .normal a' w') (hX : ∀ ex a' w', ex ≠ .normal → AltX K pat name v s cl b w ex a' w' → Q ex a' w') : altBody.wp Tryd.prog Q a w1 := by
  obtain ⟨p, hA, hb, hp1, hp2, hnK, hal⟩ := hI
  have hT1 := tabs_below hT hb
  obtain ⟨n', rfl, hcase⟩ := altsF_cases hal
  clear hal
  rcases hcase with ⟨hno, hm⟩ | ⟨j, hj, ⟨rfl, hm⟩ | ⟨hm, hal⟩⟩
  · exact alt_end pat name v s p cl a w1 Q hA hp hp2 (by omega) hno fun a' h => hX _ _ _ (by simp) (.inl ⟨rfl, p, n', h, hb, hp1, hp2, by omega, hm⟩)
  · exact alt_one n' (IH n' (by omega)) pat name v s p cl a w1 Q hA hp hn hT1 hp1 hp2 hcl hni j hj true hm (fun _ a' w' h1 h2 h3 h4 => hX _ _ _ (by simp) (.inr ⟨rfl, h1, h2, h3, hb.trans (h4.mono hb.size)⟩)) (fun h => by cases h)
  · have hjl := (Pl.nextM_lt _ _ _ _ _ hj).2
    rw [List.length_drop, List.length_take] at hjl
    refine alt_one n' (IH n' (by omega)) pat name v s p cl a w1 Q hA hp hn hT1 hp1 hp2 hcl hni j hj false hm (fun h => by cases h) (fun _ a' w' h1 h2 => hnext n' _ _ (Nat.lt_succ_self n') ⟨j + p + 1, h1, hb.trans (h2.mono hb.size), by omega, by omega, by omega, ?_⟩)
    rw [← hal, List.drop_drop]
    congr 2
    omega

/-- Alternatives. -/
theorem sw_alts (K : Nat) (IH : ∀ k, k < K → MatchAt k) (pat name : List UInt8) (v : Bool) (s : Pl.St) (a : Act) (w : World) (Q : Exit → Act → World → Prop) (hF : Fr pat name v s a) (hp : pat.length ≤ 1099511627776) (hn : name.length ≤ 1099511627776) (hT : Lib.Utf8Tabs 1 2 w)
    (t : List UInt8) (hd : pat.drop s.pi = 123 :: t) (hni : s.ni ≤ name.length) (ci n : Nat) (b : Bool) (hci : Pl.closeM t 0 1 0 = some ci) (hnK : n ≤ K)
    (hal : Pl.altsF n v (pat.take s.pi) (t.take ci) (pat.drop (s.pi + 1 + (ci + 1))) name s = some (b, false))
    (hret : ∀ a' w', a'.defers = [] → a'.tmps.getD 22 undef = .bool b → a'.tmps.getD 23 undef = .nilIface → Below w.heap.size w w' → Q .ret a' w') : mSw.wp Tryd.prog Q a w := by
  obtain ⟨u, -, rfl⟩ := fr_open hF
  clear hF
  refine nop_wp ?_
  obtain ⟨hc, ht⟩ := drop_get hd
  have hlt := drop_lt hd
  have hg := Pl.S_get pat s.pi 123 hc
  have hsz := Pl.S_size pat
  have hlt' : s.pi < (Pl.S pat).size := by omega
  have hB : (Pl.S pat).size ≤ 1099511627776 := by omega
  have hlt1' : (s.pi : Int) + 1 ≤ ((Pl.S pat).size : Int) := by omega
  have hex := S_from pat (s.pi + 1)
  rw [← ht] at hex
  have htl := congrArg List.length ht
  rw [List.length_drop] at htl
  have htn : t.length ≤ 1099511627776 := by omega
  have hcl := (Pl.closeM_lt _ _ _ _ _ hci).2
  have hpl : Pl.place (Pl.closeM t 0 1 0) = ci := by rw [hci]; rfl
  have hcm : ((ci : Int) == -1) = false := by rw [beq_eq_false_iff_ne]; omega
  have hcb : (ci : Int) + ((s.pi : Int) + 1) < ((Pl.S pat).size : Int) := by omega
  have HPL := Lib.hid hpl
  have H0 : Hid (AltI K pat name v s (ci + (s.pi + 1)) b w n ⟨#[], []⟩ w → True) := Lib.hid fun _ => trivial
  have HAL : Hid (Pl.altsF n v (pat.take s.pi) ((pat.take (ci + (s.pi + 1))).drop (s.pi + 1)) (pat.drop (ci + (s.pi + 1) + 1)) name s = some (b, false)) := Lib.hid (by
    rw [← hal, List.drop_take, ← ht]
    congr 2 <;> omega)
  have HC : Hid (ci + (s.pi + 1) < pat.length) := Lib.hid (by omega)
  have HSZ := Lib.hid hsz
  have HR := Lib.hid hret
  have HP := Lib.hid hp
  clear hd hc ht hlt hsz htl hcl hpl hci hal hret H0
  conv => arg 2; whnf
  go_wp2_with (go_at_call 34; refine (close_any t _ htn).mono ?_; rintro e w1 ⟨rfl, rfl⟩; rw [HPL.out])
  refine loop_law (AltI K pat name v s (ci + (s.pi + 1)) b w) (AltX K pat name v s (ci + (s.pi + 1)) b w) n ?_ ?_ (fun n' a' w' hI Q' hn' hx' => alt_round K IH pat name v s _ b w hp hn hT HC.out hni n' a' w' hI Q' hn' hx')
  · exact ⟨s.pi + 1, ⟨⟨rfl, rfl, rfl, rfl, rfl, rfl, rfl, rfl, rfl, rfl, rfl, rfl, rfl, rfl, rfl, rfl⟩, rfl, rfl⟩, Below.refl _ _, by omega, by omega, hnK, HAL.out⟩
  · rintro ex a' w' - (⟨rfl, p, k, hA, hb, hp1, hp2, hk, hm⟩ | ⟨rfl, h1, h2, h3, h4⟩)
    · obtain ⟨u', rfl⟩ := alt_open hA
      clear hA HAL HPL hex hcb hcm hlt' hlt1' hg
      have hcl := HC.out
      have hsz := HSZ.out
      have hT1 := tabs_below hT hb
      generalize ci + (s.pi + 1) = cl at *
      clear HC HSZ
      have x1 : (p : Int) ≤ (cl : Int) := by omega
      have x2 : (cl : Int) ≤ ((Pl.S pat).size : Int) := by omega
      have hex0 : (Pl.S pat).extract 0 s.pi = Pl.S (pat.take s.pi) := by rw [Pl.S_ext]; rfl
      have hex2 : (Pl.S pat).extract p cl = Pl.S ((pat.take cl).drop p) := Pl.S_ext _ _ _
      have hex3 := S_from pat (cl + 1)
      have hal : (pat.take s.pi).length = s.pi := by rw [List.length_take]; omega
      have htl : ((pat.take cl).drop p).length = cl - p := by rw [List.length_drop, List.length_take]; omega
      have hrl : (pat.drop (cl + 1)).length = pat.length - (cl + 1) := List.length_drop
      have hlenp : (pat.take s.pi ++ ((pat.take cl).drop p ++ pat.drop (cl + 1))).length ≤ 1099511627776 := by rw [List.length_append, List.length_append, hal, htl, hrl]; omega
      have hpi' : s.pi ≤ (pat.take s.pi ++ ((pat.take cl).drop p ++ pat.drop (cl + 1))).length := by rw [List.length_append, hal]; omega
      have HIH := Lib.hid (fun w' hT' => IH k hk _ name v b ⟨s.pi, s.ni, Pl.sos0 (pat.take s.pi) s.pi, s.ds, s.st⟩ w' hlenp hn hpi' hni (sos0_take _ _ _ (by omega)) hT' hm)
      have hcat : Pl.S (pat.take s.pi) ++ Pl.S ((pat.take cl).drop p) = Pl.S (pat.take s.pi ++ (pat.take cl).drop p) := Pl.S_add _ _
      have hcat2 : Pl.S (pat.take s.pi ++ (pat.take cl).drop p) ++ Pl.S (pat.drop (cl + 1)) = Pl.S (pat.take s.pi ++ ((pat.take cl).drop p ++ pat.drop (cl + 1))) := by rw [Pl.S_add, List.append_assoc]
      have y1 : ¬ 9223372036854775807 < (Pl.S (pat.take s.pi)).size + (Pl.S ((pat.take cl).drop p)).size := by rw [Pl.S_size, Pl.S_size]; omega
      have y2 : ¬ 9223372036854775807 < (Pl.S (pat.take s.pi ++ (pat.take cl).drop p)).size + (Pl.S (pat.drop (cl + 1))).size := by rw [Pl.S_size, Pl.S_size, List.length_append]; omega
      generalize pat.take s.pi ++ ((pat.take cl).drop p ++ pat.drop (cl + 1)) = pn at *
      generalize pat.take s.pi ++ (pat.take cl).drop p = p12 at *
      generalize pat.take s.pi = p1 at *
      generalize pat.drop (cl + 1) = p3 at *
      generalize (pat.take cl).drop p = p2 at *
      have z0 : (s.pi : Int) ≤ ((Pl.S pat).size : Int) := by omega
      have z1 : (cl : Int) + 1 ≤ ((Pl.S pat).size : Int) := by omega
      have z4 : (0 : Int) ≤ (cl : Int) + 1 := by omega
      have w2 : IntKind.i64.wrap ((cl : Int) + 1) = (cl : Int) + 1 := IntWalk.i64_in _ (by omega)
      have w3 : ((cl : Int) + 1).toNat = cl + 1 := by omega
      clear hsz hal htl hrl hlenp hpi' hm IH hcl hT
      go_upto_region 84 with (fail)
      go_region_with (go_at_call 39; refine (HIH.out _ ?_).mono ?_; exact tabs_below hT1 (Below.refl _ _).drew; rintro e w1 ⟨rfl, hb1⟩)
      have hbw := hb.trans ((((Below.refl w'.heap.size w').drew).trans hb1).mono hb.size)
      clear w2 w3 z0 z1 z4 y1 y2 hcat hcat2 hex0 hex2 hex3 HIH hb1
      go_wp2_with fail
      exact HR.out _ _ rfl rfl rfl hbw
    · exact HR.out _ _ h1 h2 h3 h4
end Go.Proofs.YthkbkiigpflonaaDoor
