/-
  The walk of the program's match: going back, whole.
-/
import Derived.Test.YthkbkiigpflonaaDoorWalkMg
namespace Go.Proofs.YthkbkiigpflonaaDoor
open Go.RowKit

set_option maxHeartbeats 4000000
set_option maxRecDepth 100000

def fstS : Code → Code
  | .seq a _ => a
  | c => c
theorem rest2_eq : mRest2 = .seq (fstS mRest2) mRest3 := rfl
theorem rest_eq : mRest = .seq (fstS mRest) mRest2 := rfl

def DsI (pat name : List UInt8) (v : Bool) (s : Pl.St) (R : Option Nat) (w : World) (n : Nat) (a' : Act) (w' : World) : Prop :=
  ∃ q, Fr pat name v ⟨s.pi, q, s.sos, s.ds, s.st⟩ a' ∧ Below w.heap.size w w' ∧ q ≤ name.length ∧ Pl.slashM (name.drop q) q = R ∧ name.length - q < n
def DsX (pat name : List UInt8) (v : Bool) (s : Pl.St) (dp : Nat) (R : Option Nat) (w : World) (ex : Exit) (a' : Act) (w' : World) : Prop :=
  (ex = .exit 13 ∧ R = none ∧ ∃ q, Fr pat name v ⟨s.pi, q, s.sos, s.ds, s.st⟩ a' ∧ Below w.heap.size w w') ∨ (ex = .exit 1 ∧ ∃ q, R = some q ∧ Fr pat name v ⟨dp, q, true, some (dp, q), s.st⟩ a' ∧ Below w.heap.size w w')

theorem ds_round (pat name : List UInt8) (v : Bool) (s : Pl.St) (dp dn : Nat) (hds : s.ds = some (dp, dn)) (R : Option Nat) (w : World) (hn : name.length ≤ 1099511627776) (hT : Lib.Utf8Tabs 1 2 w) (n : Nat) (a : Act) (w1 : World) (hI : DsI pat name v s R w n a w1) (Q : Exit → Act → World → Prop)
    (hnext : ∀ n' a' w', n' < n → DsI pat name v s R w n' a' w' → Q .normal a' w') (hX : ∀ ex a' w', ex ≠ .normal → DsX pat name v s dp R w ex a' w' → Q ex a' w') : dsBody.wp Tryd.prog Q a w1 := by
  obtain ⟨q, hF, hb, hq, hR, hnq⟩ := hI
  have hT1 := tabs_below hT hb
  by_cases hlt : q < name.length
  · obtain ⟨x, d, hxd⟩ : ∃ x d, Pl.dec (name.drop q) = (x, d) := ⟨_, _, rfl⟩
    have hne : name.drop q ≠ [] := by
      intro e
      have := congrArg List.length e
      rw [List.length_drop, List.length_nil] at this
      omega
    have hle := dec_lt name q x d hq hxd
    by_cases hx : x = 47
    · subst hx
      refine ds_found pat name v ⟨s.pi, q, s.sos, s.ds, s.st⟩ a w1 Q hF hn hT1 hlt d hxd dp dn hds fun a' w' h hb' => ?_
      refine hX _ _ _ (by simp) (.inr ⟨rfl, q + d, ?_, h, hb.trans (hb'.mono hb.size)⟩)
      cases hl : name.drop q with
      | nil => exact absurd hl hne
      | cons c t =>
        rw [hl] at hR hxd
        rw [← hR]
        exact slash_here c t d q hxd
    · have hd0 : 0 < d := by
        unfold Pl.dec at hxd
        rw [if_neg hne] at hxd
        have := Lib.decodeL_width (name.drop q)
        rw [hxd] at this
        exact this
      refine ds_next pat name v ⟨s.pi, q, s.sos, s.ds, s.st⟩ a w1 Q hF hn hT1 hlt x d hxd hx fun a' w' h hb' => ?_
      refine hnext (n - 1) _ _ (by omega) ⟨q + d, h, hb.trans (hb'.mono hb.size), hle, ?_, by omega⟩
      rw [← hR, slash_next _ x d q hne hxd hx, List.drop_drop]
  · refine ds_end pat name v ⟨s.pi, q, s.sos, s.ds, s.st⟩ a w1 Q hF (by simp only; omega) fun a' h => ?_
    refine hX _ _ _ (by simp) (.inl ⟨rfl, ?_, q, h, hb⟩)
    rw [← hR, List.drop_eq_nil_of_le (by omega)]
    rfl

/-- Back to directories. -/
theorem back2 (pat name : List UInt8) (v : Bool) (s : Pl.St) (a : Act) (w : World) (Q : Exit → Act → World → Prop) (hF : Fr pat name v s a) (hp : pat.length ≤ 1099511627776) (hn : name.length ≤ 1099511627776) (hT : Lib.Utf8Tabs 1 2 w) (hpi : s.pi ≤ pat.length)
    (hbad : Pl.backD v pat name s s.pi ≠ .bad) (hnext : ∀ s', Pl.backD v pat name s s.pi = .next s' → ∀ a' w', Fr pat name v s' a' → Below w.heap.size w w' → Q (.exit 1) a' w')
    (hret : ∀ b, Pl.backD v pat name s s.pi = .ret b → ∀ a' w', a'.defers = [] → a'.tmps.getD 22 undef = .bool b → a'.tmps.getD 23 undef = .nilIface → Below w.heap.size w w' → Q .ret a' w') : mRest2.wp Tryd.prog Q a w := by
  have hfr : ∀ p, Pl.fails v pat p ≠ .bad → Pl.fails v pat p = .ret false := by
    intro p h
    unfold Pl.fails at h ⊢
    split
    · rename_i hh
      rw [if_pos hh] at h
      exact absurd rfl h
    · rfl
  rw [rest2_eq]
  refine wp_seq_k (fun K hK => ?_)
  have HK := Lib.hid hK
  clear hK
  cases hds : s.ds with
  | none =>
    have hf : Pl.fails v pat s.pi = .ret false := hfr _ (by unfold Pl.backD at hbad; rw [hds] at hbad; exact hbad)
    have hb : Pl.backD v pat name s s.pi = .ret false := by unfold Pl.backD; rw [hds]; exact hf
    have HR := Lib.hid (hret _ hb)
    have HF := Lib.hid hF
    obtain ⟨u, -, rfl⟩ := fr_open hF
    have e5 : optP s.ds = -1 := by rw [hds]; rfl
    rw [e5]
    have e5' := Lib.hid e5
    have e6 : Hid (optN s.ds = -1) := Lib.hid (by rw [hds]; rfl)
    clear hF hds hbad hnext hret hb hfr e5
    conv => arg 2; whnf
    go_wp2_with fail
    refine HK.out _ _ (back3 pat name v s _ _ Q ?_ hp hpi hf fun a' h1 h2 h3 => HR.out _ _ h1 h2 h3 (Below.refl _ _))
    exact ⟨rfl, rfl, rfl, rfl, rfl, rfl, rfl, by rw [e5'.out]; rfl, rfl, rfl, rfl, rfl, rfl, rfl, rfl, rfl⟩
  | some y =>
    obtain ⟨dp, dn⟩ := y
    have hD : Pl.backD v pat name s s.pi = if name.length < dn ∨ pat.length < dp then .bad else match Pl.slashM (name.drop dn) dn with
        | none => Pl.fails v pat s.pi
        | some q => .next ⟨dp, q, true, some (dp, q), s.st⟩ := by
      unfold Pl.backD
      rw [hds]
      rfl
    by_cases hg : name.length < dn ∨ pat.length < dp
    · rw [hD, if_pos hg] at hbad
      exact absurd rfl hbad
    rw [if_neg hg] at hD
    rw [hD] at hbad hnext hret
    have hdn : dn ≤ name.length := by omega
    obtain ⟨R, hR⟩ : ∃ R, Pl.slashM (name.drop dn) dn = R := ⟨_, rfl⟩
    rw [hR] at hbad hnext hret
    have HBAD := Lib.hid hbad
    have HN := Lib.hid hnext
    have HRET := Lib.hid hret
    have HFR := Lib.hid hfr
    have HDS := Lib.hid hds
    have HRR := Lib.hid hR
    obtain ⟨u, -, rfl⟩ := fr_open hF
    have e5 : optP s.ds = (dp : Int) := by rw [hds]; rfl
    have e6 : optN s.ds = (dn : Int) := by rw [hds]; rfl
    rw [e5, e6]
    have E5 := Lib.hid e5
    have E6 := Lib.hid e6
    clear hF hds hbad hnext hret hfr hD hg e5 e6 hR
    conv => arg 2; whnf
    go_wp2_with fail
    refine loop_law (DsI pat name v s R w) (DsX pat name v s dp R w) (name.length - dn + 1) ?_ ?_ (fun n' a' w' hI Q' hn' hx' => ds_round pat name v s dp dn HDS.out R w hn hT n' a' w' hI Q' hn' hx')
    · exact ⟨dn, ⟨rfl, rfl, rfl, rfl, rfl, rfl, rfl, by rw [E5.out]; rfl, by rw [E6.out]; rfl, rfl, rfl, rfl, rfl, rfl, rfl, rfl⟩, Below.refl _ _, hdn, HRR.out, by omega⟩
    · rintro ex a' w' - (⟨rfl, hRn, q, hF, hb⟩ | ⟨rfl, q, hRs, hF, hb⟩)
      · subst hRn
        have hf := HFR.out _ HBAD.out
        have HX := Lib.hid (HRET.out _ hf)
        have HF2 := Lib.hid hF
        clear hF HBAD HN HRET HFR HRR
        go_wp2_with fail
        exact HK.out _ _ (back3 pat name v ⟨s.pi, q, s.sos, s.ds, s.st⟩ _ _ Q HF2.out hp hpi hf fun a' h1 h2 h3 => HX.out _ _ h1 h2 h3 hb)
      · subst hRs
        have HX := Lib.hid (HN.out _ rfl _ _ hF hb)
        clear hF HBAD HN HRET HFR HRR
        go_wp2_with fail
        exact HX.out

/-- Going back. -/
theorem back1 (pat name : List UInt8) (v : Bool) (s : Pl.St) (a : Act) (w : World) (Q : Exit → Act → World → Prop) (hF : Fr pat name v s a) (hp : pat.length ≤ 1099511627776) (hn : name.length ≤ 1099511627776) (hT : Lib.Utf8Tabs 1 2 w) (hpi : s.pi ≤ pat.length)
    (hbad : Pl.backs v pat name s s.pi ≠ .bad) (hnext : ∀ s', Pl.backs v pat name s s.pi = .next s' → ∀ a' w', Fr pat name v s' a' → Below w.heap.size w w' → Q (.exit 1) a' w')
    (hret : ∀ b, Pl.backs v pat name s s.pi = .ret b → ∀ a' w', a'.defers = [] → a'.tmps.getD 22 undef = .bool b → a'.tmps.getD 23 undef = .nilIface → Below w.heap.size w w' → Q .ret a' w') : mRest.wp Tryd.prog Q a w := by
  rw [rest_eq]
  refine wp_seq_k (fun K hK => ?_)
  have HK := Lib.hid hK
  clear hK
  cases hst : s.st with
  | none =>
    have hb : Pl.backs v pat name s s.pi = Pl.backD v pat name s s.pi := by unfold Pl.backs; rw [hst]
    rw [hb] at hbad hnext hret
    have HB := Lib.hid hbad
    have HN := Lib.hid hnext
    have HR := Lib.hid hret
    obtain ⟨u, -, rfl⟩ := fr_open hF
    have e7 : optP s.st = -1 := by rw [hst]; rfl
    rw [e7]
    have E7 := Lib.hid e7
    clear hF hst hbad hnext hret hb e7
    conv => arg 2; whnf
    go_wp2_with fail
    refine HK.out _ _ (back2 pat name v s _ _ Q ?_ hp hn hT hpi HB.out HN.out HR.out)
    exact ⟨rfl, rfl, rfl, rfl, rfl, rfl, rfl, rfl, rfl, by rw [E7.out]; rfl, rfl, rfl, rfl, rfl, rfl, rfl⟩
  | some y =>
    obtain ⟨sp, sn⟩ := y
    obtain ⟨x, d, hxd⟩ : ∃ x d, Pl.dec (name.drop sn) = (x, d) := ⟨_, _, rfl⟩
    have hS : Pl.backs v pat name s s.pi = if name.length < sn then .bad else if x = 47 then Pl.backD v pat name s s.pi else if pat.length < sp then .bad else .next ⟨sp, sn + d, false, s.ds, some (sp, sn + d)⟩ := by
      unfold Pl.backs
      rw [hst]
      simp only [hxd]
    by_cases hg : name.length < sn
    · rw [hS, if_pos hg] at hbad
      exact absurd rfl hbad
    rw [if_neg hg] at hS
    rw [hS] at hbad hnext hret
    have hszn := Pl.S_size name
    have hBn : (Pl.S name).size ≤ 1099511627776 := by omega
    have hsn' : sn ≤ (Pl.S name).size := by omega
    have hle := dec_lt name sn x d (by omega) hxd
    have hsum : (sn : Int) + (d : Int) ≤ ((Pl.S name).size : Int) := by omega
    have hex := S_from name sn
    have HD := Lib.hid hxd
    have e7 : optP s.st = (sp : Int) := by rw [hst]; rfl
    have e8 : optN s.st = (sn : Int) := by rw [hst]; rfl
    obtain ⟨u, -, rfl⟩ := fr_open hF
    rw [e7, e8]
    have E7 := Lib.hid e7
    have E8 := Lib.hid e8
    generalize name.drop sn = nt at *
    by_cases hx : x = 47
    · subst hx
      rw [if_pos rfl] at hbad hnext hret
      have HB := Lib.hid hbad
      have HN := Lib.hid hnext
      have HR := Lib.hid hret
      clear hF hst hbad hnext hret hS hg hszn hle hxd e7 e8
      conv => arg 2; whnf
      go_wp2_with (go_at_call 40; refine (dec_at nt _ hT 47 d HD.out).mono ?_; rintro e w1 ⟨rfl, hb⟩)
      refine HK.out _ _ (back2 pat name v s _ _ Q ?_ hp hn (tabs_below hT hb) hpi HB.out (fun s' h a' w' h1 h2 => HN.out s' h a' w' h1 (hb.trans (h2.mono hb.size))) (fun b h a' w' h1 h2 h3 h4 => HR.out b h a' w' h1 h2 h3 (hb.trans (h4.mono hb.size))))
      exact ⟨rfl, rfl, rfl, rfl, rfl, rfl, rfl, rfl, rfl, by rw [E7.out]; rfl, by rw [E8.out]; rfl, rfl, rfl, rfl, rfl, rfl⟩
    · rw [if_neg hx] at hbad hnext hret
      by_cases hg2 : pat.length < sp
      · rw [if_pos hg2] at hbad
        exact absurd rfl hbad
      rw [if_neg hg2] at hbad hnext hret
      have t47 : ((x : Int) == 47) = false := by
        rw [beq_eq_false_iff_ne]
        omega
      have t47' : ((x : Int) != 47) = true := by rw [bne, t47]; rfl
      have HN := Lib.hid (hnext _ rfl)
      clear hF hst hbad hnext hret hS hg hg2 hszn hle hxd e7 e8 hx
      conv => arg 2; whnf
      go_wp2_with (go_at_call 40; refine (dec_at nt _ hT x d HD.out).mono ?_; rintro e w1 ⟨rfl, hb⟩)
      exact HN.out _ _ ⟨rfl, rfl, rfl, rfl, rfl, rfl, rfl, rfl, rfl, rfl, rfl, rfl, rfl, rfl, rfl, rfl⟩ hb
end Go.Proofs.YthkbkiigpflonaaDoor
