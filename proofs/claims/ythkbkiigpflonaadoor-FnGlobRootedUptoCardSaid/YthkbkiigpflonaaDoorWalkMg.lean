/-
  The walk of the program's match: going back.
-/
import Derived.Test.YthkbkiigpflonaaDoorWalkMd
namespace Go.Proofs.YthkbkiigpflonaaDoor
open Go.RowKit

set_option maxHeartbeats 4000000
set_option maxRecDepth 100000

def blockOf (n : Nat) : Code → Option Code
  | .block m c => if m = n then some c else blockOf n c
  | .loop c => blockOf n c
  | .scope c => blockOf n c
  | .seq a b => match blockOf n a with
    | some c => some c
    | none => blockOf n b
  | .cond _ a b => match blockOf n a with
    | some c => some c
    | none => blockOf n b
  | _ => none
def dropS : Nat → Code → Code
  | n + 1, .seq _ b => dropS n b
  | _, c => c
/-- Going back, whole; from directories on; from where there is no way back. -/
noncomputable def mRest : Code := (spine mBlk).getD 2 .skip
noncomputable def mRest2 : Code := dropS 1 mRest
noncomputable def mRest3 : Code := dropS 2 mRest
/-- One round of the search of the next slash. -/
noncomputable def dsBody : Code := ((blockOf 13 mRest).bind firstLoop).getD .skip

theorem slash_skip (a r : List UInt8) (h : ∀ x ∈ a, x.toNat ≠ 47) : ∀ p, Pl.slashM (a ++ r) p = Pl.slashM r (p + a.length) := by
  induction a with
  | nil => intro p; rfl
  | cons x a ih =>
    intro p
    rw [List.cons_append, Pl.slashM, if_neg (h x (by simp)), ih fun y hy => h y (by simp [hy])]
    congr 1
    simp
    omega
theorem slash_next (l : List UInt8) (x d p : Nat) (hne : l ≠ []) (h : Pl.dec l = (x, d)) (hx : x ≠ 47) : Pl.slashM l p = Pl.slashM (l.drop d) (p + d) := by
  have hd := dec_le _ _ _ h
  unfold Pl.dec at h
  rw [if_neg hne] at h
  have hb := Pl.decoded_bytes l hne
  rw [h] at hb
  have := slash_skip (l.take d) (l.drop d) (fun y hy => by have := hb y hy; simp only at this; omega) p
  rw [List.take_append_drop, List.length_take] at this
  rw [this]
  congr 1
  omega
theorem slash_here (b : UInt8) (t : List UInt8) (d p : Nat) (h : Pl.dec (b :: t) = (47, d)) : Pl.slashM (b :: t) p = some (p + d) := by
  have h1 := Pl.decoded (b :: t) (by simp) (.inr (by
    unfold Pl.dec at h
    rw [if_neg (by simp)] at h
    rw [h]
    rfl))
  have hw := Lib.decodeL_width (b :: t)
  unfold Pl.dec at h
  rw [if_neg (by simp)] at h
  rw [h] at h1 hw
  have hw' : 0 < d := hw
  have e : Pl.rune ((47 : Nat) : Int) = [47] := by decide
  simp only at h1
  rw [e] at h1
  obtain ⟨d', rfl⟩ : ∃ d', d = d' + 1 := ⟨d - 1, by omega⟩
  rw [List.take_succ_cons] at h1
  simp only [List.cons.injEq] at h1
  have hb : b.toNat = 47 := by rw [← h1.1]; rfl
  rw [Pl.slashM, if_pos hb]
  have hd2 : (Lib.decodeL (b :: t)).2 = 1 := by
    rw [Lib.decodeL_N]
    simp only [List.getD_cons_zero]
    unfold Lib.decodeN
    rw [if_pos (by omega)]
  rw [h] at hd2
  simp only at hd2
  rw [hd2]

/-- No way back. -/
theorem back3 (pat name : List UInt8) (v : Bool) (s : Pl.St) (a : Act) (w : World) (Q : Exit → Act → World → Prop) (hF : Fr pat name v s a) (hp : pat.length ≤ 1099511627776) (hpi : s.pi ≤ pat.length)
    (hf : Pl.fails v pat s.pi = .ret false) (hret : ∀ a', a'.defers = [] → a'.tmps.getD 22 undef = .bool false → a'.tmps.getD 23 undef = .nilIface → Q .ret a' w) : mRest3.wp Tryd.prog Q a w := by
  obtain ⟨u, -, rfl⟩ := fr_open hF
  clear hF
  have hsz := Pl.S_size pat
  have hB : (Pl.S pat).size ≤ 1099511627776 := by omega
  have hpi' : s.pi ≤ (Pl.S pat).size := by omega
  unfold Pl.fails at hf
  cases v with
  | false =>
    clear hf hsz
    conv => arg 2; whnf
    go_wp2_with fail
    exact hret _ rfl rfl rfl
  | true =>
    by_cases hlt : s.pi < pat.length
    · have hv : Pl.validM (pat.drop s.pi) 0 0 = true := by
        cases h : Pl.validM (pat.drop s.pi) 0 0 with
        | true => rfl
        | false =>
          rw [h, if_pos ⟨rfl, hlt, rfl⟩] at hf
          cases hf
      have hlt' : (s.pi : Int) < ((Pl.S pat).size : Int) := by omega
      have hex := S_from pat s.pi
      have hlen : (pat.drop s.pi).length ≤ 1099511627776 := by rw [List.length_drop]; omega
      have HV := Lib.hid hv
      generalize pat.drop s.pi = pd at *
      clear hf hv hsz hlt
      conv => arg 2; whnf
      go_wp2_with (go_at_call 36; refine (valid_any pd _ hlen).mono ?_; rintro e w1 ⟨rfl, rfl⟩; rw [HV.out])
      exact hret _ rfl rfl rfl
    · have hge : decide ((s.pi : Int) < ((Pl.S pat).size : Int)) = false := by
        rw [decide_eq_false_iff_not]
        omega
      have hge2 : ¬ s.pi < (Pl.S pat).size := by omega
      clear hf hsz hlt
      conv => arg 2; whnf
      go_wp2_with fail
      exact hret _ rfl rfl rfl

/-- The search of the next slash: a round. -/
theorem ds_end (pat name : List UInt8) (v : Bool) (s : Pl.St) (a : Act) (w : World) (Q : Exit → Act → World → Prop) (hF : Fr pat name v s a) (hge : name.length ≤ s.ni)
    (hout : ∀ a', Fr pat name v s a' → Q (.exit 13) a' w) : dsBody.wp Tryd.prog Q a w := by
  obtain ⟨u, -, rfl⟩ := fr_open hF
  clear hF
  have hszn := Pl.S_size name
  have h1 : ¬ (s.ni : Int) < ((Pl.S name).size : Int) := by omega
  clear hszn
  conv => arg 2; whnf
  go_wp2_with fail
  exact ⟨rfl, rfl, rfl, rfl, rfl, rfl, rfl, rfl, rfl, rfl, rfl, rfl, rfl, rfl, rfl, rfl⟩
theorem ds_next (pat name : List UInt8) (v : Bool) (s : Pl.St) (a : Act) (w : World) (Q : Exit → Act → World → Prop) (hF : Fr pat name v s a) (hn : name.length ≤ 1099511627776) (hT : Lib.Utf8Tabs 1 2 w) (hlt : s.ni < name.length)
    (x d : Nat) (hxd : Pl.dec (name.drop s.ni) = (x, d)) (hx : x ≠ 47)
    (hnext : ∀ a' w', Fr pat name v ⟨s.pi, s.ni + d, s.sos, s.ds, s.st⟩ a' → Below w.heap.size w w' → Q .normal a' w') : dsBody.wp Tryd.prog Q a w := by
  obtain ⟨u, -, rfl⟩ := fr_open hF
  clear hF
  have hszn := Pl.S_size name
  have hlt' : (s.ni : Int) < ((Pl.S name).size : Int) := by omega
  have hlt2 : s.ni ≤ (Pl.S name).size := by omega
  have hBn : (Pl.S name).size ≤ 1099511627776 := by omega
  have hle := dec_lt _ _ _ _ (Nat.le_of_lt hlt) hxd
  have hsum : (s.ni : Int) + (d : Int) ≤ ((Pl.S name).size : Int) := by omega
  have hex := S_from name s.ni
  have t47 : ((x : Int) == 47) = false := by
    rw [beq_eq_false_iff_ne]
    omega
  have HD := Lib.hid hxd
  generalize name.drop s.ni = nt at *
  clear hszn hle hxd hx hlt
  conv => arg 2; whnf
  go_wp2_with (go_at_call 40; refine (dec_at nt _ hT x d HD.out).mono ?_; rintro e w1 ⟨rfl, hb⟩)
  refine hnext _ _ ?_ hb
  exact ⟨rfl, rfl, rfl, rfl, rfl, rfl, rfl, rfl, rfl, rfl, rfl, rfl, rfl, rfl, rfl, rfl⟩
theorem ds_found (pat name : List UInt8) (v : Bool) (s : Pl.St) (a : Act) (w : World) (Q : Exit → Act → World → Prop) (hF : Fr pat name v s a) (hn : name.length ≤ 1099511627776) (hT : Lib.Utf8Tabs 1 2 w) (hlt : s.ni < name.length)
    (d : Nat) (hxd : Pl.dec (name.drop s.ni) = (47, d)) (dp dn : Nat) (hds : s.ds = some (dp, dn))
    (hnext : ∀ a' w', Fr pat name v ⟨dp, s.ni + d, true, some (dp, s.ni + d), s.st⟩ a' → Below w.heap.size w w' → Q (.exit 1) a' w') : dsBody.wp Tryd.prog Q a w := by
  obtain ⟨u, -, rfl⟩ := fr_open hF
  clear hF
  have hszn := Pl.S_size name
  have hlt' : (s.ni : Int) < ((Pl.S name).size : Int) := by omega
  have hlt2 : s.ni ≤ (Pl.S name).size := by omega
  have hBn : (Pl.S name).size ≤ 1099511627776 := by omega
  have hle := dec_lt _ _ _ _ (Nat.le_of_lt hlt) hxd
  have hsum : (s.ni : Int) + (d : Int) ≤ ((Pl.S name).size : Int) := by omega
  have hex := S_from name s.ni
  have HD := Lib.hid hxd
  have e5 : optP s.ds = (dp : Int) := by rw [hds]; rfl
  rw [e5]
  generalize name.drop s.ni = nt at *
  clear hszn hle hxd hlt hds e5
  conv => arg 2; whnf
  go_wp2_with (go_at_call 40; refine (dec_at nt _ hT 47 d HD.out).mono ?_; rintro e w1 ⟨rfl, hb⟩)
  refine hnext _ _ ?_ hb
  exact ⟨rfl, rfl, rfl, rfl, rfl, rfl, rfl, rfl, rfl, rfl, rfl, rfl, rfl, rfl, rfl, rfl⟩
end Go.Proofs.YthkbkiigpflonaaDoor
