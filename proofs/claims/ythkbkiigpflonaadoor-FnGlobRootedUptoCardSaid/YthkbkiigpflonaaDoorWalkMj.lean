/-
  The walk of the program's match: a round of its loop.
-/
import Derived.Test.YthkbkiigpflonaaDoorWalkMh
import Derived.Test.YthkbkiigpflonaaDoorWalkMi
import Derived.Deep.Cut
namespace Go.Proofs.YthkbkiigpflonaaDoor
open Go.RowKit

set_option maxHeartbeats 4000000
set_option maxRecDepth 100000

theorem body_eq : mBody = .seq (fstS mBody) (.block 1 mBlk) := rfl
theorem blk_eq : mBlk = .seq (fstS mBlk) mRest := rfl

theorem backs_congr {v : Bool} {pat name : List UInt8} {s s' : Pl.St} {p : Nat} (h1 : s'.ds = s.ds) (h2 : s'.st = s.st) : Pl.backs v pat name s' p = Pl.backs v pat name s p := by
  unfold Pl.backs Pl.backD
  rw [h1, h2]
theorem backD_bounds {v : Bool} {pat name : List UInt8} {s s' : Pl.St} {p : Nat} (h : Pl.backD v pat name s p = .next s') : s'.pi ≤ pat.length ∧ s'.ni ≤ name.length := by
  have hf : ∀ q, Pl.fails v pat q ≠ .next s' := by
    intro q
    unfold Pl.fails
    split <;> simp
  unfold Pl.backD at h
  split at h
  · exact absurd h (hf _)
  · rename_i dp dn hds
    split at h
    · cases h
    · rename_i hg
      split at h
      · exact absurd h (hf _)
      · rename_i q hq
        have hl := Pl.slashM_lt _ _ _ hq
        rw [List.length_drop] at hl
        simp only [Pl.Out.next.injEq] at h
        subst h
        exact ⟨by simp only; omega, by simp only; omega⟩
theorem backs_bounds {v : Bool} {pat name : List UInt8} {s s' : Pl.St} {p : Nat} (h : Pl.backs v pat name s p = .next s') : s'.pi ≤ pat.length ∧ s'.ni ≤ name.length := by
  unfold Pl.backs at h
  split at h
  · exact backD_bounds h
  · rename_i sp sn hst
    split at h
    · cases h
    · split at h
      · exact backD_bounds h
      · split at h
        · cases h
        · simp only [Pl.Out.next.injEq] at h
          subst h
          exact ⟨by simp only; omega, dec_lt name sn _ _ (by omega) rfl⟩

/-- A round, where the name has not come to its end. -/
theorem blk_law (K n : Nat) (IH : ∀ k, k < K → MatchAt k) (pat name : List UInt8) (v b : Bool) (s : Pl.St) (a : Act) (w : World) (Q : Exit → Act → World → Prop) (hF : Fr pat name v s a) (hp : pat.length ≤ 1099511627776) (hn : name.length ≤ 1099511627776) (hT : Lib.Utf8Tabs 1 2 w)
    (hpi : s.pi ≤ pat.length) (hni : s.ni < name.length) (hnK : n ≤ K) (hm : Pl.matchF (n + 1) v pat name s = some (b, false))
    (hnext : ∀ s' a' w', Fr pat name v s' a' → Below w.heap.size w w' → s'.pi ≤ pat.length → s'.ni ≤ name.length → Pl.matchF n v pat name s' = some (b, false) → Q .normal a' w')
    (hret : ∀ a' w', a'.defers = [] → a'.tmps.getD 22 undef = .bool b → a'.tmps.getD 23 undef = .nilIface → Below w.heap.size w w' → Q .ret a' w') : (Code.block 1 mBlk).wp Tryd.prog Q a w := by
  refine wp_block ?_
  rw [blk_eq]
  refine wp_seq_k (fun Kc hK => ?_)
  have hbackK : ∀ s' a' w', Fr pat name v s' a' → Below w.heap.size w w' → s'.ds = s.ds → s'.st = s.st → s'.pi ≤ pat.length → s'.ni ≤ name.length → backF n v pat name s s'.pi = some (b, false) → Kc a' w' := by
    intro s' a' w' h1 h2 h3 h4 h5 h6 h7
    have hc : Pl.backs v pat name s' s'.pi = Pl.backs v pat name s s'.pi := backs_congr h3 h4
    unfold backF at h7
    rw [← hc] at h7
    refine hK _ _ (back1 pat name v s' a' w' _ h1 hp hn (tabs_below hT h2) h5 (fun e => ?_) (fun s'' e a'' w'' g1 g2 => ?_) (fun b' e a'' w'' g1 g2 g3 g4 => ?_))
    · rw [e] at h7
      exact not_bad h7
    · rw [e] at h7
      have := backs_bounds e
      exact hnext s'' a'' w'' g1 (h2.trans (g2.mono h2.size)) this.1 this.2 h7
    · rw [e] at h7
      simp only [Option.some.injEq, Prod.mk.injEq] at h7
      rw [h7.1] at g2
      exact hret a'' w'' g1 g2 g3 (h2.trans (g4.mono h2.size))
  have HBK := Lib.hid hbackK
  have HNX := Lib.hid hnext
  have HRT := Lib.hid hret
  clear hK hbackK hnext hret
  have hsz := Pl.S_size pat
  by_cases hlt : s.pi < pat.length
  · obtain ⟨c, t, hd⟩ : ∃ c t, pat.drop s.pi = c :: t := ⟨_, _, List.drop_eq_getElem_cons hlt⟩
    have hlt' : (s.pi : Int) < ((Pl.S pat).size : Int) := by omega
    have HD := Lib.hid hd
    have HM := Lib.hid hm
    obtain ⟨u, -, rfl⟩ := fr_open hF
    clear hF hsz hlt hd hm
    conv => arg 2; whnf
    go_upto_if 72 with (fail)
    refine wp_cond_true rfl ?_
    exact sw_law K n IH pat name v b s _ w _ ⟨rfl, rfl, rfl, rfl, rfl, rfl, rfl, rfl, rfl, rfl, rfl, rfl, rfl, rfl, rfl, rfl⟩ hp hn hT c t HD.out hni hnK HM.out (fun s' a' w' h1 h2 h3 h4 h5 => HNX.out s' a' w' h1 h2 h3 h4 h5) (fun s' a' w' h1 h2 h3 h4 h5 h6 h7 => HBK.out s' a' w' h1 h2 h3 h4 h5 h6 h7) (fun a' w' h1 h2 h3 h4 => HRT.out a' w' h1 h2 h3 h4)
  · have hge : ¬ (s.pi : Int) < ((Pl.S pat).size : Int) := by omega
    have hs : Pl.step pat name s = .back s.pi := Pl.step_nil (by omega) (List.drop_eq_nil_of_le (by omega))
    rw [Pl.matchF, hs] at hm
    have HM := Lib.hid (show backF n v pat name s s.pi = some (b, false) from hm)
    obtain ⟨u, -, rfl⟩ := fr_open hF
    clear hF hsz hlt hm hs
    conv => arg 2; whnf
    go_wp2_with fail
    exact HBK.out s _ _ ⟨rfl, rfl, rfl, rfl, rfl, rfl, rfl, rfl, rfl, rfl, rfl, rfl, rfl, rfl, rfl, rfl⟩ (Below.refl _ _) rfl rfl hpi (Nat.le_of_lt hni) HM.out

def MatI (K : Nat) (pat name : List UInt8) (v b : Bool) (w : World) (n : Nat) (a' : Act) (w' : World) : Prop :=
  ∃ s, Fr pat name v s a' ∧ Below w.heap.size w w' ∧ s.pi ≤ pat.length ∧ s.ni ≤ name.length ∧ n ≤ K ∧ Pl.matchF n v pat name s = some (b, false)
def MatX (pat name : List UInt8) (v b : Bool) (w : World) (ex : Exit) (a' : Act) (w' : World) : Prop :=
  (ex = .exit 0 ∧ ∃ s n, Fr pat name v s a' ∧ Below w.heap.size w w' ∧ s.pi ≤ pat.length ∧ Pl.zeroF n (pat.drop s.pi) v = some (b, false)) ∨
  (ex = .ret ∧ a'.defers = [] ∧ a'.tmps.getD 22 undef = .bool b ∧ a'.tmps.getD 23 undef = .nilIface ∧ Below w.heap.size w w')

/-- A round. -/
theorem mat_round (K : Nat) (IH : ∀ k, k < K → MatchAt k) (pat name : List UInt8) (v b : Bool) (w : World) (hp : pat.length ≤ 1099511627776) (hn : name.length ≤ 1099511627776) (hT : Lib.Utf8Tabs 1 2 w) (n : Nat) (a : Act) (w1 : World) (hI : MatI K pat name v b w n a w1) (Q : Exit → Act → World → Prop)
    (hnext : ∀ n' a' w', n' < n → MatI K pat name v b w n' a' w' → Q .normal a' w') (hX : ∀ ex a' w', ex ≠ .normal → MatX pat name v b w ex a' w' → Q ex a' w') : mBody.wp Tryd.prog Q a w1 := by
  obtain ⟨s, hF, hb, hpi, hni, hnK, hm⟩ := hI
  have hT1 := tabs_below hT hb
  cases n with
  | zero => rw [Pl.matchF] at hm; cases hm
  | succ n =>
    rw [body_eq]
    refine wp_seq_k (fun K1 hK => ?_)
    have HK := Lib.hid hK
    have HX := Lib.hid hX
    have HN := Lib.hid hnext
    have HM := Lib.hid hm
    have HB := Lib.hid hb
    clear hK hX hnext hm
    have hszn := Pl.S_size name
    by_cases hlt : s.ni < name.length
    · have hlt' : (s.ni : Int) < ((Pl.S name).size : Int) := by omega
      obtain ⟨u, -, rfl⟩ := fr_open hF
      clear hF hszn
      conv => arg 2; whnf
      go_wp2_with fail
      exact HK.out _ _ (blk_law K n IH pat name v b s _ w1 Q ⟨rfl, rfl, rfl, rfl, rfl, rfl, rfl, rfl, rfl, rfl, rfl, rfl, rfl, rfl, rfl, rfl⟩ hp hn hT1 hpi hlt (by omega) HM.out
        (fun s' a' w' h1 h2 h3 h4 h5 => HN.out n a' w' (Nat.lt_succ_self n) ⟨s', h1, HB.out.trans (h2.mono HB.out.size), h3, h4, by omega, h5⟩)
        (fun a' w' h1 h2 h3 h4 => HX.out _ a' w' (by simp) (.inr ⟨rfl, h1, h2, h3, HB.out.trans (h4.mono HB.out.size)⟩)))
    · have hge : ¬ (s.ni : Int) < ((Pl.S name).size : Int) := by omega
      have hs : Pl.step pat name s = .zero := by
        unfold Pl.step
        rw [if_pos (by omega)]
      have hz : Pl.zeroF n (pat.drop s.pi) v = some (b, false) := by
        have := HM.out
        rw [Pl.matchF, hs] at this
        exact this
      have HZ := Lib.hid hz
      obtain ⟨u, -, rfl⟩ := fr_open hF
      clear hF hszn hs hz hlt
      conv => arg 2; whnf
      go_wp2_with fail
      exact HX.out _ _ _ (by simp) (.inl ⟨rfl, s, n, ⟨rfl, rfl, rfl, rfl, rfl, rfl, rfl, rfl, rfl, rfl, rfl, rfl, rfl, rfl, rfl, rfl⟩, HB.out, hpi, HZ.out⟩)
end Go.Proofs.YthkbkiigpflonaaDoor
