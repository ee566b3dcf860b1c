/-
  The walk of the program's match, whole: what it hands back is what the plain function says, where the pattern is not malformed.
-/
import Derived.Test.YthkbkiigpflonaaDoorWalkMj
import Derived.Deep.DeepCutAuto
import Derived.Deep.CutBlock
namespace Go.Proofs.YthkbkiigpflonaaDoor
open Go.RowKit

set_option maxHeartbeats 4000000
set_option maxRecDepth 100000

/-- A return, out of the two slots. -/
theorem ret_at {R : Ending → World → Prop} {a : Act} {w : World} {b : Bool} (h1 : a.defers = []) (h2 : a.tmps.getD 22 undef = .bool b) (h3 : a.tmps.getD 23 undef = .nilIface) (h : R (.returned (.tuple #[.bool b, .nilIface])) w) :
    bodyPost Tryd.prog Tryd.f39 R .ret a w := by
  refine ⟨h1, .tuple #[.bool b, .nilIface], ?_, h⟩
  rw [results_tmp2 Tryd.results39, h2, h3]

theorem match_any (K : Nat) : MatchAt K := by
  induction K using Nat.strongRecOn with
  | _ K IH =>
  intro pat name v b s w hp hn hpi hni hso hT hm
  have HIH := Lib.hid IH
  have HM := Lib.hid hm
  have HT := Lib.hid hT
  have HSO := Lib.hid hso
  have HP := Lib.hid hp
  clear IH hm hT hso
  have hsp := Pl.S_size pat
  have hps : s.pi ≤ (Pl.S pat).size := by omega
  have hB : (Pl.S pat).size ≤ 1099511627776 := by omega
  have HSP := Lib.hid hsp
  clear hsp
  go_enter Tryd.func39, Tryd.ntmps39
  go_wp2
  go_step3
  go_upto_region 3 with (fail)
  go_cut [26] (fun s26 wc => wc = w ∧ s26 = .bool s.sos)
  case first =>
    rcases Nat.eq_zero_or_pos s.pi with h0 | h0
    · have hs : s.sos = true := by rw [HSO.out, h0]; rfl
      have t0 : ((s.pi : Int) == 0) = true := by rw [h0]; rfl
      have HS := Lib.hid hs
      clear hs h0
      go_wp2_with fail
      go_meet
      case rel => exact ⟨rfl, by rw [HS.out]⟩
    · obtain ⟨q, hq⟩ : ∃ q, s.pi = q + 1 := ⟨s.pi - 1, by omega⟩
      obtain ⟨c, hc⟩ : ∃ c, pat[q]? = some c := ⟨_, List.getElem?_eq_getElem (by omega)⟩
      have hg := Pl.S_get pat q c hc
      have hlt : q < (Pl.S pat).size := by omega
      have hlt' : (q : Int) < ((Pl.S pat).size : Int) := by omega
      have t0 : ((s.pi : Int) == 0) = false := by rw [beq_eq_false_iff_ne]; omega
      have t1 : (s.pi : Int) - 1 = (q : Int) := by omega
      have hs : s.sos = (wrap32 (c.toNat : Int) == 47) := by
        rw [HSO.out, hq, byte47]
        unfold Pl.sos0
        rw [Nat.add_sub_cancel, hc]
        by_cases h : c = 47
        · rw [h]; simp
        · have h1 : (c == 47) = false := by simpa using h
          rw [h1]
          simp [h]
      have HS := Lib.hid hs
      clear hs hc hq h0
      go_wp2_with fail
      go_meet
      case rel => exact ⟨rfl, by rw [HS.out]⟩
  obtain ⟨rfl, rfl⟩ := hcut
  go_wp2
  go_step3
  go_wp2
  refine loop_law (MatI K pat name v b wc) (MatX pat name v b wc) K ?_ ?_ (fun n' a' w' hI Q' hn' hx' => mat_round K HIH.out pat name v b wc hp hn HT.out n' a' w' hI Q' hn' hx')
  · exact ⟨s, ⟨rfl, rfl, rfl, rfl, rfl, rfl, rfl, rfl, rfl, rfl, rfl, rfl, rfl, rfl, rfl, rfl⟩, Below.refl _ _, hpi, hni, Nat.le_refl _, HM.out⟩
  · rintro ex a' w' - (⟨rfl, s', n, hF, hb, hpi', hz⟩ | ⟨rfl, h1, h2, h3, h4⟩)
    · obtain ⟨u', -, rfl⟩ := fr_open hF
      have hpi2 : s'.pi ≤ (Pl.S pat).size := by rw [HSP.out]; exact hpi'
      have hex := S_from pat s'.pi
      have hlen : (pat.drop s'.pi).length ≤ 1099511627776 := by have := HP.out; rw [List.length_drop]; omega
      have HZ := Lib.hid hz
      have HB := Lib.hid hb
      clear hF hz hb hpi'
      generalize pat.drop s'.pi = pd at *
      go_wp2_with (go_at_call 26; refine (zero_any n pd v b _ hlen HZ.out).mono ?_; rintro e w1 ⟨rfl, m, rfl⟩)
      try rw [Exit.noGoto_ret]
      go_ret2
      exact ⟨rfl, below_drewN HB.out m⟩
    · exact ret_at h1 h2 h3 ⟨rfl, h4⟩
end Go.Proofs.YthkbkiigpflonaaDoor
