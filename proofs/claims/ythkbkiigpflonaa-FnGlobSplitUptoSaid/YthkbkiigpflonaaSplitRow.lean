/-
  FnGlobSplitUptoSaid: whatever name and pattern come in, of bulk at most 1048576 together, the law of cutting a pattern at the last slash ahead of what is special returns true and leaves them as they were. No condition beyond the statement's own.
-/
import Derived.Test.YthkbkiigpflonaaSplitWalk
import Derived.Test.YthkbkiigpflonaaShapeG
import Derived.ProofKit
import Derived.JoinedCond
import Derived.Carry
namespace Go.Proofs.Ythkbkiigpflonaa.fnGlobSplit
open Go.ChangeShapes Go.WideShapes Go.ChangeAt Go.RowKit
open Go.ChangeMaps (open_string shut_string)

theorem own : ownKnob Try.prog.godebug = none := by kernel_rfl
theorem laid : laidOutB Try.prog = true := by kernel_rfl
theorem readable : Try.prog.readableRec 24 = true := by kernel_rfl
theorem inTypes : 24 < Try.prog.types.size := of_decide_eq_true (by kernel_rfl)

theorem contract (H : Type) (enc : TypeId × Value → H) (W : World) (base : Nat) (args : Array Value) (ds gs : List (DataW H)) (before : List MemPlace)
    (hval : ∀ (j : Nat) t v, Try.f3.params[j]? = some t → args[j]? = some v → Value.okWide Try.prog W .any base t v)
    (hW : DataW.Whole enc Try.prog Try.f3.params.toList Rows.fnGlobSplitSpec.vars false W args.toList ds gs before) (hk : Rows.uptoSmall H (ds ++ gs) = true) :
    Calls Try.prog 3 args W fun e W' => ∃ v, e = .returned v ∧ Rows.fnGlobSplitSpec.post enc Try.prog Try.f3 false true false false W args v W' := by
  have hW' := hW
  have hlt := hW.lt
  obtain ⟨p, q, hA0, hV, rfl, hfz, hnd⟩ := hW
  have hA : DataW.TrodAll enc Try.prog W 0 (fun _ => true) true Try.f3.params.toList args.toList ds p := hA0
  rw [Try.params3] at hA hval
  obtain ⟨v0, vs0, d0, ds0, p0, q0, hargs, rfl, rfl, h0, r0⟩ := trodAll_cons hA
  obtain ⟨v1, vs1, d1, ds1, p1, q1, rfl, rfl, rfl, h1, r1⟩ := trodAll_cons r0
  obtain ⟨rfl, rfl, rfl⟩ := trodAll_nil r1
  obtain rfl : args = #[v0, v1] := by cases args; simp_all
  obtain ⟨rfl, rfl⟩ := trodVars_none hV
  obtain ⟨s, rfl, rfl, rfl, hmax⟩ := open_string Try.underlying9 (hval 0 9 v0 rfl rfl) h0
  clear hA0
  simp only [List.append_nil] at hW' hk hlt
  have hb : Rows.uptoBulkAll [DataW.lit (H := H) (.string s.data.toList), d1] ≤ 1048576 := of_decide_eq_true hk
  simp only [Rows.uptoBulkAll, Rows.uptoBulk] at hb
  obtain ⟨ps, hg, hlen, hcnt⟩ := Sh.glob_read (hval 1 24 v1 rfl rfl) h1 (by omega)
  have hs : s = Pl.S s.data.toList := (Pl.S_data s).symm
  have hwalk := split_any 1048576 s.data.toList v1 ps W hg (by omega) (by omega) (by omega)
  rw [← hs] at hwalk
  refine hwalk.mono fun e W' ⟨he, hbw⟩ => ?_
  subst he
  refine ⟨_, rfl, _, _, _, [], [] ++ (p1 ++ []), [], hW', trodAll_cons_mk (shut_bool Try.underlying4 _) trodAll_mk0,
    trodAll_cons_mk (shut_string Try.underlying9 hmax) (trodAll_cons_mk (Below.trod laid readable inTypes h1 hbw (fun x hx => hlt x (by simp [hx]))) trodAll_mk0), rfl, hbw.frame _, fun h => by cases h⟩

set_option maxRecDepth 100000 in
theorem lifted (os : Os) (started : os.Started) (H : Type) (enc : TypeId × Value → H) (F : Stop.Interp) :
    ReturnsInHanded {} Try.checked os 3 .any ((Rows.OpenSpec.upto Rows.fnGlobSplitSpec).pre6 enc Try.prog Try.f3 Rows.fnGlobSplitUptoRow.domain false) (((Rows.OpenSpec.upto Rows.fnGlobSplitSpec).at F).post enc Try.prog Try.f3 false true false false) := by
  refine returnsInHanded_of_cond (C := Try.checked) (s := Rows.OpenSpec.upto Rows.fnGlobSplitSpec) (k := Rows.uptoSmall) rfl own started (by kernel_rfl) Try.func3
    (OpenSpec.witness (enc := enc) (C := Try.checked) (s := Rows.OpenSpec.upto Rows.fnGlobSplitSpec) (k := Rows.uptoSmall) rfl false ⟨#[], #[.string .empty, .agg #[.slice none 0 0]], []⟩ 8 (by kernel_rfl) (by kernel_rfl) (by kernel_rfl)
      (x := ([.lit (.string []), .agg [.nil]], [], [])) (by kernel_rfl) rfl (by kernel_rfl)) ?_
  intro W base args ds gs before hval hW _ hk _
  exact contract H enc W base args ds gs before hval hW hk

theorem over : Rows.fnGlobSplitUptoRow.holds Try.pinned (Rows.OpenSpec.upto Rows.fnGlobSplitSpec) :=
  OpenClaim.holds_of_cond 3 Try.f3 rfl rfl rfl rfl rfl rfl rfl ⟨rfl, rfl, rfl, rfl, rfl⟩ rfl rfl rfl rfl rfl (by kernel_rfl) Try.func3 (by kernel_rfl)
    (of_decide_eq_true (by kernel_rfl)) (by unfold Func.isWrapper; first | (rw [if_pos (by decide +kernel)]; kernel_rfl) | (rw [if_neg (by decide +kernel)]; exact ⟨rfl, rfl⟩))
    (fun os started H enc _ F => lifted os started H enc F)

theorem proved : Rows.FnGlobSplitUptoSaid := over
#print axioms proved
end Go.Proofs.Ythkbkiigpflonaa.fnGlobSplit
