/-
  FnGlobRootedUptoCardSaid: whatever pattern and name come in, of bulk at most 1048576 together, the law of a slash ahead of both returns true and leaves them as they were.
-/
import Derived.Test.YthkbkiigpflonaaDoorWalkP
import Derived.Test.YthkbkiigpflonaaDoorShapeG
import Derived.Test.YthkbkiigpflonaaDoorCards
import Derived.Test.YthkbkiigpflonaaDoorTie
import Derived.WalkKit
import Derived.ProofKit
import Derived.OpenShut
import Derived.Carry
import Derived.Lib.LaidU8
import Derived.Deep.DeepHandedRow
import Derived.Deep.DeepWitnessRowRef
namespace Go.Proofs.YthkbkiigpflonaaDoor.fnGlobRooted
open Go.ChangeShapes Go.WideShapes Go.ChangeAt Go.RowKit
open Go.ChangeMaps (open_string shut_string)

theorem own : ownKnob Tryd.prog.godebug = none := by kernel_rfl
theorem laid : laidOutB Tryd.prog = true := by kernel_rfl
theorem readable : Tryd.prog.readableRec 30 = true := by kernel_rfl
theorem inTypes : 30 < Tryd.prog.types.size := of_decide_eq_true (by kernel_rfl)

theorem first_eq : Rows.laid_unicode_utf8_first = Lib.firstData := by kernel_rfl
theorem accept_eq : (Rows.laid_unicode_utf8_acceptRanges : DataW Unit) = Lib.acceptData := by kernel_rfl
/-- The two tables of the library, as the row lists them. -/
theorem tabs_of {W : World} (hL : laidMet Tryd.prog Rows.fnGlobRootedUptoRow.laid W) : Lib.Utf8Tabs 1 2 W :=
  utf8Tabs_of_reads (ρ := lays197_ren) { lays197 with } ⟨by kernel_rfl, by kernel_rfl, by kernel_rfl, by kernel_rfl, by kernel_rfl, by kernel_rfl, by kernel_rfl⟩
    (first_eq ▸ Lib.laidMet.reads hL (.tail _ (.tail _ (.head _)))) (accept_eq ▸ Lib.laidMet.reads hL (.head _))

theorem contract (H : Type) (enc : TypeId × Value → H) (W : World) (base : Nat) (args : Array Value) (ds gs : List (DataW H)) (before : List MemPlace)
    (hval : ∀ (j : Nat) t v, Tryd.f4.params[j]? = some t → args[j]? = some v → Value.okWide Tryd.prog W .any base t v)
    (hW : DataW.Whole enc Tryd.prog Tryd.f4.params.toList Rows.fnGlobRootedSpec.vars false W args.toList ds gs before) (hk : Rows.uptoSmall H (ds ++ gs) = true) (hT : Lib.Utf8Tabs 1 2 W) :
    Calls Tryd.prog 4 args W fun e W' => ∃ v, e = .returned v ∧ Rows.fnGlobRootedSpec.post enc Tryd.prog Tryd.f4 false true false false W args v W' := by
  have hW' := hW
  have hlt := hW.lt
  obtain ⟨p, q, hA0, hV, rfl, hfz, hnd⟩ := hW
  have hA : DataW.TrodAll enc Tryd.prog W 0 (fun _ => true) true Tryd.f4.params.toList args.toList ds p := hA0
  rw [Tryd.params4] at hA hval
  obtain ⟨v0, vs0, d0, ds0, p0, q0, hargs, rfl, rfl, h0, r0⟩ := trodAll_cons hA
  obtain ⟨v1, vs1, d1, ds1, p1, q1, rfl, rfl, rfl, h1, r1⟩ := trodAll_cons r0
  obtain ⟨rfl, rfl, rfl⟩ := trodAll_nil r1
  obtain rfl : args = #[v0, v1] := by cases args; simp_all
  obtain ⟨rfl, rfl⟩ := trodVars_none hV
  obtain ⟨s, rfl, rfl, rfl, hmax⟩ := open_string Tryd.underlying9 (hval 1 9 v1 rfl rfl) h1
  clear hA0
  simp only [List.append_nil] at hW' hk hlt
  have hb : Rows.uptoBulkAll [d0, DataW.lit (H := H) (.string s.data.toList)] ≤ 1048576 := of_decide_eq_true hk
  simp only [Rows.uptoBulkAll, Rows.uptoBulk] at hb
  obtain ⟨ps, hg, hlen, hcnt⟩ := Sh.glob_read (hval 0 30 v0 rfl rfl) h0 (by omega)
  have hs : s = Pl.S s.data.toList := (Pl.S_data s).symm
  have hwalk := rooted_any 1048576 v0 ps s.data.toList W hg (by omega) (by omega) (by omega) hT
  rw [← hs] at hwalk
  refine hwalk.mono fun e W' ⟨he, hbw⟩ => ?_
  subst he
  refine ⟨_, rfl, _, _, _, [], p0 ++ ([] ++ []), [], hW', trodAll_cons_mk (shut_bool Tryd.underlying4 _) trodAll_mk0,
    trodAll_cons_mk (Below.trod laid readable inTypes h0 hbw (fun x hx => hlt x (by simp [hx]))) (trodAll_cons_mk (shut_string Tryd.underlying9 hmax) trodAll_mk0), rfl, hbw.frame _, fun h => by cases h⟩

/-- A world for the witness: one block more, the error's struct; the variable points to it; the two tables as their initialisers lay them. -/
noncomputable def laidWorld (os : Os) : World :=
  let N := (World.settled Tryd.prog os).heap.size
  let w0 := World.holding Tryd.prog os ⟨#[.cells #[.string ⟨#[115, 121, 110, 116, 97, 120, 32, 101, 114, 114, 111, 114, 32, 105, 110, 32, 112, 97, 116, 116, 101, 114, 110]⟩] 97], #[], []⟩
  let put (h : Array Obj) (g : Nat) (cs : Array Value) : Array Obj := h.modify g fun
    | .cells _ t frozen => .cells cs t frozen
    | o => o
  let h0 := put w0.heap 0 #[.iface 79 (.pointer (some ⟨N, 0, none⟩))]
  let h1 := put h0 1 (Lib.firstTab.map fun z => Value.int .u8 z).toArray
  let h2 := put h1 2 ((List.range 16).flatMap fun i => [Value.int .u8 (Lib.accLo i), Value.int .u8 (Lib.accHi i)]).toArray
  { w0 with heap := h2 }
theorem laid_met (os : Os) : laidMet Tryd.prog Rows.fnGlobRootedUptoRow.laid ((laidWorld os).forCall (fun _ _ => 0) ⟨#[], #[.agg #[.slice none 0 0], .string .empty], []⟩).memory :=
  laidMet_of_run' 8 (by kernel_rfl) (by kernel_rfl)
theorem reads (os : Os) {H : Type} (enc : TypeId × Value → H) : ∃ places, DataW.whole enc Tryd.prog ((laidWorld os).forCall (fun _ _ => 0) ⟨#[], #[.agg #[.slice none 0 0], .string .empty], []⟩).memory Tryd.f4.params.toList Rows.fnGlobRootedSpec.vars false #[Value.agg #[.slice none 0 0], Value.string .empty].toList 8 = some ([.agg [.nil], .lit (.string [])], [], places) :=
  ⟨[], by kernel_rfl⟩

set_option maxRecDepth 100000 in
theorem lifted (os : Os) (started : os.Started) (H : Type) (enc : TypeId × Value → H) (F : Stop.Interp) :
    ReturnsInHanded {} Tryd.checked os 4 .any ((Rows.OpenSpec.upto Rows.fnGlobRootedSpec).preRow enc Tryd.prog Tryd.f4 Rows.fnGlobRootedUptoRow.domain false Rows.fnGlobRootedUptoRow.laid) (((Rows.OpenSpec.upto Rows.fnGlobRootedSpec).at F).post enc Tryd.prog Tryd.f4 false true false false) := by
  obtain ⟨places, hx⟩ := reads os enc
  refine returnsInHanded_of_row (C := Tryd.checked) (s := Rows.OpenSpec.upto Rows.fnGlobRootedSpec) own started (by kernel_rfl) Tryd.func4
    (witness_row_atRef (enc := enc) (C := Tryd.checked) false (laidWorld os) #[.agg #[.slice none 0 0], .string .empty] rfl (by kernel_rfl) (by kernel_rfl) (by kernel_rfl)
      (OpenSpec.preRow_of_cond 8 hx (by kernel_rfl) (fun k hk => by cases hk; kernel_rfl) (by kernel_rfl) (laid_met os))) ?_
  intro W base args ds gs before hval hW _ hcond _ hL _ _
  exact contract H enc W base args ds gs before hval hW (hcond _ rfl) (tabs_of hL)

theorem said : Rows.FnGlobRootedUptoSaid :=
  OpenClaim.holds_of_cond 4 Tryd.f4 rfl rfl rfl rfl rfl rfl rfl ⟨rfl, rfl, rfl, rfl, rfl⟩ rfl rfl rfl rfl rfl (by kernel_rfl) Tryd.func4 (by kernel_rfl)
    (of_decide_eq_true (by kernel_rfl)) (by unfold Func.isWrapper; first | (rw [if_pos (by decide +kernel)]; kernel_rfl) | (rw [if_neg (by decide +kernel)]; exact ⟨rfl, rfl⟩))
    (fun os started H enc _ F => by rw [OpenClaim.pre_eq_preRow]; exact lifted os started H enc F)

/-- No parameter wants a stand-in; the program's own looks are off. -/
theorem plain (f : FuncId) (fn : Func) (hf : Tryd.pinned.checked.prog.funcNamed "pub-copsewood/laws.FnGlobRooted" = some f) (hfn : Tryd.pinned.checked.prog.funcs[f]? = some fn) :
    false = Tryd.pinned.checked.prog.looks [] ∧ ∀ (j : Nat) t, fn.params[j]? = some t → Tryd.pinned.checked.prog.wantsStandIn t = false := by
  obtain rfl : f = 4 := Option.some.inj ((show Tryd.prog.funcNamed "pub-copsewood/laws.FnGlobRooted" = some 4 by kernel_rfl).symm.trans hf) |>.symm
  obtain rfl : fn = Tryd.f4 := (Option.some.inj (Tryd.func4.symm.trans hfn)).symm
  refine ⟨by kernel_rfl, fun j t ht => ?_⟩
  rw [Tryd.params4] at ht
  have hm : t = 30 ∨ t = 9 := by simpa using Array.mem_of_getElem? ht
  rcases hm with rfl | rfl
  · exact (show Tryd.prog.wantsStandIn 30 = false by kernel_rfl)
  · exact (show Tryd.prog.wantsStandIn 9 = false by kernel_rfl)

theorem proved : Rows.FnGlobRootedUptoCardSaid :=
  Claim7.holds_tied_plain_at .later [] _ _ _ _ said (fun _ h => by cases h) (by kernel_rfl) (fun _ h => by cases h) fnGlobRootedUpto_row_tie rfl ⟨rfl, rfl⟩ (by kernel_rfl) rfl plain (by kernel_rfl)
#print axioms proved
end Go.Proofs.YthkbkiigpflonaaDoor.fnGlobRooted
