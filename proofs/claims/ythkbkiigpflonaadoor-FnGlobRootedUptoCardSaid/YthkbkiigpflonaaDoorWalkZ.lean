/-
  The walk of the program's look at a pattern's rest, where it is not malformed.
-/
import Derived.Test.YthkbkiigpflonaaDoorWalkS
import Derived.Test.YthkbkiigpflonaaDoorWalkV
import Derived.Deep.QuietTactic
import Derived.BigQuiet
import Derived.Deep.Light
import Derived.Deep.DeepCutAuto
import Derived.Deep.CutBlock
namespace Go.Proofs.YthkbkiigpflonaaDoor
open Go.RowKit

/-- What it hands back. -/
def ZeroPost (b : Bool) (w : World) (e : Ending) (w' : World) : Prop := e = .returned (.tuple #[.bool b, .nilIface]) ∧ ∃ m, w' = w.drewN m

theorem byte47 (x : UInt8) : (wrap32 (x.toNat : Int) == 47) = (x == 47) := by
  have h := x.toNat_lt
  have e : wrap32 (x.toNat : Int) = x.toNat := by unfold wrap32; omega
  rw [e, Bool.eq_iff_iff]
  simp only [beq_iff_eq]
  constructor
  · intro h
    apply UInt8.toNat_inj.1
    show x.toNat = 47
    omega
  · rintro rfl
    rfl
theorem toL (l : List UInt8) : (Pl.S l).toList = l := by simp [Pl.S]
theorem z1 (x : UInt8) : Pl.zspec [x] = (x == 42) := by
  rw [Bool.eq_iff_iff]
  simp [Pl.zspec]
theorem z2 (x y : UInt8) : Pl.zspec [x, y] = (x == 42 && y == 42) := by
  rw [Bool.eq_iff_iff]
  simp [Pl.zspec]
theorem z3 (x y z : UInt8) : Pl.zspec [x, y, z] = ((y == 42 && z == 42 && x == 47) || (x == 42 && y == 42 && z == 47)) := by
  rw [Bool.eq_iff_iff]
  simp only [Pl.zspec, List.cons.injEq, Bool.or_eq_true, Bool.and_eq_true, beq_iff_eq, reduceCtorEq, and_false, and_true, false_or, or_false]
  constructor <;> (intro h; rcases h with h | h <;> simp [h])
theorem z4 (x y z u : UInt8) : Pl.zspec [x, y, z, u] = (y == 42 && z == 42 && x == 47 && u == 47) := by
  rw [Bool.eq_iff_iff]
  simp only [Pl.zspec, List.cons.injEq, Bool.or_eq_true, Bool.and_eq_true, beq_iff_eq, reduceCtorEq, and_false, and_true, false_or, or_false]
  constructor <;> (intro h; simp [h])
theorem str2 (a b : UInt8) (t : List UInt8) : ((Pl.S t).toList == [a, b]) = (t == [a, b]) := by rw [toL]
theorem z2' (x y : UInt8) : Pl.zspec [x, y] = ((Pl.S [x, y]).toList == [42, 42]) := by
  rw [z2, str2, Bool.eq_iff_iff]
  simp
theorem z3' (x y z : UInt8) : Pl.zspec [x, y, z] = ((((Pl.S [y, z]).toList == [42, 42]) && (wrap32 (x.toNat : Int) == 47)) || (((Pl.S [x, y]).toList == [42, 42]) && (wrap32 (z.toNat : Int) == 47))) := by
  rw [z3, str2, str2, byte47, byte47, Bool.eq_iff_iff]
  simp [and_assoc]
theorem z4' (x y z u : UInt8) : Pl.zspec [x, y, z, u] = (((Pl.S [y, z]).toList == [42, 42]) && (wrap32 (x.toNat : Int) == 47) && (wrap32 (u.toNat : Int) == 47)) := by
  rw [z4, str2, byte47, byte47, Bool.eq_iff_iff]
  simp [and_assoc]
theorem z5 (x y z u t : UInt8) (r : List UInt8) : Pl.zspec (x :: y :: z :: u :: t :: r) = false := by
  rw [Bool.eq_false_iff]
  simp [Pl.zspec]


theorem zeroF_cases (k : Nat) (l : List UInt8) (v b : Bool) (h : Pl.zeroF k l v = some (b, false)) :
    (Pl.zspec l = true → b = true) ∧ (Pl.zspec l = false → ∃ k' c s, k = k' + 1 ∧ l = c :: s ∧ ((c.toNat = 123 ∧ ∃ ci, Pl.closeM s 0 1 0 = some ci ∧ Pl.zeroAlts k' (s.take ci) (s.drop (ci + 1)) v = some (b, false)) ∨ (c.toNat ≠ 123 ∧ b = false ∧ (v = true → Pl.validM (c :: s) 0 0 = true)))) := by
  cases k with
  | zero => simp [Pl.zeroF] at h
  | succ k' =>
    rw [Pl.zeroF.eq_def] at h
    dsimp only at h
    refine ⟨fun hz => ?_, fun hz => ?_⟩
    · rw [if_pos hz] at h
      simp only [Option.some.injEq, Prod.mk.injEq] at h
      exact h.1.symm
    · rw [if_neg (by rw [hz]; exact Bool.false_ne_true)] at h
      cases l with
      | nil => simp [Pl.zspec] at hz
      | cons c s =>
        refine ⟨k', c, s, rfl, rfl, ?_⟩
        dsimp only at h
        by_cases hc : c.toNat = 123
        · rw [if_pos hc] at h
          left
          refine ⟨hc, ?_⟩
          cases hm : Pl.closeM s 0 1 0 with
          | none => rw [hm] at h; simp at h
          | some ci => rw [hm] at h; exact ⟨ci, rfl, h⟩
        · rw [if_neg hc] at h
          right
          simp only [Option.some.injEq, Prod.mk.injEq] at h
          refine ⟨hc, h.1.symm, fun hv => ?_⟩
          have h2 := h.2
          rw [hv] at h2
          simpa using h2
theorem zeroAlts_cases (k : Nat) (inn rest : List UInt8) (v b : Bool) (h : Pl.zeroAlts k inn rest v = some (b, false)) :
    ∃ k', k = k' + 1 ∧ ((Pl.nextM inn 0 1 0 = none ∧ Pl.zeroF k' (inn ++ rest) v = some (b, false)) ∨ ∃ j, Pl.nextM inn 0 1 0 = some j ∧ ((b = true ∧ Pl.zeroF k' (inn.take j ++ rest) v = some (true, false)) ∨ (Pl.zeroF k' (inn.take j ++ rest) v = some (false, false) ∧ Pl.zeroAlts k' (inn.drop (j + 1)) rest v = some (b, false)))) := by
  cases k with
  | zero => simp [Pl.zeroAlts] at h
  | succ k' =>
    refine ⟨k', rfl, ?_⟩
    rw [Pl.zeroAlts] at h
    cases hn : Pl.nextM inn 0 1 0 with
    | none => rw [hn] at h; exact .inl ⟨rfl, h⟩
    | some j =>
      rw [hn] at h
      dsimp only at h
      right
      refine ⟨j, rfl, ?_⟩
      cases hz : Pl.zeroF k' (inn.take j ++ rest) v with
      | none => rw [hz] at h; simp at h
      | some bb =>
        obtain ⟨b1, b2⟩ := bb
        rw [hz] at h
        dsimp only at h
        cases b1 <;> cases b2 <;> simp at h ⊢
        · exact h
        · exact h

set_option linter.unusedSimpArgs false
set_option maxHeartbeats 8000000 in
set_option maxRecDepth 100000 in
theorem zero_any (k : Nat) : ∀ (l : List UInt8) (v b : Bool) (w : World), l.length ≤ 1099511627776 → Pl.zeroF k l v = some (b, false) →
    Calls Tryd.prog 26 #[.string (Pl.S l), .int .i32 47, .bool v] w (ZeroPost b w) := by
  induction k using Nat.strongRecOn with
  | _ k IH =>
  intro l v b w hl hzf
  obtain ⟨hz, hr⟩ := zeroF_cases k l v b hzf
  clear hzf
  have HZ := Lib.hid hz
  have HR := Lib.hid hr
  have HIH := Lib.hid IH
  clear hz hr IH
  go_enter Tryd.func26, Tryd.ntmps26
  go_upto_block 0 with (fail)
  go_cut [] (fun wc => wc = w ∧ Hid (Pl.zspec l = false))
  case first =>
    clear HR HIH
    match l with
    | [] =>
      have hsz : (Pl.S []).size = 0 := rfl
      have hb : b = true := HZ.out rfl
      subst hb
      go_wp2
      go_ret2
      exact ⟨rfl, 0, rfl⟩
    | [x] =>
      have hsz : (Pl.S [x]).size = 1 := Pl.S_size _
      have ht : (Pl.S [x]).toList = [x] := toL _
      have Z := Lib.hid (z1 x)
      cases h : x == 42
      · have h' : ([x] == [42]) = false := by simpa using h
        have h'' : ¬ x = 42 := by simpa using h
        go_wp2
        go_meet
        case rel => exact ⟨rfl, Lib.hid (by rw [Z.out, h])⟩
      · have hx : x = 42 := by simpa using h
        have hb : b = true := HZ.out (by rw [Z.out, h])
        subst hb hx
        go_wp2
        go_ret2
        exact ⟨rfl, 0, rfl⟩
    | [x, y] =>
      have hsz : (Pl.S [x, y]).size = 2 := Pl.S_size _
      have Z := Lib.hid (z2' x y)
      go_wp2
      all_goals go_light
      all_goals first
        | (go_meet
           case rel => exact ⟨rfl, Lib.hid (by rw [Z.out]; simp only [*, Bool.and_true, Bool.true_and, Bool.and_false, Bool.false_and, Bool.or_false, Bool.false_or])⟩)
        | (have hb : b = true := HZ.out (by rw [Z.out]; simp only [*, Bool.and_true, Bool.true_and, Bool.and_false, Bool.false_and, Bool.or_true, Bool.true_or, Bool.or_false, Bool.false_or])
           subst hb
           go_ret2
           exact ⟨rfl, 0, rfl⟩)
    | [x, y, z] =>
      have hsz : (Pl.S [x, y, z]).size = 3 := Pl.S_size _
      have he1 : (Pl.S [x, y, z]).extract 1 3 = Pl.S [y, z] := by rw [Pl.S_ext]; rfl
      have he2 : (Pl.S [x, y, z]).extract 0 2 = Pl.S [x, y] := by rw [Pl.S_ext]; rfl
      have hi0 := Pl.S_get [x, y, z] 0 x rfl
      have hi2 := Pl.S_get [x, y, z] 2 z rfl
      have Z := Lib.hid (z3' x y z)
      generalize Pl.S [x, y, z] = t at *
      generalize Pl.S [y, z] = e1 at *
      generalize Pl.S [x, y] = e2 at *
      go_wp2
      all_goals go_light
      all_goals first
        | (rw [show (Value.int IntKind.i64 3) = Value.int IntKind.i64 (t.size : Int) by rw [hsz]; rfl]
           go_meet
           case rel => exact ⟨rfl, Lib.hid (by rw [Z.out]; simp [*])⟩)
        | (have hb : b = true := HZ.out (by rw [Z.out]; simp [*])
           subst hb
           go_ret2
           exact ⟨rfl, 0, rfl⟩)
    | [x, y, z, u] =>
      have hsz : (Pl.S [x, y, z, u]).size = 4 := Pl.S_size _
      have he1 : (Pl.S [x, y, z, u]).extract 1 3 = Pl.S [y, z] := by rw [Pl.S_ext]; rfl
      have hi0 := Pl.S_get [x, y, z, u] 0 x rfl
      have hi3 := Pl.S_get [x, y, z, u] 3 u rfl
      have Z := Lib.hid (z4' x y z u)
      generalize Pl.S [x, y, z, u] = t at *
      generalize Pl.S [y, z] = e1 at *
      cases c1 : (e1.toList == [42, 42])
      · go_wp2
        try rw [show (Value.int IntKind.i64 4) = Value.int IntKind.i64 (t.size : Int) by rw [hsz]; rfl]
        go_meet
        case rel => exact ⟨rfl, Lib.hid (by rw [Z.out, c1]; rfl)⟩
      cases c2 : (wrap32 (x.toNat : Int) == 47)
      · go_wp2
        try rw [show (Value.int IntKind.i64 4) = Value.int IntKind.i64 (t.size : Int) by rw [hsz]; rfl]
        go_meet
        case rel => exact ⟨rfl, Lib.hid (by rw [Z.out, c1, c2]; rfl)⟩
      cases c3 : (wrap32 (u.toNat : Int) == 47)
      · go_wp2
        try rw [show (Value.int IntKind.i64 4) = Value.int IntKind.i64 (t.size : Int) by rw [hsz]; rfl]
        go_meet
        case rel => exact ⟨rfl, Lib.hid (by rw [Z.out, c1, c2, c3]; rfl)⟩
      · have hb : b = true := HZ.out (by rw [Z.out, c1, c2, c3]; rfl)
        subst hb
        go_wp2
        go_ret2
        exact ⟨rfl, 0, rfl⟩
    | x :: y :: z :: u :: t :: r =>
      have hsz : (Pl.S (x :: y :: z :: u :: t :: r)).size = r.length + 5 := Pl.S_size _
      have e0 : ((r.length : Int) + 5 == 0) = false := by rw [beq_eq_false_iff_ne]; omega
      have e1 : ((r.length : Int) + 5 == 1) = false := by rw [beq_eq_false_iff_ne]; omega
      have e2 : ((r.length : Int) + 5 == 2) = false := by rw [beq_eq_false_iff_ne]; omega
      have e3 : ((r.length : Int) + 5 == 3) = false := by rw [beq_eq_false_iff_ne]; omega
      have e4 : ((r.length : Int) + 5 == 4) = false := by rw [beq_eq_false_iff_ne]; omega
      go_wp2
      go_meet
      case rel => exact ⟨rfl, Lib.hid (z5 ..)⟩
  obtain ⟨rfl, HS⟩ := hcut
  obtain ⟨k', c, s, rfl, rfl, hc⟩ := HR.out HS.out
  clear HR HZ
  have hsz : (Pl.S (c :: s)).size = s.length + 1 := Pl.S_size _
  have hi0 := Pl.S_get (c :: s) 0 c rfl
  rcases hc with ⟨hc, ci, hcl, hza⟩ | ⟨hc, hb, hv⟩
  · have hc' : ((c.toNat : Int) == 123) = true := by rw [hc]; rfl
    have hci := Pl.closeM_lt s 0 1 0 ci hcl
    simp only [List.length_cons] at hl
    have he1 : (Pl.S (c :: s)).extract 1 (s.length + 1) = Pl.S s := by rw [Pl.S_ext]; simp
    have hcm : ((ci : Int) == -1) = false := by rw [beq_eq_false_iff_ne]; omega
    have hpl : Pl.place (Pl.closeM s 0 1 0) = ci := by rw [hcl]; rfl
    have HZA := Lib.hid hza
    clear hza hcl hc
    have hci2 := hci.2
    clear hci
    go_wp2_with (go_at_call 34; refine (close_any s _ (by omega)).mono ?_; rintro e w1 ⟨rfl, rfl⟩; rw [hpl])
    go_loopw [9] (fun i wr => ∃ (p kk : Nat) (inn : List UInt8), i = .int .i64 p ∧ 1 ≤ p ∧ p ≤ ci + 1 ∧ kk ≤ k' ∧ Hid (inn = ((c :: s).take (ci + 1)).drop p) ∧ Hid (Pl.zeroAlts kk inn (s.drop (ci + 1)) v = some (b, false)) ∧ Hid (∃ m, wr = wc.drewN m)) (fun i _ => ci + 1 - (intOf i).toNat)
    case atStart => exact ⟨1, k', s.take ci, rfl, by omega, by omega, Nat.le_refl _, Lib.hid (by simp), HZA, Lib.hid ⟨0, rfl⟩⟩
    case round =>
      obtain ⟨p, kk, inn, rfl, hp1, hp2, hkk, HI, HA, HW⟩ := hrel
      have hil : inn.length = ci + 1 - p := by rw [HI.out]; simp; omega
      obtain ⟨k2, rfl, hcase⟩ := zeroAlts_cases _ _ _ _ _ HA.out
      clear HA
      have hex : (Pl.S (c :: s)).extract p (ci + 1) = Pl.S inn := by rw [Pl.S_ext, HI.out]
      have hexr : (Pl.S (c :: s)).extract (ci + 1 + 1) (s.length + 1) = Pl.S (s.drop (ci + 1)) := by rw [Pl.S_ext]; simp [List.take_of_length_le]
      have hrl : (s.drop (ci + 1)).length = s.length - (ci + 1) := by simp
      generalize hR : s.drop (ci + 1) = rest at *
      rcases hcase with ⟨hn, hzf⟩ | ⟨j, hn, hzf⟩
      · have hpl2 : Pl.place (Pl.nextM inn 0 1 0) = -1 := by rw [hn]; rfl
        have HF := Lib.hid hzf
        clear hzf hn
        go_wp2_with (go_at_call 35; refine (next_any inn _ (by omega)).mono ?_; rintro e w1 ⟨rfl, rfl⟩; rw [hpl2])
        have x0 : ¬ 9223372036854775807 < (Pl.S inn).size + (Pl.S rest).size := by rw [Pl.S_size, Pl.S_size]; omega
        have hcat : Pl.S inn ++ Pl.S rest = Pl.S (inn ++ rest) := Pl.S_add _ _
        have hlen : (inn ++ rest).length ≤ 1099511627776 := by simp; omega
        have x1 : (0 : Int) ≤ (ci : Int) + 1 := by omega
        have x2 : ci ≤ s.length := by omega
        have x3 : (ci : Int) + 1 ≤ (s.length : Int) := by omega
        have x4 : ci + 1 ≤ s.length := by omega
        have x5 : ci < s.length := by omega
        have x6 : p ≤ ci + 1 := by omega
        have w2 : IntKind.i64.wrap ((ci : Int) + 1 + 1) = (ci : Int) + 1 + 1 := IntWalk.i64_in _ (by omega)
        have w3 : ((ci : Int) + 1 + 1).toNat = ci + 1 + 1 := by omega
        have w4 : ((ci : Int) + 1).toNat = ci + 1 := by omega
        have w5 : (0 : Int) ≤ (ci : Int) + 1 + 1 := by omega
        have w6 : (ci : Int) + 1 + 1 ≤ ((Pl.S (c :: s)).size : Int) := by omega
        have w7 : (p : Int) ≤ (ci : Int) + 1 := by omega
        have w8 : (ci : Int) + 1 ≤ ((Pl.S (c :: s)).size : Int) := by omega
        go_quiet ((go_at_call 26; exact Calls.quiet_of (HIH.out k2 (by omega) (inn ++ rest) v b _ hlen HF.out)))
        obtain ⟨m, hm⟩ := HW.out
        subst hm
        go_wp2
        go_ret2
        exact ⟨rfl, m + nq, by first | rfl | rw [World.drewN_drewN]⟩
      · have hj := (Pl.nextM_lt inn 0 1 0 j hn).2
        have hpl2 : Pl.place (Pl.nextM inn 0 1 0) = j := by rw [hn]; rfl
        have hjm : ((j : Int) == -1) = false := by rw [beq_eq_false_iff_ne]; omega
        have hex2 : (Pl.S (c :: s)).extract p (j + p) = Pl.S (inn.take j) := by
          rw [Pl.S_ext, HI.out, List.take_drop, List.take_take]
          congr 3
          omega
        have HF := Lib.hid hzf
        clear hzf hn
        go_wp2_with (go_at_call 35; refine (next_any inn _ (by omega)).mono ?_; rintro e w1 ⟨rfl, rfl⟩; rw [hpl2])
        have x0 : ¬ 9223372036854775807 < (Pl.S (inn.take j)).size + (Pl.S rest).size := by rw [Pl.S_size, Pl.S_size, List.length_take]; omega
        have hcat : Pl.S (inn.take j) ++ Pl.S rest = Pl.S (inn.take j ++ rest) := Pl.S_add _ _
        have hlen : (inn.take j ++ rest).length ≤ 1099511627776 := by simp; omega
        have x1 : (0 : Int) ≤ (ci : Int) + 1 := by omega
        have x2 : ci ≤ s.length := by omega
        have x3 : (ci : Int) + 1 ≤ (s.length : Int) := by omega
        have x4 : ci + 1 ≤ s.length := by omega
        have x5 : ci < s.length := by omega
        have x6 : p ≤ ci + 1 := by omega
        have x7 : (0 : Int) ≤ (j : Int) + p := by omega
        have x8 : (j : Int) + p ≤ (s.length : Int) + 1 := by omega
        have x9 : j + p ≤ s.length + 1 := by omega
        have x10 : p ≤ j + p := by omega
        have w2 : IntKind.i64.wrap ((ci : Int) + 1 + 1) = (ci : Int) + 1 + 1 := IntWalk.i64_in _ (by omega)
        have w3 : ((ci : Int) + 1 + 1).toNat = ci + 1 + 1 := by omega
        have w4 : ((j : Int) + p).toNat = j + p := by omega
        have w5 : (0 : Int) ≤ (ci : Int) + 1 + 1 := by omega
        have w6 : (ci : Int) + 1 + 1 ≤ ((Pl.S (c :: s)).size : Int) := by omega
        have w7 : (p : Int) ≤ (j : Int) + p := by omega
        have w8 : (j : Int) + p ≤ ((Pl.S (c :: s)).size : Int) := by omega
        rcases HF.out with ⟨hb, hzf⟩ | ⟨hzf, hza⟩
        · clear HF
          go_quiet ((go_at_call 26; exact Calls.quiet_of (HIH.out k2 (by omega) (inn.take j ++ rest) v true _ hlen hzf)))
          obtain ⟨m, hm⟩ := HW.out
          subst hm hb
          go_wp2
          go_ret2
          exact ⟨rfl, m + nq, by first | rfl | rw [World.drewN_drewN]⟩
        · clear HF
          have HZ2 := Lib.hid hza
          go_quiet ((go_at_call 26; exact Calls.quiet_of (HIH.out k2 (by omega) (inn.take j ++ rest) v false _ hlen hzf)))
          clear w2
          go_wp2
          go_roundw
          case measure => simp [intOf]; omega
          case rel => exact ⟨j + p + 1, k2, inn.drop (j + 1), by go_num, by omega, by omega, by omega, Lib.hid (by rw [HI.out, List.drop_drop]; congr 1; omega), HZ2, Lib.hid (by obtain ⟨m, hm⟩ := HW.out; exact ⟨m + nq, by rw [hm, World.drewN_drewN]⟩)⟩
  · have hc' : ((c.toNat : Int) == 123) = false := by rw [beq_eq_false_iff_ne]; omega
    subst hb
    cases v
    · go_wp2
      go_ret2
      exact ⟨rfl, 0, rfl⟩
    · have hv' := hv rfl
      clear hv HIH HS
      go_wp2_with (go_at_call 36; refine (valid_any (c :: s) _ hl).mono ?_; rintro e w1 ⟨rfl, rfl⟩; rw [hv'])
      go_ret2
      exact ⟨rfl, 0, rfl⟩
end Go.Proofs.YthkbkiigpflonaaDoor
