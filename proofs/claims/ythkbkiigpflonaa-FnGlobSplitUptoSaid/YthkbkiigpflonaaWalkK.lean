/-
  The walks of the law's own helpers: a name without commas and backslashes, a name quoted, a first part with something special in it.
-/
import Derived.Test.YthkbkiigpflonaaWalkJ
import Derived.Test.YthkbkiigpflonaaRead
namespace Go.Proofs.Ythkbkiigpflonaa
open Go.RowKit

def BasePost (l : List UInt8) (w : World) (e : Ending) (w' : World) : Prop := ∃ b : Bool, e = .returned (.bool b) ∧ Below w.heap.size w w' ∧ (b = true → ∀ x ∈ l, x.toNat ≠ 44 ∧ x.toNat ≠ 92)

set_option maxHeartbeats 4000000 in
theorem base_any (l : List UInt8) (w : World) (hl : l.length ≤ 1048576) :
    Calls Try.prog 8 #[.string (Pl.S l)] w (BasePost l w) := by
  have hsz : (Pl.S l).size = l.length := Pl.S_size l
  have hsz' : (Pl.S l).size ≤ 1048576 := by omega
  have HS := Lib.hid hsz
  clear hsz
  go_enter Try.func8, Try.ntmps8
  go_wp2_with fail
  go_loopw [] (fun wr => ∃ pos : Nat, wr.heap[w.heap.size]? = some (.stringIter (Pl.S l) pos) ∧ Below w.heap.size w wr ∧ pos ≤ l.length ∧ Hid (∀ x ∈ l.take pos, x.toNat ≠ 44 ∧ x.toNat ≠ 92)) (fun wr => (Pl.S l).size - wr.iterPos w.heap.size)
  case atStart =>
    refine ⟨0, ?_, (Below.refl _ _).alloc (Nat.le_refl _) _, by simp, Lib.hid (by simp)⟩
    have := World.iter_heap w (Pl.S l) 0
    simpa using this
  case round =>
    obtain ⟨pos, hit, hb, hpl, HI⟩ := hrel
    have hks : w.heap.size < wr.heap.size := (Array.getElem?_eq_some_iff.1 hit).1
    by_cases hp : pos < (Pl.S l).size
    · have hnx : ∀ ty, (Instr.next (.pointer (some ⟨w.heap.size, 0, none⟩)) true ty).run Try.prog wr = _ := fun ty => Lib.run_next_any_at wr w.heap.size (Pl.S l) pos ty hit hp
      have hwd := Lib.width_pos (Pl.S l) pos
      have hit2 := Lib.iterAt_heap wr w.heap.size (Pl.S l) pos (pos + (Utf8.decode (Pl.S l) pos).2) hit
      have hb2 := Lib.below_iterAt hb (k := w.heap.size) (Nat.le_refl _) (Pl.S l) (pos + (Utf8.decode (Pl.S l) pos).2)
      have hpl' : pos < l.length := by have := HS.out; omega
      have hde : Utf8.decode (Pl.S l) pos = Lib.decodeL (l.drop pos) := by rw [← Lib.decodeL_drop]; simp [Pl.S]
      have hne : l.drop pos ≠ [] := by
        intro e
        have := congrArg List.length e
        simp at this
        omega
      have hlew := Lib.decodeL_le (l.drop pos) hne
      have htk : l.take (pos + (Lib.decodeL (l.drop pos)).2) = l.take pos ++ (l.drop pos).take (Lib.decodeL (l.drop pos)).2 := List.take_add
      have hdec := Pl.decoded_bytes (l.drop pos) hne
      rw [hde] at hnx hit2 hb2 hwd
      obtain ⟨c, d, hcd⟩ : ∃ c d, Lib.decodeL (l.drop pos) = (c, d) := ⟨_, _, rfl⟩
      rw [hcd] at hnx hit2 hb2 hwd hlew htk hdec
      simp only at hnx hit2 hb2 hwd hlew htk hdec
      have HTK := Lib.hid htk
      have HDEC := Lib.hid hdec
      rw [List.length_drop] at hlew
      have HP0 : Hid (wr.iterPos w.heap.size = pos) := Lib.hid (iterPos_of hit)
      clear hde hcd htk hdec hne hb hit
      cases hc1 : ((c : Int) == 44)
      · cases hc2 : ((c : Int) == 92)
        · have HN : Hid (∀ x ∈ l.take (pos + d), x.toNat ≠ 44 ∧ x.toNat ≠ 92) := Lib.hid (by
            rw [HTK.out]
            intro x hx
            rcases List.mem_append.1 hx with hx | hx
            · exact HI.out x hx
            · have h1 : ¬ (c : Int) = 44 := by simpa using hc1
              have h2 : ¬ (c : Int) = 92 := by simpa using hc2
              have := HDEC.out x hx
              omega)
          clear HI HTK HDEC
          go_wp2_with fail
          go_roundw
          case measure =>
            rw [HP0.out, iterPos_of hit2]
            omega
          case rel => exact ⟨pos + d, hit2, hb2, by omega, HN⟩
        · go_wp2_with fail
          go_ret
          exact ⟨_, rfl, hb2, fun h => by cases h⟩
      · go_wp2_with fail
        go_ret
        exact ⟨_, rfl, hb2, fun h => by cases h⟩
    · have hnx : ∀ ty, (Instr.next (.pointer (some ⟨w.heap.size, 0, none⟩)) true ty).run Try.prog wr = _ := fun ty => Lib.run_next_end_at wr w.heap.size (Pl.S l) pos ty hit hp
      have HE : Hid (∀ x ∈ l, x.toNat ≠ 44 ∧ x.toNat ≠ 92) := Lib.hid (by
        have h1 := HI.out
        have hs := HS.out
        rwa [List.take_of_length_le (by omega)] at h1)
      go_wp2_with fail
      go_ret
      exact ⟨_, rfl, hb, fun _ => HE.out⟩

theorem quoted_take (rs : List Int) (k : Nat) (c : Int) (h : rs[k]? = some c) : Pl.quoted (rs.take (k + 1)) = Pl.quoted (rs.take k) ++ ((if Pl.special c then [92] else []) ++ Pl.rune c) := by
  obtain ⟨hk, hx⟩ := List.getElem?_eq_some_iff.1 h
  rw [List.take_succ_eq_append_getElem hk, hx]
  simp [Pl.quoted]
theorem quoted_le (rs : List Int) (k : Nat) : (Pl.quoted (rs.take k)).length ≤ (Pl.quoted rs).length := by
  have e : Pl.quoted rs = Pl.quoted (rs.take k) ++ Pl.quoted (rs.drop k) := by
    unfold Pl.quoted
    rw [← List.flatMap_append, List.take_append_drop]
  rw [e, List.length_append]
  omega

set_option maxHeartbeats 4000000 in
theorem quote_any (l : List UInt8) (rs : List Int) (w : World) (hl : l.length ≤ 1048576) (he : l = rs.flatMap Pl.rune) (hf : ∀ c ∈ rs, Pl.fine c) (hq : (Pl.quoted rs).length ≤ 1099511627776) :
    Calls Try.prog 11 #[.string (Pl.S l)] w fun e w' => e = .returned (.string (Pl.S (Pl.quoted rs))) ∧ Below w.heap.size w w' := by
  have hsz : (Pl.S l).size = l.length := Pl.S_size l
  have hsz' : (Pl.S l).size ≤ 1048576 := by omega
  have HS := Lib.hid hsz
  have HE := Lib.hid he
  have HF := Lib.hid hf
  clear hsz he hf
  go_enter Try.func11, Try.ntmps11
  go_wp2_with fail
  go_loopw [3] (fun s wr => ∃ pos k : Nat, s = .string (Pl.S (Pl.quoted (rs.take k))) ∧ wr.heap[w.heap.size]? = some (.stringIter (Pl.S l) pos) ∧ Below w.heap.size w wr ∧ pos ≤ l.length ∧ k ≤ rs.length ∧ Hid (l.drop pos = (rs.drop k).flatMap Pl.rune)) (fun _ wr => (Pl.S l).size - wr.iterPos w.heap.size)
  case atStart =>
    refine ⟨0, 0, rfl, ?_, (Below.refl _ _).alloc (Nat.le_refl _) _, by simp, by simp, Lib.hid (by simpa using HE.out)⟩
    have := World.iter_heap w (Pl.S l) 0
    simpa using this
  case round =>
    obtain ⟨pos, k, rfl, hit, hb, hpl, hkl, HI⟩ := hrel
    have hks : w.heap.size < wr.heap.size := (Array.getElem?_eq_some_iff.1 hit).1
    have hs1 : (Pl.S (Pl.quoted (rs.take k))).size ≤ 1099511627776 := by rw [Pl.S_size]; have := quoted_le rs k; omega
    by_cases hp : pos < (Pl.S l).size
    · have hnx : ∀ ty, (Instr.next (.pointer (some ⟨w.heap.size, 0, none⟩)) true ty).run Try.prog wr = _ := fun ty => Lib.run_next_any_at wr w.heap.size (Pl.S l) pos ty hit hp
      have hit2 := Lib.iterAt_heap wr w.heap.size (Pl.S l) pos (pos + (Utf8.decode (Pl.S l) pos).2) hit
      have hb2 := Lib.below_iterAt hb (k := w.heap.size) (Nat.le_refl _) (Pl.S l) (pos + (Utf8.decode (Pl.S l) pos).2)
      have hsw : w.heap.size < (wr.iterAt w.heap.size (Pl.S l) (pos + (Utf8.decode (Pl.S l) pos).2)).heap.size := by rw [Lib.iterAt_size]; exact hks
      have hpl' : pos < l.length := by have := HS.out; omega
      have hde : Utf8.decode (Pl.S l) pos = Lib.decodeL (l.drop pos) := by rw [← Lib.decodeL_drop]; simp [Pl.S]
      have hkk : k < rs.length := by
        rcases Nat.lt_or_ge k rs.length with h | h
        · exact h
        · have := HI.out
          rw [List.drop_eq_nil_of_le h] at this
          have := congrArg List.length this
          simp at this
          omega
      obtain ⟨c, hc⟩ : ∃ c, rs[k]? = some c := ⟨_, List.getElem?_eq_getElem hkk⟩
      have hfc : Pl.fine c := HF.out c (List.mem_of_getElem? hc)
      have hdr : l.drop pos = Pl.rune c ++ (rs.drop (k + 1)).flatMap Pl.rune := by
        rw [HI.out, List.drop_eq_getElem_cons hkk]
        rw [List.getElem?_eq_getElem hkk] at hc
        rw [Option.some.inj hc]
        simp
      have hdd : Lib.decodeL (l.drop pos) = (c.toNat, (Pl.rune c).length) := by rw [hdr]; exact Pl.decode_rune c hfc _
      have hcc : ((c.toNat : Nat) : Int) = c := by have := hfc.1; omega
      have HN : Hid (l.drop (pos + (Pl.rune c).length) = (rs.drop (k + 1)).flatMap Pl.rune) := Lib.hid (by
        rw [← List.drop_drop, hdr, List.drop_left])
      have hlr : pos + (Pl.rune c).length ≤ l.length := by
        have := congrArg List.length hdr
        simp only [List.length_append, List.length_drop] at this
        omega
      have hrp := Pl.rune_pos c
      rw [hde, hdd] at hnx hit2 hb2 hsw
      simp only [hcc] at hnx hit2 hb2 hsw
      have HQ := Lib.hid (quoted_take rs k c hc)
      have HP0 : Hid (wr.iterPos w.heap.size = pos) := Lib.hid (iterPos_of hit)
      have hcl := encode_size_le c
      have hcv := conv_new c
      clear hde hdr hdd hb hit hc hcc HI hfc
      cases hsp : Pl.special c
      · rw [hsp] at HQ
        go_wp2_with (go_at_call 17; refine (special_any _ _).mono ?_; rintro e w1 ⟨rfl, rfl⟩)
        go_roundw
        case measure =>
          rw [HP0.out, iterPos_of ((Below.heap_alloc _ _ _ hsw).trans hit2)]
          omega
        case rel => exact ⟨_, k + 1, str_eq (by rw [HQ.out]; simp [← Pl.S_rune, Pl.S_add]), (Below.heap_alloc _ _ _ hsw).trans hit2, hb2.alloc (by omega) _, hlr, hkk, HN⟩
      · rw [hsp] at HQ
        go_wp2_with (go_at_call 17; refine (special_any _ _).mono ?_; rintro e w1 ⟨rfl, rfl⟩)
        go_roundw
        case measure =>
          rw [HP0.out, iterPos_of ((Below.heap_alloc _ _ _ hsw).trans hit2)]
          omega
        case rel => exact ⟨_, k + 1, str_eq (by rw [HQ.out]; simp [← Pl.S_rune, Pl.lit1, Pl.S_add]), (Below.heap_alloc _ _ _ hsw).trans hit2, hb2.alloc (by omega) _, hlr, hkk, HN⟩
    · have hnx : ∀ ty, (Instr.next (.pointer (some ⟨w.heap.size, 0, none⟩)) true ty).run Try.prog wr = _ := fun ty => Lib.run_next_end_at wr w.heap.size (Pl.S l) pos ty hit hp
      have hke : Hid (rs.take k = rs) := Lib.hid (by
        rcases Nat.lt_or_ge k rs.length with h | h
        · have h1 := HI.out
          have hs := HS.out
          rw [List.drop_eq_nil_of_le (by omega), List.drop_eq_getElem_cons h] at h1
          have h2 := congrArg List.length h1
          have := Pl.rune_pos rs[k]
          simp only [List.length_nil, List.flatMap_cons, List.length_append] at h2
          omega
        · exact List.take_of_length_le h)
      go_wp2_with fail
      go_ret
      exact ⟨by rw [hke.out]; rfl, hb⟩

def FirstPost (ps : List Pl.Part) (w : World) (e : Ending) (w' : World) : Prop := ∃ b : Bool, e = .returned (.bool b) ∧ Below w.heap.size w w' ∧ (b = true → ∀ p, ps[0]? = some p → p.any = true ∨ ∃ t ∈ p.terms, t.kind ≠ 0)

set_option maxHeartbeats 4000000 in
theorem first_any (n : Nat) (gv : Value) (ps : List Pl.Part) (w : World) (hg : Rd.GlobV w w.heap.size n gv ps) (h0 : 0 < ps.length) :
    Calls Try.prog 7 #[gv] w (FirstPost ps w) := by
  obtain ⟨vs, rfl, hv⟩ := hg
  obtain ⟨A, cap, rfl, hm, hx⟩ := hv.form
  obtain ⟨⟨any, l⟩, hp⟩ : ∃ p, ps[0]? = some p := ⟨_, List.getElem?_eq_getElem h0⟩
  obtain ⟨b, off, rfl, hbl, v, hc0, hc1, hl⟩ := hx 0 _ hp
  simp only [Nat.zero_mul, Nat.add_zero] at hc0 hc1 hl
  have HP := Lib.hid hp
  obtain ⟨A1, cap1, rfl, hm1, hx1⟩ := hl.form
  have HX := Lib.hid hx1
  clear hx hv hp hl hx1
  cases any
  · go_enter Try.func7, Try.ntmps7
    go_wp2_with fail
    go_loopw [15] (fun i wr => ∃ q : Nat, q ≤ l.length ∧ i = .int .i64 q ∧ Below w.heap.size w wr) (fun i _ => l.length - (intOf i).toNat)
    case atStart => exact ⟨0, by simp, rfl, ((Below.refl _ _).alloc (Nat.le_refl _) _).alloc (by simp) _⟩
    case round =>
      obtain ⟨q, hq, rfl, hb⟩ := hrel
      by_cases hlt : q < l.length
      · obtain ⟨t, hxq⟩ : ∃ x, l[q]? = some x := ⟨_, List.getElem?_eq_getElem hlt⟩
        have HM : Hid (t ∈ l) := Lib.hid (List.mem_of_getElem? hxq)
        obtain ⟨b1, off1, rfl, hbl1, hta⟩ := HX.out q _ hxq
        cases n with
        | zero => exact hta.elim
        | succ n =>
        obtain ⟨vo, va, hc, hr⟩ := hta
        have hsz := hb.size
        have ht := (Rd.Cells.keep (fun _ hp => hb.cell hp) hbl1 hc)
        obtain ⟨A2, cap2, rfl, _, _⟩ := hr.1.form
        obtain ⟨A3, cap3, rfl, _, _⟩ := hr.2.form
        clear hc hr HX hxq
        obtain ⟨k, c, esc, neg, mark, cls, alts⟩ := t
        obtain ⟨h0, h1, h2, h3, h4, h5, h6⟩ := ht
        simp only [Pl.Term.kind, Pl.Term.char, Pl.Term.esc, Pl.Term.neg, Pl.Term.mark, Pl.Term.cls, Pl.Term.alts] at h0 h1 h2 h3 h4 h5 h6
        have hbl' : b1 < wr.heap.size := by omega
        by_cases hk0 : k = 0
        · subst hk0
          go_wp2_with fail
          go_roundw
          case measure => simp [intOf]; omega
          case rel => exact ⟨_, hlt, by go_num, hb.alloc hsz _⟩
        · have d0 : (k != 0) = true := bne_iff_ne.2 hk0
          have HK := Lib.hid hk0
          clear hk0
          go_wp2_with fail
          go_ret
          refine ⟨_, rfl, hb.alloc hsz _, fun _ p hp => ?_⟩
          rw [HP.out] at hp
          obtain rfl := Option.some.inj hp
          exact .inr ⟨_, HM.out, HK.out⟩
      · go_wp2_with fail
        go_ret
        exact ⟨_, rfl, hb, fun h => by cases h⟩
  · go_enter Try.func7, Try.ntmps7
    go_wp2_with fail
    go_ret
    refine ⟨_, rfl, ((Below.refl _ _).alloc (Nat.le_refl _) _).alloc (by simp) _, fun _ p hp => ?_⟩
    rw [HP.out] at hp
    obtain rfl := Option.some.inj hp
    exact .inl rfl
end Go.Proofs.Ythkbkiigpflonaa
