/-
  The match of a name by the text of pieces, piece by piece, to its end. No program in sight.
-/
import Derived.Test.YthkbkiigpflonaaDoorTotal
namespace Go.Proofs.YthkbkiigpflonaaDoor
namespace Pl

theorem dec47 (b : UInt8) (t : List UInt8) (h : (dec (b :: t)).1 = 47) : b.toNat = 47 := by
  have hp := dec_pos (b :: t) (by simp)
  unfold dec at h hp
  rw [if_neg (by simp)] at h hp
  have := decoded (b :: t) (by simp) (.inr (by rw [h]; rfl))
  rw [h] at this
  obtain ⟨d, hd⟩ : ∃ d, (Lib.decodeL (b :: t)).2 = d + 1 := ⟨(Lib.decodeL (b :: t)).2 - 1, by omega⟩
  rw [hd, List.take_succ_cons] at this
  have e : rune (47 : Nat) = [47] := by decide
  rw [e] at this
  simp only [List.cons.injEq] at this
  rw [← this.1]
  rfl

theorem step_cons {pat name : List UInt8} {s : St} {c : UInt8} {t : List UInt8} (hz : ¬ name.length ≤ s.ni) (hd : pat.drop s.pi = c :: t) : step pat name s =
    if c.toNat = 42 then
        (if t.head? = some 42 then
          (if s.sos = true then
            (if t.drop 1 = [] then .ret true
            else if (dec (t.drop 1)).1 = 47 then .next ⟨s.pi + 2 + (dec (t.drop 1)).2, s.ni, true, some (s.pi + 2 + (dec (t.drop 1)).2, s.ni), none⟩
            else .next ⟨s.pi + 2, s.ni, false, s.ds, some (s.pi + 2, s.ni)⟩)
          else .next ⟨s.pi + 2, s.ni, false, s.ds, some (s.pi + 2, s.ni)⟩)
        else .next ⟨s.pi + 1, s.ni, false, s.ds, some (s.pi + 1, s.ni)⟩)
      else if c.toNat = 63 then
        (if (dec (name.drop s.ni)).1 = 47 then .back s.pi else .next ⟨s.pi + 1, s.ni + (dec (name.drop s.ni)).2, false, s.ds, s.st⟩)
      else if c.toNat = 91 then
        (if t = [] ∨ t.head? = some 33 ∨ t.head? = some 94 ∨ t.head? = some 93 then .bad
        else match clsF (t.length + 1) t 1114111 (dec (name.drop s.ni)).1 (s.pi + 1) with
          | none => .bad
          | some (false, p) => if pat.length ≤ p then .bad else .back p
          | some (true, p) => match closerM (pat.drop p) false 0 with
            | none => .bad
            | some j => .next ⟨p + (j + 1), s.ni + (dec (name.drop s.ni)).2, false, s.ds, s.st⟩)
      else if c.toNat = 123 then .alts
      else if c.toNat = 92 then
        (if t = [] then .bad
        else if (dec t).1 = (dec (name.drop s.ni)).1 then .next ⟨s.pi + 1 + (dec t).2, s.ni + (dec (name.drop s.ni)).2, decide ((dec t).1 = 47), s.ds, s.st⟩
        else .back s.pi)
      else if (dec (c :: t)).1 = (dec (name.drop s.ni)).1 then .next ⟨s.pi + (dec (c :: t)).2, s.ni + (dec (name.drop s.ni)).2, decide ((dec (c :: t)).1 = 47), s.ds, s.st⟩
      else .back (if 0 < s.pi ∧ pat[s.pi - 1]? = some 92 then s.pi - 1 else s.pi) := by
  unfold step
  rw [if_neg hz, hd]
  rfl
theorem step_nil {pat name : List UInt8} {s : St} (hz : ¬ name.length ≤ s.ni) (hd : pat.drop s.pi = []) : step pat name s = .back s.pi := by
  unfold step
  rw [if_neg hz, hd]

theorem tok_pos {x : Tok} (h : x.ok = true) : 0 < x.text.length := by
  obtain ⟨b, t, e, _⟩ := form_head (form x h)
  rw [e]
  simp
theorem at_prefix {a r r' : List Tok} {p : Nat} (hok : okL (a ++ r) = true) (h : At (a ++ r) p) (hp : p ≤ (txt a).length) : At (a ++ r') p := by
  obtain ⟨b, c, e, rfl⟩ := h
  rcases List.append_eq_append_iff.1 e with ⟨a', h1, h2⟩ | ⟨c', h1, h2⟩
  · subst h1
    cases a' with
    | nil => exact ⟨a, r', rfl, by simp⟩
    | cons y ys =>
      rw [h2, okL_append, List.cons_append, okL_cons] at hok
      simp only [Bool.and_eq_true] at hok
      have := tok_pos hok.2.1
      rw [txt_append, txt, List.length_append, List.length_append] at hp
      omega
  · exact ⟨b, c' ++ r', by rw [h1, List.append_assoc], rfl⟩

theorem Inv.adv {ts : List Tok} {name : List UInt8} {s : St} (h : Inv ts name s) {p ni : Nat} {sos : Bool} (hp : At ts p) (hle : s.pi ≤ p) : Inv ts name ⟨p, ni, sos, s.ds, s.st⟩ :=
  ⟨hp, fun dp dn e => ⟨(h.ds dp dn e).1, Nat.le_trans (h.ds dp dn e).2.1 hle, (h.ds dp dn e).2.2⟩, fun sp sn e => ⟨(h.st sp sn e).1, (h.st sp sn e).2.imp id fun g => ⟨g.1, Nat.le_trans g.2.1 hle, g.2.2⟩⟩⟩
theorem Inv.star {ts : List Tok} {name : List UInt8} {s : St} (h : Inv ts name s) {p : Nat} {sos : Bool} (hp : At ts p) (hle : s.pi ≤ p) (hn : s.ni ≤ name.length) : Inv ts name ⟨p, s.ni, sos, s.ds, some (p, s.ni)⟩ := by
  refine ⟨hp, fun dp dn e => ⟨(h.ds dp dn e).1, Nat.le_trans (h.ds dp dn e).2.1 hle, (h.ds dp dn e).2.2⟩, fun sp sn e => ?_⟩
  simp only [Option.some.injEq, Prod.mk.injEq] at e
  obtain ⟨rfl, rfl⟩ := e
  exact ⟨hn, .inr ⟨hp, Nat.le_refl _, fun dp dn e => Nat.le_trans (h.ds dp dn e).2.1 hle⟩⟩
theorem Inv.dirs {ts : List Tok} {name : List UInt8} {p ni : Nat} {sos : Bool} (hp : At ts p) (hn : ni ≤ name.length) : Inv ts name ⟨p, ni, sos, some (p, ni), none⟩ := by
  refine ⟨hp, fun dp dn e => ?_, fun sp sn e => by cases e⟩
  simp only [Option.some.injEq, Prod.mk.injEq] at e
  obtain ⟨rfl, rfl⟩ := e
  exact ⟨hp, Nat.le_refl _, hn⟩
theorem Inv.alt {a r r' : List Tok} {name : List UInt8} {s : St} {sos : Bool} (hok : okL (a ++ r) = true) (hp : s.pi = (txt a).length) (h : Inv (a ++ r) name s) : Inv (a ++ r') name ⟨s.pi, s.ni, sos, s.ds, s.st⟩ :=
  ⟨⟨a, r', rfl, hp⟩, fun dp dn e => ⟨at_prefix hok (h.ds dp dn e).1 (hp ▸ (h.ds dp dn e).2.1), (h.ds dp dn e).2⟩, fun sp sn e => ⟨(h.st sp sn e).1, (h.st sp sn e).2.imp id fun g => ⟨at_prefix hok g.1 (hp ▸ g.2.1), g.2⟩⟩⟩

theorem valid_plain (b : UInt8) (r : List UInt8) (h1 : b.toNat ≠ 92) (h2 : b.toNat ≠ 91) (h3 : b.toNat ≠ 123) (h4 : b.toNat ≠ 125) : validM (92 :: b :: r) 0 0 = validM (b :: r) 0 0 := by
  simp [validM, h1, h2, h3, h4]

/-- A match by pieces comes to its end. -/
theorem tot (v : Bool) (name : List UInt8) : ∀ (n : Nat) (ts : List Tok) (s : St), brs ts ≤ n → okL ts = true → Inv ts name s → Tot v (txt ts) name s := by
  intro n
  induction n using Nat.strongRecOn with
  | _ n IH =>
  intro ts s hn hok
  induction s using (nearer_wf (txt ts).length name.length).induction with
  | _ s again0 =>
  intro hI
  have again : ∀ s', Nearer (txt ts).length name.length s' s → Inv ts name s' → Tot v (txt ts) name s' := fun s' h1 h2 => again0 s' h1 h2
  clear again0
  by_cases hz : name.length ≤ s.ni
  · exact tot_zero hok hI.pi hz
  obtain ⟨a, r, hts, hp⟩ := hI.pi
  have hd : (txt ts).drop s.pi = txt r := by rw [hts, hp, txt_append, List.drop_left]
  have hat : ∀ b c, r = b ++ c → At ts (s.pi + (txt b).length) := fun b c e => ⟨a ++ b, c, by rw [hts, e, List.append_assoc], by rw [txt_append, List.length_append, hp]⟩
  have hokr : okL r = true := by
    rw [hts, okL_append, Bool.and_eq_true] at hok
    exact hok.2
  have hvd := valid_txt r hokr
  cases r with
  | nil => exact tot_back hok hI (step_nil hz hd) (by rw [hd]; rfl) again
  | cons x r =>
    have hx1 : At ts (s.pi + x.text.length) := by
      have := hat [x] r rfl
      rwa [txt, txt, List.append_nil] at this
    have hxl := hx1.le
    have hxp : 0 < x.text.length := by
      rw [okL_cons, Bool.and_eq_true] at hokr
      exact tok_pos hokr.1
    have hokx := hokr
    rw [okL_cons, Bool.and_eq_true] at hokx
    have hvb : validM ((txt ts).drop s.pi) 0 0 = true := by rw [hd]; exact hvd
    rw [txt] at hd
    cases form x hokx.1 with
    | star h =>
      rw [h] at hd hx1 hxl
      rw [List.singleton_append] at hd
      simp only [List.length_singleton] at hx1 hxl
      by_cases h2 : (txt r).head? = some 42
      · cases r with
        | nil => simp [txt] at h2
        | cons y r =>
          rw [okL_cons, Bool.and_eq_true] at hokx
          obtain ⟨b, t, hy, hy42, _, _⟩ := form_head (form y hokx.2.1)
          have hb : b = 42 := by
            rw [txt, hy] at h2
            simpa using h2
          have hy2 := hy42 (by rw [hb]; rfl)
          have hat2 : At ts (s.pi + 2) := by
            have := hat [x, y] r rfl
            rwa [txt, txt, txt, h, hy2] at this
          have hle2 := hat2.le
          have hdr : (txt (y :: r)).drop 1 = txt r := by rw [txt, hy2]; rfl
          have hstar : step (txt ts) name s = .next ⟨s.pi + 2, s.ni, false, s.ds, some (s.pi + 2, s.ni)⟩ → Tot v (txt ts) name s := fun hs => tot_next hs (again _ (near_star (by omega) hle2) (hI.star hat2 (by omega) (by omega)))
          have hs := step_cons hz hd
          rw [if_pos (by decide), if_pos h2, hdr] at hs
          cases hso : s.sos with
          | false =>
            rw [hso, if_neg (by decide)] at hs
            exact hstar hs
          | true =>
            rw [hso, if_pos rfl] at hs
            by_cases h0 : txt r = []
            · rw [if_pos h0] at hs
              exact tot_ret hs
            rw [if_neg h0] at hs
            by_cases h47 : (dec (txt r)).1 = 47
            · rw [if_pos h47] at hs
              cases r with
              | nil => exact absurd rfl h0
              | cons z r =>
                rw [okL_cons, Bool.and_eq_true] at hokx
                obtain ⟨b3, t3, hz3, _, hz47, _⟩ := form_head (form z hokx.2.2.1)
                have hz2 := hz47 (dec47 b3 (t3 ++ txt r) (by rw [← h47, txt, hz3]; rfl))
                have hd2 : (dec (txt (z :: r))).2 = 1 := by
                  rw [txt, hz2, List.singleton_append, dec_ascii 47 _ (by decide)]
                have hat3 : At ts (s.pi + 2 + 1) := by
                  have := hat [x, y, z] r rfl
                  rwa [txt, txt, txt, txt, h, hy2, hz2] at this
                rw [hd2] at hs
                exact tot_next hs (again _ (near_dirs (by omega) hat3.le fun dp dn e => (hI.ds dp dn e).2.1) (Inv.dirs hat3 (by omega)))
            · rw [if_neg h47] at hs
              exact hstar hs
      · have hs := step_cons hz hd
        rw [if_pos (by decide), if_neg h2] at hs
        exact tot_next hs (again _ (near_star (by omega) hxl) (hI.star hx1 (by omega) (by omega)))
    | one h =>
      rw [h] at hd hx1 hxl
      rw [List.singleton_append] at hd
      simp only [List.length_singleton] at hx1 hxl
      have hs := step_cons hz hd
      rw [if_neg (by decide), if_pos (by decide)] at hs
      by_cases h47 : (dec (name.drop s.ni)).1 = 47
      · rw [if_pos h47] at hs
        exact tot_back hok hI hs hvb again
      · rw [if_neg h47] at hs
        exact tot_next hs (again _ (near_adv (by omega) hxl) (hI.adv hx1 (by omega)))
    | lit c hf hn h =>
      obtain ⟨b, t, hr, _⟩ := rune_tail hf
      have hb : b ∈ rune c := by rw [hr]; simp
      have n1 := rune_ne hf 42 (by omega) (by omega) b hb
      have n2 := rune_ne hf 63 (by omega) (by omega) b hb
      have n3 := rune_ne hf 91 (by omega) (by omega) b hb
      have n4 := rune_ne hf 123 (by omega) (by omega) b hb
      have n5 := rune_ne hf 92 (by omega) (by omega) b hb
      have n6 := rune_ne hf 125 (by omega) (by omega) b hb
      have hdec := dec_rune c hf (txt r)
      rw [h] at hd hx1 hxl hxp
      have hd' := hd
      rw [hr, List.cons_append] at hd' hdec
      have hs := step_cons hz hd'
      rw [if_neg n1, if_neg n2, if_neg n3, if_neg n4, if_neg n5, hdec] at hs
      dsimp only at hs
      rw [← hr] at hs
      by_cases he : c.toNat = (dec (name.drop s.ni)).1
      · rw [if_pos he] at hs
        exact tot_next hs (again _ (near_adv (by omega) hxl) (hI.adv hx1 (by omega)))
      · rw [if_neg he] at hs
        refine tot_back hok hI hs ?_ again
        split
        · rename_i hg
          have := drop_cons (txt ts) (s.pi - 1) 92 hg.2
          rw [show s.pi - 1 + 1 = s.pi by omega] at this
          rw [this, hd', valid_plain b _ n5 n3 n4 n6, ← hd']
          exact hvb
        · exact hvb
    | esc c hf h =>
      rw [h] at hd hx1 hxl
      rw [List.cons_append] at hd
      have hdec := dec_rune c hf (txt r)
      have hs := step_cons hz hd
      have hne : ¬ (rune c ++ txt r = []) := by
        intro e
        have := rune_pos c
        rw [(List.append_eq_nil_iff.1 e).1] at this
        simp at this
      rw [if_neg (by decide), if_neg (by decide), if_neg (by decide), if_neg (by decide), if_pos (by decide), if_neg hne, hdec] at hs
      dsimp only at hs
      have hln : s.pi + 1 + (rune c).length = s.pi + (92 :: rune c).length := by simp; omega
      by_cases he : c.toNat = (dec (name.drop s.ni)).1
      · rw [if_pos he, hln] at hs
        exact tot_next hs (again _ (near_adv (by simp) hxl) (hI.adv hx1 (by omega)))
      · rw [if_neg he] at hs
        exact tot_back hok hI hs hvb again
    | cls top mark of ho h =>
      obtain ⟨y, yt, hy, g1, g2, g3⟩ := items_first (top := top) (mark := mark) ho
      rw [h] at hd hx1 hxl
      have hd' : (txt ts).drop s.pi = 91 :: (items top mark true of ++ 93 :: txt r) := by
        rw [hd]
        simp
      obtain ⟨m, q, c1, c2, c3, c4⟩ := cls_law top mark (dec (name.drop s.ni)).1 (txt r) of true 1114111 ((items top mark true of ++ 93 :: txt r).length + 1) (s.pi + 1) (cls_letters ho).2 (by simp; omega)
      have hdq : (txt ts).drop (s.pi + 1 + q) = (items top mark true of ++ 93 :: txt r).drop q := by
        rw [Nat.add_assoc, ← List.drop_drop, hd', Nat.add_comm 1 q, List.drop_succ_cons]
      have hs := step_cons hz hd'
      have hhead : (items top mark true of ++ 93 :: txt r).head? = some y := by rw [hy]; rfl
      have hnb : ¬ (items top mark true of ++ 93 :: txt r = [] ∨ (items top mark true of ++ 93 :: txt r).head? = some 33 ∨ (items top mark true of ++ 93 :: txt r).head? = some 94 ∨ (items top mark true of ++ 93 :: txt r).head? = some 93) := by
        rw [hhead]
        simp only [Option.some.injEq]
        intro e
        rcases e with e | e | e | e
        · simp at e
        · exact g3 (by rw [e]; rfl)
        · exact g2 (by rw [e]; rfl)
        · exact g1 (by rw [e]; rfl)
      rw [if_neg (by decide), if_neg (by decide), if_pos (by decide), if_neg hnb, c1] at hs
      simp only [List.length_cons, List.length_append, List.length_nil] at hx1 hxl
      cases m with
      | false =>
        simp only at hs
        have := c3 rfl
        rw [if_neg (by omega)] at hs
        refine tot_back hok hI hs ?_ again
        rw [hdq, this, List.drop_left, validM]
        have hv := valid_tok (form x hokx.1) (txt r) 0
        rw [← hv]
        simpa [txt] using hvd
      | true =>
        simp only at hs
        rw [hdq, c4] at hs
        simp only at hs
        have e : s.pi + 1 + q + ((items top mark true of).length - q + 1) = s.pi + ((items top mark true of).length + (0 + 1) + 1) := by omega
        rw [e] at hs
        exact tot_next hs (again _ (near_adv (by simp) hxl) (hI.adv hx1 (by omega)))
    | alt alts h0 hw hna hb h =>
      rw [h] at hd
      have hd' : (txt ts).drop s.pi = 123 :: (altsT true alts ++ 125 :: txt r) := by
        rw [hd]
        simp
      have hs := step_cons hz hd'
      rw [if_neg (by decide), if_neg (by decide), if_neg (by decide), if_pos (by decide)] at hs
      have hd1 : (txt ts).drop (s.pi + 1) = altsT true alts ++ 125 :: txt r := by
        rw [← List.drop_drop, hd']
        rfl
      have hd2 : (txt ts).drop (s.pi + 1 + ((altsT true alts).length + 1)) = txt r := by
        rw [← List.drop_drop, hd1, List.drop_append]
        simp
      have htk : (txt ts).take s.pi = txt a := by rw [hts, txt_append, hp, List.take_left]
      subst hts
      obtain ⟨K, b, hK⟩ := altsF_tot v (txt a) (txt r) name s alts h0 hw (fun z hz' => by
        obtain ⟨h1, h2⟩ := alt_ok (r := r) hw hna hb hz'
        have hok2 : okL (a ++ (z.map Tok.tm ++ r)) = true := by
          rw [okL_append, Bool.and_eq_true] at hok
          rw [okL_append, okL_append, hok.1, h1, hokx.2]
          rfl
        have := IH (brs (a ++ (z.map Tok.tm ++ r))) (by rw [brs_append] at hn ⊢; omega) (a ++ (z.map Tok.tm ++ r)) ⟨s.pi, s.ni, sos0 (txt a) s.pi, s.ds, s.st⟩ (Nat.le_refl _) hok2 (hI.alt hok hp)
        rwa [txt_append, txt_append, txt_terms] at this)
      refine ⟨K + 1, b, fun k hk => ?_⟩
      obtain ⟨k', rfl⟩ : ∃ k', k = k' + 1 := ⟨k - 1, by omega⟩
      rw [matchF, hs]
      dsimp only
      rw [hd1, close_alts alts hw]
      dsimp only
      rw [htk, List.take_left, hd2]
      exact hK k' (by omega)
end Pl
end Go.Proofs.YthkbkiigpflonaaDoor
