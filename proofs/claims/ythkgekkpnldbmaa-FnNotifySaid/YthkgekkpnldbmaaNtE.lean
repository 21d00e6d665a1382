/- Notices: one is made, compared. -/
import Derived.Test.YthkgekkpnldbmaaNtD
set_option linter.unusedVariables false
set_option linter.unusedSimpArgs false
set_option maxRecDepth 100000
namespace Go.Proofs.Ythkgekkpnldbmaa
open Go Go.Den Go.Proofs


def pfx : ByteArray := ⟨#[112, 114, 101, 102, 105, 120]⟩
def sfx : ByteArray := ⟨#[115, 117, 102, 102, 105, 120]⟩
def rls (p s : List ByteArray) : List Rule := p.map (fun x => (pfx, x)) ++ s.map (fun x => (sfx, x))
/-- What noticeOf leaves. -/
def NoR (a b c d e : List UInt8) (ev : List ByteArray) (rl : List Rule) (h : List Blk) (v : DV) (h' : List Blk) : Prop :=
  ∃ f evd rd, v = cfgD a b c d e evd (.ptr f 0 0 1) ∧ HPre h h' ∧ h'[f]? = some (.cells 1 [.agg [rd]]) ∧ SlS 1 h' evd (strs ev) ∧ SlS 2 h' rd (rlD rl) ∧ h.length ≤ f ∧ (∀ i, inBlk evd i → h.length ≤ i) ∧ ∀ i, inBlk rd i → h.length ≤ i
theorem ok25 {G : Nat → DV} (hG : GZ G) (h : List Blk) (k : Int) (a b c d e : List UInt8) (ev p s : List ByteArray) (he : ev.length ≤ 1000) (hp : p.length ≤ 1) (hs : s.length ≤ 1) :
    OkR Try.prog G 25 [ntD k a b c d e ev p s] h (NoR a b c d e ev (rls p s) h) := by
  refine OkR_by Try.func25 c25_ok r25_ok 36 rfl ?_
  simp [c25, r25, ntD]
  refine FF_by (ok38 _ a b c d e) ?_
  simp
  have hp0 : HPre h (h ++ [Blk.cells 9 [ntD k a b c d e ev p s], .cells 8 [.agg [.p (.string ⟨#[]⟩), .p (.string ⟨#[]⟩), .p (.string ⟨#[]⟩), .p (.string ⟨#[]⟩), .p (.string ⟨#[]⟩), .p (.string ⟨#[]⟩), .p (.slice none 0 0), .p (.pointer none)]]]) := HPre.append _ _
  have hb0 : (h ++ [Blk.cells 9 [ntD k a b c d e ev p s], .cells 8 [.agg [.p (.string ⟨#[]⟩), .p (.string ⟨#[]⟩), .p (.string ⟨#[]⟩), .p (.string ⟨#[]⟩), .p (.string ⟨#[]⟩), .p (.string ⟨#[]⟩), .p (.slice none 0 0), .p (.pointer none)]]])[h.length]? = some (Blk.cells 9 [ntD k a b c d e ev p s]) := by simp
  have hr0 : (h ++ [Blk.cells 9 [ntD k a b c d e ev p s], .cells 8 [.agg [.p (.string ⟨#[]⟩), .p (.string ⟨#[]⟩), .p (.string ⟨#[]⟩), .p (.string ⟨#[]⟩), .p (.string ⟨#[]⟩), .p (.string ⟨#[]⟩), .p (.slice none 0 0), .p (.pointer none)]]])[h.length + 1]? = some (.cells 8 [.agg [.p (.string ⟨#[]⟩), .p (.string ⟨#[]⟩), .p (.string ⟨#[]⟩), .p (.string ⟨#[]⟩), .p (.string ⟨#[]⟩), .p (.string ⟨#[]⟩), .p (.slice none 0 0), .p (.pointer none)]]) := by simp
  have hl0 : (h ++ [Blk.cells 9 [ntD k a b c d e ev p s], .cells 8 [.agg [.p (.string ⟨#[]⟩), .p (.string ⟨#[]⟩), .p (.string ⟨#[]⟩), .p (.string ⟨#[]⟩), .p (.string ⟨#[]⟩), .p (.string ⟨#[]⟩), .p (.slice none 0 0), .p (.pointer none)]]]).length = h.length + 2 := by simp
  simp only [ntD] at hp0 hb0 hr0 hl0
  generalize h ++ [Blk.cells 9 [DV.agg [.p (.int .i64 k), .p (.string (S a)), .p (.string (S b)), .p (.string (S c)), .p (.string (S d)), .p (.string (S e)), .fz 1 (strs ev), .fz 1 (strs p), .fz 1 (strs s)]], .cells 8 [.agg [.p (.string ⟨#[]⟩), .p (.string ⟨#[]⟩), .p (.string ⟨#[]⟩), .p (.string ⟨#[]⟩), .p (.string ⟨#[]⟩), .p (.string ⟨#[]⟩), .p (.slice none 0 0), .p (.pointer none)]]] = h0 at *
  refine FF_byR (ok37 _ a b c d e) ?_
  rintro _ h1 ⟨f, rfl, hp1, hf1, hf2⟩
  have c0 : Cf h0 (h1 ++ [.cells 8 [cfgD a b c d e (.p (.slice none 0 0)) (.ptr f 0 0 1)]]) h1.length f a b c d e (.p (.slice none 0 0)) (.p (.slice none 0 0)) [] [] := by
    have hfl : f < h1.length := (List.getElem?_eq_some_iff.1 hf2).1
    exact ⟨hp1.trans (HPre.append _ _), hp1.length, hf1, by omega, by simp, get_pre hf2 _, .nil, .inl ⟨rfl, rfl⟩, fun i hi => hi.elim, fun i hi => hi.elim⟩
  have keep : ∀ {hh q f evd rd ev' rl}, Cf h0 hh q f a b c d e evd rd ev' rl → hh[h.length]? = some (Blk.cells 9 [DV.agg [.p (.int .i64 k), .p (.string (S a)), .p (.string (S b)), .p (.string (S c)), .p (.string (S d)), .p (.string (S e)), .fz 1 (strs ev), .fz 1 (strs p), .fz 1 (strs s)]]) := fun cc => cc.pre _ _ hb0
  have k0 := keep c0
  simp [cfgD] at k0
  simp [cfgD, k0]
  refine FF_by (ok40 _ ev he) ?_
  simp
  refine FF_byR (ok39 h0 _ h1.length f a b c d e _ ev [] c0 he) ?_
  rintro _ h2 ⟨rfl, evd, c1⟩
  have k1 := keep c1
  simp [k1]
  have hpl : (strs p).length = p.length := by simp
  refine VV_fam (fun x : Nat × List Blk × DV => ⟨fr 37 [(1, .ptr h.length 0 0 1), (2, .ptr (h.length + 1) 0 0 1), (3, .ptr h1.length 0 0 1), (17, .fz 1 (strs p)), (18, .p (.int .i64 p.length)), (19, .p (.int .i64 x.1))], x.2.1⟩)
    (fun x => x.1 ≤ p.length ∧ Cf h0 x.2.1 h1.length f a b c d e evd x.2.2 ev ((p.take x.1).map fun x => (pfx, x))) (fun x => p.length - x.1) (0, h2, _) ⟨by simp, by simpa using c1⟩ (Wk.fits (by simp)) ?_
  rintro ⟨i, h3, rd⟩ ⟨hi, c2⟩ B hb he' hr
  simp only at hi c2
  simp
  refine CC_by (fun hc => ?_) (fun hc => ?_)
  · have hc : i < p.length := by simpa using hc
    obtain rfl : i = 0 := by omega
    obtain ⟨x, rfl⟩ : ∃ x, p = [x] := by
      match p, hc, hp with
      | [x], _, _ => exact ⟨x, rfl⟩
    simp [strs]
    refine FF_byR (ok41 h0 h3 h1.length f a b c d e evd rd ev [] x (by simpa using c2) (by simp) (by simp)) ?_
    rintro _ h4 ⟨rfl, rd', c3⟩
    have hw : IntKind.i64.wrap 1 = 1 := rfl
    simp [hw]
    exact hb _ (1, h4, rd') (Wk.fits (by simp [strs])) ⟨by simp, by simpa [pfx] using c3⟩ (by simp)
  · obtain rfl : i = p.length := by simp at hc; omega
    rw [List.take_length] at c2
    clear hb hr
    simp
    refine he' _ _ ?_
    have k2 := keep c2
    simp [k2]
    refine VV_fam (fun x : Nat × List Blk × DV => ⟨fr 37 [(1, .ptr h.length 0 0 1), (2, .ptr (h.length + 1) 0 0 1), (3, .ptr h1.length 0 0 1), (27, .fz 1 (strs s)), (28, .p (.int .i64 s.length)), (29, .p (.int .i64 x.1))], x.2.1⟩)
      (fun x => x.1 ≤ s.length ∧ Cf h0 x.2.1 h1.length f a b c d e evd x.2.2 ev (rls p (s.take x.1))) (fun x => s.length - x.1) (0, h3, rd) ⟨by simp, by simpa [rls] using c2⟩ (Wk.fits (by simp)) ?_
    rintro ⟨i, h4, rd4⟩ ⟨hi, c4⟩ B2 hb2 he2 hr2
    simp only at hi c4
    simp
    refine CC_by (fun hc => ?_) (fun hc => ?_)
    · have hc : i < s.length := by simpa using hc
      obtain rfl : i = 0 := by omega
      obtain ⟨x, rfl⟩ : ∃ x, s = [x] := by
        match s, hc, hs with
        | [x], _, _ => exact ⟨x, rfl⟩
      simp [strs]
      refine FF_byR (ok42 h0 h4 h1.length f a b c d e evd rd4 ev (rls p []) x (by simpa using c4) (by simp [rls]; omega) ?_) ?_
      · intro r hr
        simp [rls] at hr
        obtain ⟨y, _, rfl⟩ := hr
        show pfx ≠ _
        decide
      rintro _ h5 ⟨rfl, rd', c5⟩
      have hw : IntKind.i64.wrap 1 = 1 := rfl
      simp [hw]
      exact hb2 _ (1, h5, rd') (Wk.fits (by simp [strs])) ⟨by simp, by simpa [rls, sfx] using c5⟩ (by simp)
    · obtain rfl : i = s.length := by simp at hc; omega
      rw [List.take_length] at c4
      simp
      refine he2 _ _ ?_
      have hq4 := c4.at_q
      have r4 := c4.pre _ _ hr0
      simp [cfgD] at hq4
      have hlt : h.length + 1 < h4.length := (List.getElem?_eq_some_iff.1 r4).1
      have hset : ∀ X, (h4.set (h.length + 1) X)[h.length + 1]? = some X := fun X => by simp [hlt]
      simp [hq4, r4, hset]
      have hne : ∀ X i, h0.length ≤ i → (h4.set (h.length + 1) X)[i]? = h4[i]? := fun X i hi => List.getElem?_set_ne (by omega)
      refine REr_by _ _ .refl ⟨f, evd, rd4, rfl, fun i x hx => ?_, ?_, c4.es.of fun i hi => hne _ _ (c4.en i hi).1, c4.rs.of fun i hi => hne _ _ (c4.rn i hi).1, by have := c4.fl; omega, fun i hi => by have := (c4.en i hi).1; omega, fun i hi => by have := (c4.rn i hi).1; omega⟩
      · have h1i : i < h.length := (List.getElem?_eq_some_iff.1 hx).1
        rw [List.getElem?_set_ne (by omega)]
        exact c4.pre _ _ (hp0 _ _ hx)
      · rw [hne _ _ c4.fl]
        exact c4.at_f
theorem ok57 {G : Nat → DV} (hG : GZ G) (h : List Blk) (q f : Nat) (a b c d e : List UInt8) (evd rd : DV) (ev evs p s : List ByteArray) (pre suf : ByteArray) (hq : h[q]? = some (.cells 8 [cfgD a b c d e evd (.ptr f 0 0 1)])) (hf : h[f]? = some (.cells 1 [.agg [rd]]))
    (he : SlS 1 h evd (strs ev)) (hr : SlS 2 h rd (rlD (rls p s))) (h1 : ev.length ≤ 1000) (h2 : evs.length ≤ 1000) (h3 : p.length ≤ 1) (h4 : s.length ≤ 1) (h5 : ∀ x ∈ p, x.size ≤ 100) (h6 : ∀ x ∈ s, x.size ≤ 100) (h7 : pre.size ≤ 100) (h8 : suf.size ≤ 100) :
    Ok Try.prog G 57 [.ptr q 0 0 1, .fz 1 (strs evs), .p (.string pre), .p (.string suf)] h (.p (.bool (evEq ev evs && evEq ((rls p s).map rlK) ((rls (if pre = ⟨#[]⟩ then [] else [pre]) (if suf = ⟨#[]⟩ then [] else [suf])).map rlK)))) h := by
  refine Ok_by Try.func57 c57_ok r57_ok 51 rfl ?_
  have hq' := hq
  unfold cfgD at hq'
  simp [c57, r57, hq', isNilD]
  refine FF_by (Ok.lend hG (ok58 hG [] ev evs (by simp [maxLen_eq]; omega) (by simp [maxLen_eq]; omega)) (.cons (SlS.frzR he strs_plain) (.cons (.fz strs_plain) .nil)) rfl) ?_
  have fin : ∀ (nl : List Rule) (d : DV) (hh : List Blk), Own h 2 hh d (rlD nl) → nl.length ≤ 2 → (∀ r ∈ nl, r.1.size ≤ 100 ∧ r.2.size ≤ 100) → Ok Try.prog G 59 [rd, d] hh (.p (.bool (evEq ((rls p s).map rlK) (nl.map rlK)))) hh := fun nl d hh ho hn hsz => by
    have hpre : HPre h hh := ho.pre
    have hr2 : SlS 2 hh rd (rlD (rls p s)) := hr.of fun i hi => by rw [hr.blk hi]; exact hpre _ _ (hr.blk hi)
    refine Ok.lend hG (ok59 hG [] (rls p s) nl (by simp [rls]; omega) (by omega) (fun r hr => ?_) (fun r hr => by have := hsz r hr; omega)) (.cons (SlS.frzR hr2 (rlD_plain _)) (.cons (ho.frzR (rlD_plain _)) .nil)) rfl
    simp [rls] at hr
    rcases hr with ⟨x, hx, rfl⟩ | ⟨x, hx, rfl⟩
    · exact ⟨by show pfx.size ≤ _; decide, by have := h5 x hx; show x.size ≤ _; omega⟩
    · exact ⟨by show sfx.size ≤ _; decide, by have := h6 x hx; show x.size ≤ _; omega⟩
  by_cases hpre : pre = ⟨#[]⟩
  · by_cases hsuf : suf = ⟨#[]⟩
    · simp [hpre, hsuf, hq', hf, isNilD]
      refine FF_by (fin [] _ _ .nil (by simp) (by simp)) ?_
      cases evEq ev evs <;> simp [rls]
    · simp [hpre, hsuf]
      refine AA_lit1 .nil (by simp) fun d' h' ho _ _ => ?_
      have o' : Own h 2 h' d' (rlD [(sfx, suf)]) := ho
      have g1 := ho.pre _ _ hq'
      have g2 := ho.pre _ _ hf
      simp [g1, g2, isNilD]
      refine FF_by (fin [(sfx, suf)] _ _ o' (by simp) (by simp; exact ⟨by decide, h8⟩)) ?_
      cases evEq ev evs <;> simp [rls] <;> exact WkV.ofPure o'.pre rfl
  · simp [hpre]
    refine AA_lit1 .nil (by simp) fun d' h' ho _ _ => ?_
    have o' : Own h 2 h' d' (rlD [(pfx, pre)]) := ho
    by_cases hsuf : suf = ⟨#[]⟩
    · have g1 := ho.pre _ _ hq'
      have g2 := ho.pre _ _ hf
      simp [hsuf, g1, g2, isNilD]
      refine FF_by (fin [(pfx, pre)] _ _ o' (by simp) (by simp; exact ⟨by decide, h7⟩)) ?_
      cases evEq ev evs <;> simp [rls] <;> exact WkV.ofPure o'.pre rfl
    · simp [hsuf]
      refine AA_lit1 o' (by simp [rlD]) fun d2 h2 ho2 _ _ => ?_
      have o2 : Own h 2 h2 d2 (rlD [(pfx, pre), (sfx, suf)]) := ho2
      have g1 := ho2.pre _ _ hq'
      have g2 := ho2.pre _ _ hf
      simp [g1, g2, isNilD]
      refine FF_by (fin [(pfx, pre), (sfx, suf)] _ _ o2 (by simp) (by simp; exact ⟨⟨by decide, h7⟩, by decide, h8⟩)) ?_
      cases evEq ev evs <;> simp [rls] <;> exact WkV.ofPure o2.pre rfl
/-- What NoticeEqual answers. -/
def nEq (ev p s evs : List ByteArray) (pre suf : ByteArray) : Bool := evEq ev evs && evEq ((rls p s).map rlK) ((rls (if pre = ⟨#[]⟩ then [] else [pre]) (if suf = ⟨#[]⟩ then [] else [suf])).map rlK)
end Go.Proofs.Ythkgekkpnldbmaa
