/- A configuration read back as a notice. -/
import Derived.Test.YthkgekkpnldbmaaNfK
set_option linter.unusedVariables false
set_option linter.unusedSimpArgs false
set_option maxRecDepth 100000
set_option maxHeartbeats 4000000
namespace Go.Den
open Go
theorem SlS.frz1 {h0 h : List Blk} {sz : Nat} {d : DV} {els : List DV} (ho : SlS sz h d els) (hp : HPre h0 h) (hn : ∀ i, inBlk d i → h0.length ≤ i) (hw : HWF h0) (hl : plainL els) : FrzR h h0 d (.fz sz els) := by
  have : Own h0 sz h d els := by
    rcases ho with h1 | ⟨b, rfl, h3⟩
    · exact ⟨hp, .inl h1⟩
    · exact ⟨hp, .inr ⟨b, rfl, hn b rfl, h3⟩⟩
  exact this.frzR1 hw hl
end Go.Den
namespace Go.Proofs.Ythkgekkpnldbmaa
open Go Go.Den Go.Proofs
/-- A notice in block q that is being filled. -/
structure Tn (h0 H : List Blk) (q : Nat) (k : Int) (a b c d e : List UInt8) (D : Fin 3 → DV) (l : Fin 3 → List ByteArray) : Prop where
  pre : HPre h0 H
  at_q : H[q]? = some (.cells 9 [.agg [.p (.int .i64 k), .p (.string (S a)), .p (.string (S b)), .p (.string (S c)), .p (.string (S d)), .p (.string (S e)), D 0, D 1, D 2]])
  ql : h0.length ≤ q
  sl : ∀ m, SlS 1 H (D m) (strs (l m))
  nw : ∀ m i, inBlk (D m) i → h0.length ≤ i ∧ i ≠ q
  ap : ∀ m m' i, inBlk (D m) i → inBlk (D m') i → m = m'
theorem Tn.push {h0 H : List Blk} {q : Nat} {k : Int} {a b c d e : List UInt8} {D : Fin 3 → DV} {l : Fin 3 → List ByteArray} (s : Tn h0 H q k a b c d e D l) (x : List Blk) : Tn h0 (H ++ x) q k a b c d e D l :=
  ⟨s.pre.trans (HPre.append _ _), get_pre s.at_q x, s.ql, fun m => (s.sl m).of fun i hi => by rw [(s.sl m).blk hi]; exact get_pre ((s.sl m).blk hi) x, s.nw, s.ap⟩
theorem Tn.app {h0 H h' : List Blk} {q : Nat} {k : Int} {a b c d e : List UInt8} {D : Fin 3 → DV} {l : Fin 3 → List ByteArray} (s : Tn h0 H q k a b c d e D l) (m : Fin 3) {d' : DV} {l' : List ByteArray} (hs : SlS 1 h' d' (strs l')) (hk : Keep H h' (D m) d') :
    Tn h0 (h'.set q (.cells 9 [.agg [.p (.int .i64 k), .p (.string (S a)), .p (.string (S b)), .p (.string (S c)), .p (.string (S d)), .p (.string (S e)), up D m d' 0, up D m d' 1, up D m d' 2]])) q k a b c d e (up D m d') (up l m l') := by
  have hqH : q < H.length := (List.getElem?_eq_some_iff.1 s.at_q).1
  have hpl := s.pre.length
  have hn : ∀ i, inBlk d' i → h0.length ≤ i ∧ i ≠ q := fun i hi => by
    rcases hk.new i hi with h1 | h1
    · exact s.nw m i h1
    · exact ⟨by omega, by omega⟩
  refine ⟨fun i x hi => ?_, by rw [List.getElem?_set_self (Nat.lt_of_lt_of_le hqH hk.len)], s.ql, fun m' => ?_, fun m' i hi => ?_, fun m1 m2 i h1 h2 => ?_⟩
  · have h1 : i < h0.length := (List.getElem?_eq_some_iff.1 hi).1
    have h2 := s.pre i x hi
    have := s.ql
    rw [List.getElem?_set_ne (by omega), hk.old i (by omega) (fun h => by have := (s.nw m i h).1; omega)]
    exact h2
  · by_cases hm : m' = m
    · rw [hm, up_same, up_same]
      exact hs.of fun i hi => List.getElem?_set_ne (Ne.symm (hn i hi).2)
    · rw [up_ne D d' hm, up_ne l l' hm]
      refine (s.sl m').of fun i hi => ?_
      rw [List.getElem?_set_ne (Ne.symm (s.nw m' i hi).2)]
      exact hk.old i ((s.sl m').lt hi) fun h => hm (s.ap m' m i hi h)
  · by_cases hm : m' = m
    · rw [hm, up_same] at hi; exact hn i hi
    · rw [up_ne D d' hm] at hi; exact s.nw m' i hi
  · by_cases hm : m1 = m
    · by_cases hm' : m2 = m
      · rw [hm, hm']
      · rw [hm, up_same] at h1
        rw [up_ne D d' hm'] at h2
        rcases hk.new i h1 with h3 | h3
        · exact absurd (s.ap m2 m i h2 h3) hm'
        · have := (s.sl m2).lt h2; omega
    · by_cases hm' : m2 = m
      · rw [hm', up_same] at h2
        rw [up_ne D d' hm] at h1
        rcases hk.new i h2 with h3 | h3
        · exact absurd (s.ap m1 m i h1 h3) hm
        · have := (s.sl m1).lt h1; omega
      · rw [up_ne D d' hm] at h1
        rw [up_ne D d' hm'] at h2
        exact s.ap m1 m2 i h1 h2
/-- The texts of the rules of a name. -/
def sel (x : ByteArray) (l : List Rule) : List ByteArray := (l.filter fun r => decide (r.1 = x)).map (·.2)
theorem sel_app (x : ByteArray) (l l' : List Rule) : sel x (l ++ l') = sel x l ++ sel x l' := by simp [sel]
theorem sel_all (x : ByteArray) (l : List ByteArray) : sel x (l.map fun y => (x, y)) = l := by
  induction l with
  | nil => rfl
  | cons y l ih => simp only [sel, List.map_cons, List.filter_cons, decide_true, if_true] at ih ⊢; rw [ih]
theorem sel_no (x y : ByteArray) (h : y ≠ x) (l : List ByteArray) : sel x (l.map fun z => (y, z)) = [] := by
  induction l with
  | nil => rfl
  | cons z l ih => simp only [sel, List.map_cons, List.filter_cons, h, decide_false] at ih ⊢; exact ih
theorem pfx_sfx : pfx ≠ sfx := by decide
theorem sel_p (p s : List ByteArray) : sel pfx (rls p s) = p := by rw [rls, sel_app, sel_all, sel_no _ _ pfx_sfx.symm, List.append_nil]
theorem sel_s (p s : List ByteArray) : sel sfx (rls p s) = s := by rw [rls, sel_app, sel_all, sel_no _ _ pfx_sfx, List.nil_append]
theorem sel_push (x : ByteArray) (l : List Rule) (r : Rule) : sel x (l ++ [r]) = if r.1 = x then sel x l ++ [r.2] else sel x l := by
  by_cases h : r.1 = x
  · simp [sel, List.filter_append, List.filter_cons, h]
  · simp [sel, List.filter_append, List.filter_cons, h]
theorem rls_or (p s : List ByteArray) (r : Rule) (h : r ∈ rls p s) : r.1 = pfx ∨ r.1 = sfx := by
  simp only [rls, List.mem_append, List.mem_map] at h
  rcases h with ⟨x, _, rfl⟩ | ⟨x, _, rfl⟩
  · exact .inl rfl
  · exact .inr rfl
def z9 : DV := .agg [.p (.int .i64 0), .p (.string ⟨#[]⟩), .p (.string ⟨#[]⟩), .p (.string ⟨#[]⟩), .p (.string ⟨#[]⟩), .p (.string ⟨#[]⟩), .p (.slice none 0 0), .p (.slice none 0 0), .p (.slice none 0 0)]
def ntD0 (k : Int) (n : N) : DV := .agg [.p (.int .i64 k), .p (.string (S n.a)), .p (.string (S n.b)), .p (.string (S n.c)), .p (.string (S n.d)), .p (.string (S n.e)), .p (.slice none 0 0), .p (.slice none 0 0), .p (.slice none 0 0)]
theorem u17b {G : Nat → DV} (h h0 H : List Blk) (k : Int) (a b c d e : List UInt8) (ev p s : List ByteArray) (D : Fin 3 → DV) (l : Fin 3 → List ByteArray) (q : Nat) (hw : HWF h) (hp : HPre h h0) (ht : Tn h0 H q k a b c d e D l) (h4 : h0[h.length + 1]? = some (.cells 9 [z9])) (hl0 : l 0 = ev) (hl1 : l 1 = p) (hl2 : l 2 = s) :
    VV Try.prog G h c17T2 ⟨fr 66 [(0, .p (.int .i64 k)), (3, .ptr h.length 0 0 1), (4, .ptr (h.length + 1) 0 0 1), (5, .ptr q 0 0 1)], H⟩ [] (RR h r17 (ntD k a b c d e ev p s) h) := by
  have hq := ht.at_q
  have h4' := ht.pre _ _ h4
  have h4l : h.length + 1 < H.length := (List.getElem?_eq_some_iff.1 h4').1
  have hp' : ∀ X, HPre h (H.set (h.length + 1) X) := fun X => HPre_set (hp.trans ht.pre) (by omega)
  have hne : ∀ m i, inBlk (D m) i → i ≠ h.length + 1 := fun m i hi => by
    have h1 := (ht.nw m i hi).1
    have h2 := (List.getElem?_eq_some_iff.1 h4).1
    omega
  have fr : ∀ X m, FrzR (H.set (h.length + 1) X) h (D m) (.fz 1 (strs (l m))) := fun X m =>
    ((ht.sl m).of fun i hi => by rw [List.getElem?_set_ne (Ne.symm (hne m i hi))]).frz1 (hp' X) (fun i hi => Nat.le_trans hp.length (ht.nw m i hi).1) hw strs_plain
  simp only [z9] at h4'
  simp [c17T2, hq, h4', r17]
  rw [List.getElem?_set_self h4l]
  simp
  subst hl0 hl1 hl2
  exact WkV.ofR (hp' _) (FrzR.agg (.cons .p (.cons .p (.cons .p (.cons .p (.cons .p (.cons .p (.cons (fr _ 0) (.cons (fr _ 1) (.cons (fr _ 2) .nil))))))))))
theorem u17a {G : Nat → DV} (h h0 H : List Blk) (k : Int) (a b c d e : List UInt8) (ev p s : List ByteArray) (D : Fin 3 → DV) (l : Fin 3 → List ByteArray) (q : Nat) (hw : HWF h) (hp : HPre h h0) (ht : Tn h0 H q k a b c d e D l) (h4 : h0[h.length + 1]? = some (.cells 9 [z9]))
    {evd rd : DV} {f : Nat} (x3 : h0[h.length]? = some (.cells 8 [cfgD a b c d e evd (.ptr f 0 0 1)])) (hf : h[f]? = some (.cells 1 [.agg [rd]])) (hr : SlS 2 h rd (rlD (rls p s))) (hps : (rls p s).length ≤ 1000) (hl0 : l 0 = ev) (hl1 : l 1 = []) (hl2 : l 2 = []) :
    VV Try.prog G h c17T0 ⟨fr 66 [(0, .p (.int .i64 k)), (3, .ptr h.length 0 0 1), (4, .ptr (h.length + 1) 0 0 1), (5, .ptr q 0 0 1)], H⟩ [] (RR h r17 (ntD k a b c d e ev p s) h) := by
  have x3' := ht.pre _ _ x3
  have hf' := ht.pre _ _ (hp _ _ hf)
  simp only [cfgD] at x3'
  simp [c17T0, x3', hf', isNilD]
  obtain ⟨R, hR⟩ : ∃ R, R = rls p s := ⟨_, rfl⟩
  have hor := rls_or p s
  have hs1 := sel_p p s
  have hs2 := sel_s p s
  rw [← hR] at hr hps hor hs1 hs2
  rcases hr with ⟨rfl, hrl⟩ | ⟨br, rfl, hbr⟩
  · have hR0 : R = [] := by
      cases R with
      | nil => rfl
      | cons x R => simp [rlD] at hrl
    simp
    refine VV_famW (fun x : Unit => ⟨fr 66 [(0, .p (.int .i64 k)), (3, .ptr h.length 0 0 1), (4, .ptr (h.length + 1) 0 0 1), (5, .ptr q 0 0 1), (39, .p (.int .i64 0)), (40, .p (.int .i64 0))], H⟩) (fun _ => True) (fun _ => 0) () trivial (Wk.fits (by simp)) ?_
    rintro _ _ B hb he hr
    simp
    refine he _ _ ⟨fr 66 [(0, .p (.int .i64 k)), (3, .ptr h.length 0 0 1), (4, .ptr (h.length + 1) 0 0 1), (5, .ptr q 0 0 1)], H⟩ (Wk.fits (by simp)) ?_
    simp
    refine u17b h h0 H k a b c d e ev p s D l q hw hp ht h4 hl0 ?_ ?_
    · rw [hl1, ← hs1, hR0]; rfl
    · rw [hl2, ← hs2, hR0]; rfl
  · simp
    refine VV_famW (fun x : Nat × (Fin 3 → DV) × (Fin 3 → List ByteArray) × List Blk => ⟨fr 66 [(0, .p (.int .i64 k)), (3, .ptr h.length 0 0 1), (4, .ptr (h.length + 1) 0 0 1), (5, .ptr q 0 0 1), (38, .sl br 0 R.length R.length), (39, .p (.int .i64 R.length)), (40, .p (.int .i64 x.1))], x.2.2.2⟩)
      (fun x => x.1 ≤ R.length ∧ Tn h0 x.2.2.2 q k a b c d e x.2.1 x.2.2.1 ∧ x.2.2.1 0 = ev ∧ x.2.2.1 1 = sel pfx (R.take x.1) ∧ x.2.2.1 2 = sel sfx (R.take x.1)) (fun x => R.length - x.1) (0, D, l, H) ⟨by simp, ht, hl0, hl1, hl2⟩ (Wk.fits (by simp)) ?_
    rintro ⟨i, D, l, H⟩ ⟨hi, ht, hl0, hl1, hl2⟩ B hb he hr
    simp only at hi ht hl0 hl1 hl2
    simp
    have hbr' := ht.pre _ _ (hp _ _ hbr)
    refine CC_by (fun h2 => ?_) (fun h2 => ?_)
    · have hi' : i < R.length := by simpa using h2
      have hadd : IntKind.i64.wrap ((i : Int) + 1) = ((i + 1 : Nat) : Int) := wrap_succ hi' (by omega)
      have htk : R.take (i + 1) = R.take i ++ [R[i]] := List.take_succ_eq_append_getElem hi'
      have hori := hor R[i] (List.getElem_mem hi')
      have hll : ∀ x, (sel x (R.take i)).length ≤ 1000 := fun x => by
        have h1 := List.length_filter_le (fun r : Rule => decide (r.1 = x)) (R.take i)
        simp at h1
        simp [sel]; omega
      simp [hi', hbr']
      generalize R[i] = r at htk hori ⊢
      have ht1 := ht.push [.cells 2 [.agg [.p (.string r.1), .p (.string r.2)]]]
      have hq1 := ht1.at_q
      have hx9 : (H ++ [Blk.cells 2 [.agg [.p (.string r.1), .p (.string r.2)]]])[H.length]? = some (.cells 2 [.agg [.p (.string r.1), .p (.string r.2)]]) := by simp
      generalize H ++ [Blk.cells 2 [DV.agg [.p (.string r.1), .p (.string r.2)]]] = H1 at ht1 hq1 hx9 ⊢
      rcases hori with h1 | h1
      · rw [h1]
        simp [pfx]
        simp [hq1, hx9]
        replace ht1 := ht1.push [.cells 1 [.p (.string r.2)]]
        replace hq1 := ht1.at_q
        refine AA_slS (ht1.sl 1) (ys := [.p (.string r.2)]) (by simp) (by rw [hl1]; have := hll pfx; simp [strs]; omega) ?_
        intro d' h2 hs hk
        have hs2 : SlS 1 h2 d' (strs (l 1 ++ [r.2])) := by simpa [strs] using hs
        have t2 := ht1.app 1 hs2 hk
        have hq2 : h2[q]? = some (.cells 9 [.agg [.p (.int .i64 k), .p (.string (S a)), .p (.string (S b)), .p (.string (S c)), .p (.string (S d)), .p (.string (S e)), D 0, D 1, D 2]]) := by
          rw [hk.old q (List.getElem?_eq_some_iff.1 hq1).1 (fun h => (ht1.nw 1 q h).2 rfl)]; exact hq1
        have next : (i + 1 ≤ R.length ∧ Tn h0 (h2.set q (.cells 9 [.agg [.p (.int .i64 k), .p (.string (S a)), .p (.string (S b)), .p (.string (S c)), .p (.string (S d)), .p (.string (S e)), up D 1 d' 0, up D 1 d' 1, up D 1 d' 2]])) q k a b c d e (up D 1 d') (up l 1 (l 1 ++ [r.2])) ∧ up l 1 (l 1 ++ [r.2]) 0 = ev ∧ up l 1 (l 1 ++ [r.2]) 1 = sel pfx (R.take (i + 1)) ∧ up l 1 (l 1 ++ [r.2]) 2 = sel sfx (R.take (i + 1))) := by
          refine ⟨hi', t2, ?_, ?_, ?_⟩
          · rw [up_ne _ _ (by decide)]; exact hl0
          · rw [htk, sel_push, h1]
            rw [if_pos rfl, up_same, hl1]
          · rw [htk, sel_push, h1]
            rw [if_neg pfx_sfx, up_ne _ _ (by decide), hl2]
        have hd : d' = .p (.slice none 0 0) ∨ ∃ b m, d' = .sl b 0 m m := hs2.imp (fun h => h.1) (fun ⟨b, h, _⟩ => ⟨b, _, h⟩)
        rcases hd with rfl | ⟨g, m, rfl⟩
        · simp [hq2, hadd]
          exact hb _ (i + 1, _, _, _) (Wk.fits (by simp)) next (by simp; omega)
        · simp [hq2, hadd]
          exact hb _ (i + 1, _, _, _) (Wk.fits (by simp)) next (by simp; omega)
      · rw [h1]
        simp [sfx]
        simp [hq1, hx9]
        replace ht1 := ht1.push [.cells 1 [.p (.string r.2)]]
        replace hq1 := ht1.at_q
        refine AA_slS (ht1.sl 2) (ys := [.p (.string r.2)]) (by simp) (by rw [hl2]; have := hll sfx; simp [strs]; omega) ?_
        intro d' h2 hs hk
        have hs2 : SlS 1 h2 d' (strs (l 2 ++ [r.2])) := by simpa [strs] using hs
        have t2 := ht1.app 2 hs2 hk
        have hq2 : h2[q]? = some (.cells 9 [.agg [.p (.int .i64 k), .p (.string (S a)), .p (.string (S b)), .p (.string (S c)), .p (.string (S d)), .p (.string (S e)), D 0, D 1, D 2]]) := by
          rw [hk.old q (List.getElem?_eq_some_iff.1 hq1).1 (fun h => (ht1.nw 2 q h).2 rfl)]; exact hq1
        have next : (i + 1 ≤ R.length ∧ Tn h0 (h2.set q (.cells 9 [.agg [.p (.int .i64 k), .p (.string (S a)), .p (.string (S b)), .p (.string (S c)), .p (.string (S d)), .p (.string (S e)), up D 2 d' 0, up D 2 d' 1, up D 2 d' 2]])) q k a b c d e (up D 2 d') (up l 2 (l 2 ++ [r.2])) ∧ up l 2 (l 2 ++ [r.2]) 0 = ev ∧ up l 2 (l 2 ++ [r.2]) 1 = sel pfx (R.take (i + 1)) ∧ up l 2 (l 2 ++ [r.2]) 2 = sel sfx (R.take (i + 1))) := by
          refine ⟨hi', t2, ?_, ?_, ?_⟩
          · rw [up_ne _ _ (by decide)]; exact hl0
          · rw [htk, sel_push, h1]
            rw [if_neg pfx_sfx.symm, up_ne _ _ (by decide), hl1]
          · rw [htk, sel_push, h1]
            rw [if_pos rfl, up_same, hl2]
        have hd : d' = .p (.slice none 0 0) ∨ ∃ b m, d' = .sl b 0 m m := hs2.imp (fun h => h.1) (fun ⟨b, h, _⟩ => ⟨b, _, h⟩)
        rcases hd with rfl | ⟨g, m, rfl⟩
        · simp [hq2, hadd]
          exact hb _ (i + 1, _, _, _) (Wk.fits (by simp)) next (by simp; omega)
        · simp [hq2, hadd]
          exact hb _ (i + 1, _, _, _) (Wk.fits (by simp)) next (by simp; omega)
    · have hii : i = R.length := by simp at h2; omega
      subst hii
      rw [List.take_length] at hl1 hl2
      simp
      refine he _ _ ⟨fr 66 [(0, .p (.int .i64 k)), (3, .ptr h.length 0 0 1), (4, .ptr (h.length + 1) 0 0 1), (5, .ptr q 0 0 1)], H⟩ (Wk.fits (by simp)) ?_
      simp
      exact u17b h h0 H k a b c d e ev p s D l q hw hp ht h4 hl0 (hl1.trans hs1) (hl2.trans hs2)
theorem ok17 {G : Nat → DV} (h : List Blk) (k : Int) (n : N) (hn : Good n) {evd rd : DV} {f : Nat} (h1f : h[f]? = some (.cells 1 [.agg [rd]])) (h1e : SlS 1 h evd (strs n.ev)) (h1r : SlS 2 h rd (rlD (rls n.p n.s))) :
    Ok Try.prog G 17 [.p (.int .i64 k), cfgD n.a n.b n.c n.d n.e evd (.ptr f 0 0 1)] h (ntD k n.a n.b n.c n.d n.e n.ev n.p n.s) h := by
  refine Ok.wf fun hw => ?_
  refine Ok_by Try.func17 c17_ok r17_ok 64 rfl ?_
  have fp := hn.few
  have hps : (rls n.p n.s).length ≤ 1000 := by have := hn.p1; have := hn.s1; simp [rls]; omega
  rw [c17_cut]
  simp [cfgD]
  refine FF_by (ok33 _ n.a n.b n.c n.d n.e) ?_
  simp [arnD]
  obtain ⟨h0, hh0⟩ : ∃ h0, h0 = h ++ [.cells 8 [cfgD n.a n.b n.c n.d n.e evd (.ptr f 0 0 1)], .cells 9 [z9]] := ⟨_, rfl⟩
  obtain ⟨H, hH⟩ : ∃ H, H = h0 ++ [.cells 9 [ntD0 k n]] := ⟨_, rfl⟩
  have hp : HPre h h0 := by rw [hh0]; exact HPre.append _ _
  have x3 : h0[h.length]? = some (.cells 8 [cfgD n.a n.b n.c n.d n.e evd (.ptr f 0 0 1)]) := by rw [hh0]; simp
  have h4 : h0[h.length + 1]? = some (.cells 9 [z9]) := by rw [hh0]; simp
  have hq0 : H[h.length + 2]? = some (.cells 9 [ntD0 k n]) := by rw [hH, hh0]; simp
  have hl0' : h0.length = h.length + 2 := by rw [hh0]; simp
  have ht : Tn h0 H (h.length + 2) k n.a n.b n.c n.d n.e (fun _ => .p (.slice none 0 0)) (fun _ => []) :=
    ⟨by rw [hH]; exact HPre.append _ _, hq0, by omega, fun m => .nil, fun m i hi => hi.elim, fun m m' i hi => hi.elim⟩
  have hHH : H = h ++ [.cells 8 [cfgD n.a n.b n.c n.d n.e evd (.ptr f 0 0 1)], .cells 9 [z9], .cells 9 [ntD0 k n]] := by rw [hH, hh0]; simp
  simp only [cfgD, z9, ntD0] at hHH
  rw [← hHH]
  clear hHH hH hh0
  rcases h1e with ⟨rfl, hev⟩ | ⟨be, rfl, hbe⟩
  · simp
    refine VV_famW (fun x : Unit => ⟨fr 66 [(0, .p (.int .i64 k)), (3, .ptr h.length 0 0 1), (4, .ptr (h.length + 1) 0 0 1), (5, .ptr (h.length + 2) 0 0 1), (17, .p (.int .i64 0)), (18, .p (.int .i64 0))], H⟩) (fun _ => True) (fun _ => 0) () trivial (Wk.fits (by simp)) ?_
    rintro _ _ B hb he hr
    simp
    refine he _ _ ⟨fr 66 [(0, .p (.int .i64 k)), (3, .ptr h.length 0 0 1), (4, .ptr (h.length + 1) 0 0 1), (5, .ptr (h.length + 2) 0 0 1)], H⟩ (Wk.fits (by simp)) ?_
    simp
    have hev0 : n.ev = [] := by
      cases hx : n.ev with
      | nil => rfl
      | cons x l => rw [hx] at hev; simp [strs] at hev
    exact u17a h h0 H k n.a n.b n.c n.d n.e n.ev n.p n.s _ _ (h.length + 2) hw hp ht h4 x3 h1f h1r hps hev0.symm rfl rfl
  · have hev3 := fp.ev
    simp
    refine VV_famW (fun x : Nat × (Fin 3 → DV) × (Fin 3 → List ByteArray) × List Blk => ⟨fr 66 [(0, .p (.int .i64 k)), (3, .ptr h.length 0 0 1), (4, .ptr (h.length + 1) 0 0 1), (5, .ptr (h.length + 2) 0 0 1), (16, .sl be 0 n.ev.length n.ev.length), (17, .p (.int .i64 n.ev.length)), (18, .p (.int .i64 x.1))], x.2.2.2⟩)
      (fun x => x.1 ≤ n.ev.length ∧ Tn h0 x.2.2.2 (h.length + 2) k n.a n.b n.c n.d n.e x.2.1 x.2.2.1 ∧ x.2.2.1 0 = n.ev.take x.1 ∧ x.2.2.1 1 = [] ∧ x.2.2.1 2 = []) (fun x => n.ev.length - x.1) (0, _, _, H) ⟨by simp, ht, rfl, rfl, rfl⟩ (Wk.fits (by simp)) ?_
    rintro ⟨i, D, l, H⟩ ⟨hi, ht, hl0, hl1, hl2⟩ B hb he hr
    simp only at hi ht hl0 hl1 hl2
    simp
    have hbe' := ht.pre _ _ (hp _ _ hbe)
    have hq1 := ht.at_q
    refine CC_by (fun h2 => ?_) (fun h2 => ?_)
    · have hi' : i < n.ev.length := by simpa using h2
      have hadd : IntKind.i64.wrap ((i : Int) + 1) = ((i + 1 : Nat) : Int) := wrap_succ hi' (by omega)
      have htk : n.ev.take (i + 1) = n.ev.take i ++ [n.ev[i]] := List.take_succ_eq_append_getElem hi'
      simp [hi', hbe', hq1]
      generalize n.ev[i] = x at htk ⊢
      replace ht := ht.push [.cells 1 [.p (.string x)]]
      replace hq1 := ht.at_q
      refine AA_slS (ht.sl 0) (ys := [.p (.string x)]) (by simp) (by rw [hl0]; simp [strs]; omega) ?_
      intro d' h2 hs hk
      have hs2 : SlS 1 h2 d' (strs (l 0 ++ [x])) := by simpa [strs] using hs
      have t2 := ht.app 0 hs2 hk
      have hq2 : h2[h.length + 2]? = some (.cells 9 [.agg [.p (.int .i64 k), .p (.string (S n.a)), .p (.string (S n.b)), .p (.string (S n.c)), .p (.string (S n.d)), .p (.string (S n.e)), D 0, D 1, D 2]]) := by
        rw [hk.old _ (List.getElem?_eq_some_iff.1 hq1).1 (fun h => (ht.nw 0 _ h).2 rfl)]; exact hq1
      have next : (i + 1 ≤ n.ev.length ∧ Tn h0 (h2.set (h.length + 2) (.cells 9 [.agg [.p (.int .i64 k), .p (.string (S n.a)), .p (.string (S n.b)), .p (.string (S n.c)), .p (.string (S n.d)), .p (.string (S n.e)), up D 0 d' 0, up D 0 d' 1, up D 0 d' 2]])) (h.length + 2) k n.a n.b n.c n.d n.e (up D 0 d') (up l 0 (l 0 ++ [x])) ∧ up l 0 (l 0 ++ [x]) 0 = n.ev.take (i + 1) ∧ up l 0 (l 0 ++ [x]) 1 = [] ∧ up l 0 (l 0 ++ [x]) 2 = []) := by
        refine ⟨hi', t2, ?_, ?_, ?_⟩
        · rw [up_same, hl0, htk]
        · rw [up_ne _ _ (by decide), hl1]
        · rw [up_ne _ _ (by decide), hl2]
      have hd : d' = .p (.slice none 0 0) ∨ ∃ b m, d' = .sl b 0 m m := hs2.imp (fun h => h.1) (fun ⟨b, h, _⟩ => ⟨b, _, h⟩)
      rcases hd with rfl | ⟨g, m, rfl⟩
      · simp [hq2, hadd]
        exact hb _ (i + 1, _, _, _) (Wk.fits (by simp)) next (by simp; omega)
      · simp [hq2, hadd]
        exact hb _ (i + 1, _, _, _) (Wk.fits (by simp)) next (by simp; omega)
    · have hii : i = n.ev.length := by simp at h2; omega
      subst hii
      rw [List.take_length] at hl0
      simp
      refine he _ _ ⟨fr 66 [(0, .p (.int .i64 k)), (3, .ptr h.length 0 0 1), (4, .ptr (h.length + 1) 0 0 1), (5, .ptr (h.length + 2) 0 0 1)], H⟩ (Wk.fits (by simp)) ?_
      simp
      exact u17a h h0 H k n.a n.b n.c n.d n.e n.ev n.p n.s _ _ (h.length + 2) hw hp ht h4 x3 h1f h1r hps hl0 hl1 hl2
end Go.Proofs.Ythkgekkpnldbmaa
