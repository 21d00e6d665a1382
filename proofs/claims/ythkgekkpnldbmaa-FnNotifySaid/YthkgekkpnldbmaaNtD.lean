/- Notices: a configuration is built. -/
import Derived.Test.YthkgekkpnldbmaaNtC
import Derived.Test.YthkgekkpnldbmaaLibE
set_option linter.unusedVariables false
set_option linter.unusedSimpArgs false
set_option maxRecDepth 100000
namespace Go.Proofs.Ythkgekkpnldbmaa
open Go Go.Den Go.Proofs


def cfgD (a b c d e : List UInt8) (evd fd : DV) : DV := .agg [.p (.string ⟨#[]⟩), .p (.string (S a)), .p (.string (S b)), .p (.string (S c)), .p (.string (S d)), .p (.string (S e)), evd, fd]
/-- A configuration in block q, its filter in block f, over blocks h0 that stand. -/
structure Cf (h0 h : List Blk) (q f : Nat) (a b c d e : List UInt8) (evd rd : DV) (ev : List ByteArray) (rl : List Rule) : Prop where
  pre : HPre h0 h
  ql : h0.length ≤ q
  fl : h0.length ≤ f
  qf : q ≠ f
  at_q : h[q]? = some (.cells 8 [cfgD a b c d e evd (.ptr f 0 0 1)])
  at_f : h[f]? = some (.cells 1 [.agg [rd]])
  es : SlS 1 h evd (strs ev)
  rs : SlS 2 h rd (rlD rl)
  en : ∀ i, inBlk evd i → h0.length ≤ i ∧ i ≠ q ∧ i ≠ f
  rn : ∀ i, inBlk rd i → h0.length ≤ i ∧ i ≠ q ∧ i ≠ f ∧ ¬ inBlk evd i
theorem Cf.push {h0 h : List Blk} {q f : Nat} {a b c d e : List UInt8} {evd rd : DV} {ev : List ByteArray} {rl : List Rule} (x : List Blk) (s : Cf h0 h q f a b c d e evd rd ev rl) : Cf h0 (h ++ x) q f a b c d e evd rd ev rl := by
  have get : ∀ {i k}, h[i]? = some k → (h ++ x)[i]? = some k := fun hk => get_pre hk x
  exact ⟨s.pre.trans (HPre.append _ _), s.ql, s.fl, s.qf, get s.at_q, get s.at_f, s.es.of fun i hi => by rw [s.es.blk hi]; exact get (s.es.blk hi), s.rs.of fun i hi => by rw [s.rs.blk hi]; exact get (s.rs.blk hi), s.en, s.rn⟩
theorem Cf.q_lt {h0 h : List Blk} {q f : Nat} {a b c d e : List UInt8} {evd rd : DV} {ev : List ByteArray} {rl : List Rule} (s : Cf h0 h q f a b c d e evd rd ev rl) : q < h.length := (List.getElem?_eq_some_iff.1 s.at_q).1
theorem Cf.f_lt {h0 h : List Blk} {q f : Nat} {a b c d e : List UInt8} {evd rd : DV} {ev : List ByteArray} {rl : List Rule} (s : Cf h0 h q f a b c d e evd rd ev rl) : f < h.length := (List.getElem?_eq_some_iff.1 s.at_f).1

/-- NewConfig. -/
def NcR (a b c d e : List UInt8) (h : List Blk) (v : DV) (h' : List Blk) : Prop := ∃ f, v = cfgD a b c d e (.p (.slice none 0 0)) (.ptr f 0 0 1) ∧ HPre h h' ∧ h.length ≤ f ∧ h'[f]? = some (.cells 1 [.agg [.p (.slice none 0 0)]])
theorem ok37 {G : Nat → DV} (h : List Blk) (a b c d e : List UInt8) : OkR Try.prog G 37 [arnD a b c d e] h (NcR a b c d e h) := by
  refine OkR_by Try.func37 c37_ok r37_ok 6 rfl ?_
  simp [c37, r37, arnD]
  refine REr_by _ _ .refl ?_
  refine ⟨h.length + 2, rfl, HPre.append _ _, by omega, by simp⟩

/-- AddEvents to none. -/
def AeR (h0 : List Blk) (q f : Nat) (a b c d e : List UInt8) (rd : DV) (ev : List ByteArray) (rl : List Rule) (v : DV) (h' : List Blk) : Prop := v = .tup [] ∧ ∃ evd, Cf h0 h' q f a b c d e evd rd ev rl
theorem ok39 {G : Nat → DV} (h0 h : List Blk) (q f : Nat) (a b c d e : List UInt8) (rd : DV) (ev : List ByteArray) (rl : List Rule) (s : Cf h0 h q f a b c d e (.p (.slice none 0 0)) rd [] rl) (he : ev.length ≤ 1000) :
    OkR Try.prog G 39 [.ptr q 0 0 1, .fz 1 (strs ev)] h (AeR h0 q f a b c d e rd ev rl) := by
  refine OkR_by Try.func39 c39_ok r39_ok 11 rfl ?_
  have hq := s.at_q
  unfold cfgD at hq
  simp [c39, r39, hq]
  refine AA_slS .nil (ys := strs ev) (by simp) (by simp; omega) ?_
  intro d' h' hs hk
  have hq' : h'[q]? = some (.cells 8 [cfgD a b c d e (.p (.slice none 0 0)) (.ptr f 0 0 1)]) := by rw [hk.old q s.q_lt (fun h => h)]; exact s.at_q
  have hq2 := hq'
  unfold cfgD at hq2
  suffices H : REr h (some []) (h'.set q (.cells 8 [cfgD a b c d e d' (.ptr f 0 0 1)])) (AeR h0 q f a b c d e rd ev rl) by
    rcases hs with ⟨rfl, _⟩ | ⟨_, rfl, _⟩ <;> simpa [hq2, cfgD] using H
  refine REr_by _ _ .refl ?_
  refine ⟨rfl, d', ?_⟩
  have hnew : ∀ i, inBlk d' i → h.length ≤ i := fun i hi => (hk.new i hi).resolve_left fun h => h
  have hold : ∀ i, i < h.length → i ≠ q → (h'.set q (.cells 8 [cfgD a b c d e d' (.ptr f 0 0 1)]))[i]? = h[i]? := fun i hi hn => by
    rw [List.getElem?_set_ne (Ne.symm hn)]
    exact hk.old i hi (fun h => h)
  have hql : q < h'.length := (List.getElem?_eq_some_iff.1 hq').1
  refine ⟨fun i k hi => ?_, s.ql, s.fl, s.qf, by simp [hql, cfgD], ?_, ?_, ?_, fun i hi => ?_, fun i hi => ?_⟩
  · have h1 : i < h0.length := (List.getElem?_eq_some_iff.1 hi).1
    have h2 := s.pre i k hi
    have := s.ql
    show (h'.set q _)[i]? = _
    rw [List.getElem?_set_ne (by omega), hk.old i (List.getElem?_eq_some_iff.1 h2).1 (fun h => h)]
    exact h2
  · have := hold f s.f_lt (Ne.symm s.qf)
    rw [this]
    exact s.at_f
  · have e : strs ([] : List ByteArray) ++ strs ev = strs ev := rfl
    have h2 : SlS 1 h' d' (strs ev) := by simpa using hs
    refine h2.of fun i hi => ?_
    rw [List.getElem?_set_ne]
    intro e
    have := hnew i hi
    have := s.q_lt
    omega
  · refine s.rs.of fun i hi => ?_
    have := hold i (s.rs.lt hi) (s.rn i hi).2.1
    exact this
  · have h1 := hnew i hi
    have h2 := s.q_lt
    have h3 := s.f_lt
    have h4 := s.ql
    exact ⟨by omega, by omega, by omega⟩
  · obtain ⟨h1, h2, h3, _⟩ := s.rn i hi
    exact ⟨h1, h2, h3, fun h => by
      have := hnew i h
      have := s.rs.lt hi
      omega⟩

/-- A rule is added. -/
def AfR (h0 : List Blk) (q f : Nat) (a b c d e : List UInt8) (evd : DV) (ev : List ByteArray) (rl : List Rule) (v : DV) (h' : List Blk) : Prop := v = .tup [] ∧ ∃ rd, Cf h0 h' q f a b c d e evd rd ev rl
theorem Cf.app {h0 h h' : List Blk} {q f : Nat} {a b c d e : List UInt8} {evd rd d' : DV} {ev : List ByteArray} {rl rl' : List Rule} (s : Cf h0 h q f a b c d e evd rd ev rl) (hs : SlS 2 h' d' (rlD rl')) (hk : Keep h h' rd d') :
    Cf h0 (h'.set f (.cells 1 [.agg [d']])) q f a b c d e evd d' ev rl' := by
  have hnr : ¬ inBlk rd f := fun h => (s.rn f h).2.2.1 rfl
  have hnq : ¬ inBlk rd q := fun h => (s.rn q h).2.1 rfl
  have hfl : f < h'.length := Nat.lt_of_lt_of_le s.f_lt hk.len
  have hnew : ∀ i, inBlk d' i → h0.length ≤ i ∧ i ≠ q ∧ i ≠ f ∧ ¬ inBlk evd i := fun i hi => by
    rcases hk.new i hi with h1 | h1
    · exact s.rn i h1
    · have h2 := s.q_lt
      have h3 := s.f_lt
      have h4 := s.ql
      exact ⟨by omega, by omega, by omega, fun h => by have := s.es.lt h; omega⟩
  have hold : ∀ i, i < h.length → i ≠ f → ¬ inBlk rd i → (h'.set f (.cells 1 [.agg [d']]))[i]? = h[i]? := fun i hi hn hr => by
    rw [List.getElem?_set_ne (Ne.symm hn)]
    exact hk.old i hi hr
  refine ⟨fun i k hi => ?_, s.ql, s.fl, s.qf, ?_, by simp [hfl], ?_, ?_, s.en, hnew⟩
  · have h1 : i < h0.length := (List.getElem?_eq_some_iff.1 hi).1
    have h2 := s.pre i k hi
    have h3 := s.fl
    rw [hold i (List.getElem?_eq_some_iff.1 h2).1 (by omega) (fun h => by have := (s.rn i h).1; omega)]
    exact h2
  · rw [hold q s.q_lt s.qf hnq]
    exact s.at_q
  · refine s.es.of fun i hi => hold i (s.es.lt hi) (s.en i hi).2.2 fun h => ?_
    exact (s.rn i h).2.2.2 hi
  · refine hs.of fun i hi => ?_
    rw [List.getElem?_set_ne (Ne.symm (hnew i hi).2.2.1)]
theorem ok41 {G : Nat → DV} (h0 h : List Blk) (q f : Nat) (a b c d e : List UInt8) (evd rd : DV) (ev : List ByteArray) (rl : List Rule) (x : ByteArray) (s : Cf h0 h q f a b c d e evd rd ev rl) (hl : rl.length ≤ 4) (hn : ∀ r ∈ rl, r.1 ≠ ⟨#[112, 114, 101, 102, 105, 120]⟩) :
    OkR Try.prog G 41 [.ptr q 0 0 1, .p (.string x)] h (AfR h0 q f a b c d e evd ev (rl ++ [(⟨#[112, 114, 101, 102, 105, 120]⟩, x)])) := by
  refine OkR_by Try.func41 c41_ok r41_ok 71 rfl ?_
  have hq := s.at_q
  unfold cfgD at hq
  have hf := s.at_f
  simp [c41, r41, hq, hf]
  have s1 := s.push [.cells 2 [.agg [.p (.string ⟨#[112, 114, 101, 102, 105, 120]⟩), .p (.string x)]]]
  have hq1 := s1.at_q
  unfold cfgD at hq1
  have hf1 := s1.at_f
  simp [hq1, hf1]
  have hx1 : (h ++ [Blk.cells 2 [DV.agg [.p (.string ⟨#[112, 114, 101, 102, 105, 120]⟩), .p (.string x)]]])[h.length]? = some (.cells 2 [.agg [.p (.string ⟨#[112, 114, 101, 102, 105, 120]⟩), .p (.string x)]]) := by simp
  have hp1 : HPre h (h ++ [Blk.cells 2 [DV.agg [.p (.string ⟨#[112, 114, 101, 102, 105, 120]⟩), .p (.string x)]]]) := HPre.append _ _
  generalize h ++ [Blk.cells 2 [DV.agg [.p (.string ⟨#[112, 114, 101, 102, 105, 120]⟩), .p (.string x)]]] = h1 at *
  have hlr : (rlD rl).length = rl.length := by simp [rlD]
  have hlN : h.length ≠ q ∧ h.length ≠ f ∧ ∀ i, inBlk rd i → i ≠ h.length := ⟨by have := s.q_lt; omega, by have := s.f_lt; omega, fun i hi => by have := s.rs.lt hi; omega⟩
  obtain ⟨hv, hvw, hvq, hvf, hvx, hvg⟩ : ∃ hv, HV hv h1 ∧ hv[q]? = h1[q]? ∧ hv[f]? = h1[f]? ∧ hv[h.length]? = h1[h.length]? ∧ ∀ i, inBlk rd i → hv[i]? = some .dead := by
    rcases s1.rs with ⟨rfl, _⟩ | ⟨g, rfl, hg⟩
    · exact ⟨h1, HV.refl _, rfl, rfl, rfl, fun i hi => hi.elim⟩
    · obtain ⟨_, nq, nf, _⟩ := s.rn g rfl
      have nx := hlN.2.2 g rfl
      have hgl : g < h1.length := (List.getElem?_eq_some_iff.1 hg).1
      exact ⟨h1.set g .dead, HV_hide, List.getElem?_set_ne nq, List.getElem?_set_ne nf, List.getElem?_set_ne nx, fun i hi => by cases hi; simp [hgl]⟩
  rw [hq1] at hvq
  rw [hf1] at hvf
  rw [hx1] at hvx
  rcases s1.rs with ⟨rfl, hnil⟩ | ⟨g, rfl, hg⟩
  · have hrl0 : rl = [] := by
      have := congrArg List.length hnil
      simpa [rlD] using this
    subst hrl0
    simp
    refine VV_unroll 1 ?_
    simp
    refine VV_rgv hv hvw ?_
    simp [hvq, hvf, hvx, isNilD]
    have hvl : HV hv (h1 ++ [.cells 2 [.agg [.p (.string ⟨#[112, 114, 101, 102, 105, 120]⟩), .p (.string x)]]]) := hvw.trans (HPre.append _ _).toV
    simp [hvl]
    have s2 := s1.push [.cells 2 [.agg [.p (.string ⟨#[112, 114, 101, 102, 105, 120]⟩), .p (.string x)]]]
    have hy2 : elemsOf (h1 ++ [.cells 2 [.agg [.p (.string ⟨#[112, 114, 101, 102, 105, 120]⟩), .p (.string x)]]]) 2 (.sl h1.length 0 1 1) = some (rlD [(⟨#[112, 114, 101, 102, 105, 120]⟩, x)]) := by simp [elemsOf, rlD]
    have hx2 : (h1 ++ [Blk.cells 2 [.agg [.p (.string ⟨#[112, 114, 101, 102, 105, 120]⟩), .p (.string x)]]])[h.length]? = some (.cells 2 [.agg [.p (.string ⟨#[112, 114, 101, 102, 105, 120]⟩), .p (.string x)]]) := get_pre hx1 _
    generalize h1 ++ [Blk.cells 2 [.agg [.p (.string ⟨#[112, 114, 101, 102, 105, 120]⟩), .p (.string x)]]] = h2 at *
    refine DA_slS s2.rs hy2 (by simp [rlD]) ?_
    intro d' h3 hs hk
    have hnr : ∀ i, inBlk (.p (.slice none 0 0)) i → i ≠ q ∧ i ≠ f := fun i hi => ⟨(s2.rn i hi).2.1, (s2.rn i hi).2.2.1⟩
    have h3q : h3[q]? = some (.cells 8 [cfgD a b c d e evd (.ptr f 0 0 1)]) := by rw [hk.old q s2.q_lt (fun h => (hnr q h).1 rfl)]; exact s2.at_q
    have h3f : h3[f]? = some (.cells 1 [.agg [(.p (.slice none 0 0))]]) := by rw [hk.old f s2.f_lt (fun h => (hnr f h).2 rfl)]; exact s2.at_f
    have hv3 : HV hv h3 := fun i k hi => by
      by_cases hr : inBlk (.p (.slice none 0 0)) i
      · rw [hvg i hr] at hi; cases hi; exact .inr rfl
      · rcases hvl i k hi with e1 | e1
        · exact .inl (by rw [hk.old i (List.getElem?_eq_some_iff.1 e1).1 hr]; exact e1)
        · exact .inr e1
    rw [rlD_append] at hs
    have hend : Cf h0 (h3.set f (.cells 1 [.agg [d']])) q f a b c d e evd d' ev _ := s2.app hs hk
    have hpre : HPre h0 (h3.set f (.cells 1 [.agg [d']])) := hend.pre
    simp [hv3]
    suffices H : REr h (some []) (h3.set f (.cells 1 [.agg [d']])) (AfR h0 q f a b c d e evd ev ([] ++ [(⟨#[112, 114, 101, 102, 105, 120]⟩, x)])) by
      rcases hs with ⟨rfl, _⟩ | ⟨_, rfl, _⟩ <;> simpa [h3f, isNilD] using H
    exact REr_by _ _ .refl ⟨rfl, d', hend⟩
  · simp [hlr]
    refine VV_fam (fun i : Nat => ⟨fr 73 [(0, .ptr q 0 0 1), (4, .ptr h.length 0 0 1), (26, .p (.int .i64 rl.length)), (27, .p (.int .i64 i))], h1⟩) (fun i => i ≤ rl.length) (fun i => rl.length - i) 0 (by simp) (Wk.fits (by simp [hlr])) ?_
    intro i hi B hb he hr
    simp
    refine CC_by (fun hc => ?_) (fun hc => ?_)
    · have hc : i < rl.length := by simpa using hc
      have hci : (i : Int) < (rl.length : Int) := by omega
      have hgi : (rlD rl)[i]? = some (.agg [.p (.string rl[i].1), .p (.string rl[i].2)]) := by simp [rlD, hc]
      have hne : ¬ (rl[i].1 = ⟨#[112, 114, 101, 102, 105, 120]⟩) := hn _ (List.getElem_mem hc)
      have hw : IntKind.i64.wrap ((i : Int) + 1) = ((i + 1 : Nat) : Int) := wrap_succ (n := 4) (by omega) (by omega)
      simp [hq1, hf1, isNilD, hlr, hg, hci, hc, hgi, hne, hw]
      exact hb _ (i + 1) (Wk.fits (by simp)) (by omega) (by omega)
    · simp
      refine he _ _ ?_
      simp
      refine VV_rgv hv hvw ?_
      simp [hvq, hvf, hvx, isNilD]
      have hvl : HV hv (h1 ++ [.cells 2 [.agg [.p (.string ⟨#[112, 114, 101, 102, 105, 120]⟩), .p (.string x)]]]) := hvw.trans (HPre.append _ _).toV
      simp [hvl]
      have s2 := s1.push [.cells 2 [.agg [.p (.string ⟨#[112, 114, 101, 102, 105, 120]⟩), .p (.string x)]]]
      have hy2 : elemsOf (h1 ++ [.cells 2 [.agg [.p (.string ⟨#[112, 114, 101, 102, 105, 120]⟩), .p (.string x)]]]) 2 (.sl h1.length 0 1 1) = some (rlD [(⟨#[112, 114, 101, 102, 105, 120]⟩, x)]) := by simp [elemsOf, rlD]
      have hx2 : (h1 ++ [Blk.cells 2 [.agg [.p (.string ⟨#[112, 114, 101, 102, 105, 120]⟩), .p (.string x)]]])[h.length]? = some (.cells 2 [.agg [.p (.string ⟨#[112, 114, 101, 102, 105, 120]⟩), .p (.string x)]]) := get_pre hx1 _
      generalize h1 ++ [Blk.cells 2 [.agg [.p (.string ⟨#[112, 114, 101, 102, 105, 120]⟩), .p (.string x)]]] = h2 at *
      refine DA_slS (show SlS 2 h2 (.sl g 0 rl.length rl.length) (rlD rl) by have := s2.rs; rwa [hlr] at this) hy2 (by simp [rlD]; omega) ?_
      intro d' h3 hs hk
      rw [← hlr] at hk
      have hnr : ∀ i, inBlk (.sl g 0 (rlD rl).length (rlD rl).length) i → i ≠ q ∧ i ≠ f := fun i hi => ⟨(s2.rn i hi).2.1, (s2.rn i hi).2.2.1⟩
      have h3q : h3[q]? = some (.cells 8 [cfgD a b c d e evd (.ptr f 0 0 1)]) := by rw [hk.old q s2.q_lt (fun h => (hnr q h).1 rfl)]; exact s2.at_q
      have h3f : h3[f]? = some (.cells 1 [.agg [(.sl g 0 (rlD rl).length (rlD rl).length)]]) := by rw [hk.old f s2.f_lt (fun h => (hnr f h).2 rfl)]; exact s2.at_f
      have hv3 : HV hv h3 := fun i k hi => by
        by_cases hr : inBlk (.sl g 0 (rlD rl).length (rlD rl).length) i
        · rw [hvg i hr] at hi; cases hi; exact .inr rfl
        · rcases hvl i k hi with e1 | e1
          · exact .inl (by rw [hk.old i (List.getElem?_eq_some_iff.1 e1).1 hr]; exact e1)
          · exact .inr e1
      rw [rlD_append] at hs
      have hend : Cf h0 (h3.set f (.cells 1 [.agg [d']])) q f a b c d e evd d' ev _ := s2.app hs hk
      have hpre : HPre h0 (h3.set f (.cells 1 [.agg [d']])) := hend.pre
      simp [hv3]
      suffices H : REr h (some []) (h3.set f (.cells 1 [.agg [d']])) (AfR h0 q f a b c d e evd ev (rl ++ [(⟨#[112, 114, 101, 102, 105, 120]⟩, x)])) by
        rcases hs with ⟨rfl, _⟩ | ⟨_, rfl, _⟩ <;> simpa [h3f, isNilD] using H
      exact REr_by _ _ .refl ⟨rfl, d', hend⟩
theorem ok42 {G : Nat → DV} (h0 h : List Blk) (q f : Nat) (a b c d e : List UInt8) (evd rd : DV) (ev : List ByteArray) (rl : List Rule) (x : ByteArray) (s : Cf h0 h q f a b c d e evd rd ev rl) (hl : rl.length ≤ 4) (hn : ∀ r ∈ rl, r.1 ≠ ⟨#[115, 117, 102, 102, 105, 120]⟩) :
    OkR Try.prog G 42 [.ptr q 0 0 1, .p (.string x)] h (AfR h0 q f a b c d e evd ev (rl ++ [(⟨#[115, 117, 102, 102, 105, 120]⟩, x)])) := by
  refine OkR_by Try.func42 c42_ok r42_ok 71 rfl ?_
  have hq := s.at_q
  unfold cfgD at hq
  have hf := s.at_f
  simp [c42, r42, hq, hf]
  have s1 := s.push [.cells 2 [.agg [.p (.string ⟨#[115, 117, 102, 102, 105, 120]⟩), .p (.string x)]]]
  have hq1 := s1.at_q
  unfold cfgD at hq1
  have hf1 := s1.at_f
  simp [hq1, hf1]
  have hx1 : (h ++ [Blk.cells 2 [DV.agg [.p (.string ⟨#[115, 117, 102, 102, 105, 120]⟩), .p (.string x)]]])[h.length]? = some (.cells 2 [.agg [.p (.string ⟨#[115, 117, 102, 102, 105, 120]⟩), .p (.string x)]]) := by simp
  have hp1 : HPre h (h ++ [Blk.cells 2 [DV.agg [.p (.string ⟨#[115, 117, 102, 102, 105, 120]⟩), .p (.string x)]]]) := HPre.append _ _
  generalize h ++ [Blk.cells 2 [DV.agg [.p (.string ⟨#[115, 117, 102, 102, 105, 120]⟩), .p (.string x)]]] = h1 at *
  have hlr : (rlD rl).length = rl.length := by simp [rlD]
  have hlN : h.length ≠ q ∧ h.length ≠ f ∧ ∀ i, inBlk rd i → i ≠ h.length := ⟨by have := s.q_lt; omega, by have := s.f_lt; omega, fun i hi => by have := s.rs.lt hi; omega⟩
  obtain ⟨hv, hvw, hvq, hvf, hvx, hvg⟩ : ∃ hv, HV hv h1 ∧ hv[q]? = h1[q]? ∧ hv[f]? = h1[f]? ∧ hv[h.length]? = h1[h.length]? ∧ ∀ i, inBlk rd i → hv[i]? = some .dead := by
    rcases s1.rs with ⟨rfl, _⟩ | ⟨g, rfl, hg⟩
    · exact ⟨h1, HV.refl _, rfl, rfl, rfl, fun i hi => hi.elim⟩
    · obtain ⟨_, nq, nf, _⟩ := s.rn g rfl
      have nx := hlN.2.2 g rfl
      have hgl : g < h1.length := (List.getElem?_eq_some_iff.1 hg).1
      exact ⟨h1.set g .dead, HV_hide, List.getElem?_set_ne nq, List.getElem?_set_ne nf, List.getElem?_set_ne nx, fun i hi => by cases hi; simp [hgl]⟩
  rw [hq1] at hvq
  rw [hf1] at hvf
  rw [hx1] at hvx
  rcases s1.rs with ⟨rfl, hnil⟩ | ⟨g, rfl, hg⟩
  · have hrl0 : rl = [] := by
      have := congrArg List.length hnil
      simpa [rlD] using this
    subst hrl0
    simp
    refine VV_unroll 1 ?_
    simp
    refine VV_rgv hv hvw ?_
    simp [hvq, hvf, hvx, isNilD]
    have hvl : HV hv (h1 ++ [.cells 2 [.agg [.p (.string ⟨#[115, 117, 102, 102, 105, 120]⟩), .p (.string x)]]]) := hvw.trans (HPre.append _ _).toV
    simp [hvl]
    have s2 := s1.push [.cells 2 [.agg [.p (.string ⟨#[115, 117, 102, 102, 105, 120]⟩), .p (.string x)]]]
    have hy2 : elemsOf (h1 ++ [.cells 2 [.agg [.p (.string ⟨#[115, 117, 102, 102, 105, 120]⟩), .p (.string x)]]]) 2 (.sl h1.length 0 1 1) = some (rlD [(⟨#[115, 117, 102, 102, 105, 120]⟩, x)]) := by simp [elemsOf, rlD]
    have hx2 : (h1 ++ [Blk.cells 2 [.agg [.p (.string ⟨#[115, 117, 102, 102, 105, 120]⟩), .p (.string x)]]])[h.length]? = some (.cells 2 [.agg [.p (.string ⟨#[115, 117, 102, 102, 105, 120]⟩), .p (.string x)]]) := get_pre hx1 _
    generalize h1 ++ [Blk.cells 2 [.agg [.p (.string ⟨#[115, 117, 102, 102, 105, 120]⟩), .p (.string x)]]] = h2 at *
    refine DA_slS s2.rs hy2 (by simp [rlD]) ?_
    intro d' h3 hs hk
    have hnr : ∀ i, inBlk (.p (.slice none 0 0)) i → i ≠ q ∧ i ≠ f := fun i hi => ⟨(s2.rn i hi).2.1, (s2.rn i hi).2.2.1⟩
    have h3q : h3[q]? = some (.cells 8 [cfgD a b c d e evd (.ptr f 0 0 1)]) := by rw [hk.old q s2.q_lt (fun h => (hnr q h).1 rfl)]; exact s2.at_q
    have h3f : h3[f]? = some (.cells 1 [.agg [(.p (.slice none 0 0))]]) := by rw [hk.old f s2.f_lt (fun h => (hnr f h).2 rfl)]; exact s2.at_f
    have hv3 : HV hv h3 := fun i k hi => by
      by_cases hr : inBlk (.p (.slice none 0 0)) i
      · rw [hvg i hr] at hi; cases hi; exact .inr rfl
      · rcases hvl i k hi with e1 | e1
        · exact .inl (by rw [hk.old i (List.getElem?_eq_some_iff.1 e1).1 hr]; exact e1)
        · exact .inr e1
    rw [rlD_append] at hs
    have hend : Cf h0 (h3.set f (.cells 1 [.agg [d']])) q f a b c d e evd d' ev _ := s2.app hs hk
    have hpre : HPre h0 (h3.set f (.cells 1 [.agg [d']])) := hend.pre
    simp [hv3]
    suffices H : REr h (some []) (h3.set f (.cells 1 [.agg [d']])) (AfR h0 q f a b c d e evd ev ([] ++ [(⟨#[115, 117, 102, 102, 105, 120]⟩, x)])) by
      rcases hs with ⟨rfl, _⟩ | ⟨_, rfl, _⟩ <;> simpa [h3f, isNilD] using H
    exact REr_by _ _ .refl ⟨rfl, d', hend⟩
  · simp [hlr]
    refine VV_fam (fun i : Nat => ⟨fr 73 [(0, .ptr q 0 0 1), (4, .ptr h.length 0 0 1), (26, .p (.int .i64 rl.length)), (27, .p (.int .i64 i))], h1⟩) (fun i => i ≤ rl.length) (fun i => rl.length - i) 0 (by simp) (Wk.fits (by simp [hlr])) ?_
    intro i hi B hb he hr
    simp
    refine CC_by (fun hc => ?_) (fun hc => ?_)
    · have hc : i < rl.length := by simpa using hc
      have hci : (i : Int) < (rl.length : Int) := by omega
      have hgi : (rlD rl)[i]? = some (.agg [.p (.string rl[i].1), .p (.string rl[i].2)]) := by simp [rlD, hc]
      have hne : ¬ (rl[i].1 = ⟨#[115, 117, 102, 102, 105, 120]⟩) := hn _ (List.getElem_mem hc)
      have hw : IntKind.i64.wrap ((i : Int) + 1) = ((i + 1 : Nat) : Int) := wrap_succ (n := 4) (by omega) (by omega)
      simp [hq1, hf1, isNilD, hlr, hg, hci, hc, hgi, hne, hw]
      exact hb _ (i + 1) (Wk.fits (by simp)) (by omega) (by omega)
    · simp
      refine he _ _ ?_
      simp
      refine VV_rgv hv hvw ?_
      simp [hvq, hvf, hvx, isNilD]
      have hvl : HV hv (h1 ++ [.cells 2 [.agg [.p (.string ⟨#[115, 117, 102, 102, 105, 120]⟩), .p (.string x)]]]) := hvw.trans (HPre.append _ _).toV
      simp [hvl]
      have s2 := s1.push [.cells 2 [.agg [.p (.string ⟨#[115, 117, 102, 102, 105, 120]⟩), .p (.string x)]]]
      have hy2 : elemsOf (h1 ++ [.cells 2 [.agg [.p (.string ⟨#[115, 117, 102, 102, 105, 120]⟩), .p (.string x)]]]) 2 (.sl h1.length 0 1 1) = some (rlD [(⟨#[115, 117, 102, 102, 105, 120]⟩, x)]) := by simp [elemsOf, rlD]
      have hx2 : (h1 ++ [Blk.cells 2 [.agg [.p (.string ⟨#[115, 117, 102, 102, 105, 120]⟩), .p (.string x)]]])[h.length]? = some (.cells 2 [.agg [.p (.string ⟨#[115, 117, 102, 102, 105, 120]⟩), .p (.string x)]]) := get_pre hx1 _
      generalize h1 ++ [Blk.cells 2 [.agg [.p (.string ⟨#[115, 117, 102, 102, 105, 120]⟩), .p (.string x)]]] = h2 at *
      refine DA_slS (show SlS 2 h2 (.sl g 0 rl.length rl.length) (rlD rl) by have := s2.rs; rwa [hlr] at this) hy2 (by simp [rlD]; omega) ?_
      intro d' h3 hs hk
      rw [← hlr] at hk
      have hnr : ∀ i, inBlk (.sl g 0 (rlD rl).length (rlD rl).length) i → i ≠ q ∧ i ≠ f := fun i hi => ⟨(s2.rn i hi).2.1, (s2.rn i hi).2.2.1⟩
      have h3q : h3[q]? = some (.cells 8 [cfgD a b c d e evd (.ptr f 0 0 1)]) := by rw [hk.old q s2.q_lt (fun h => (hnr q h).1 rfl)]; exact s2.at_q
      have h3f : h3[f]? = some (.cells 1 [.agg [(.sl g 0 (rlD rl).length (rlD rl).length)]]) := by rw [hk.old f s2.f_lt (fun h => (hnr f h).2 rfl)]; exact s2.at_f
      have hv3 : HV hv h3 := fun i k hi => by
        by_cases hr : inBlk (.sl g 0 (rlD rl).length (rlD rl).length) i
        · rw [hvg i hr] at hi; cases hi; exact .inr rfl
        · rcases hvl i k hi with e1 | e1
          · exact .inl (by rw [hk.old i (List.getElem?_eq_some_iff.1 e1).1 hr]; exact e1)
          · exact .inr e1
      rw [rlD_append] at hs
      have hend : Cf h0 (h3.set f (.cells 1 [.agg [d']])) q f a b c d e evd d' ev _ := s2.app hs hk
      have hpre : HPre h0 (h3.set f (.cells 1 [.agg [d']])) := hend.pre
      simp [hv3]
      suffices H : REr h (some []) (h3.set f (.cells 1 [.agg [d']])) (AfR h0 q f a b c d e evd ev (rl ++ [(⟨#[115, 117, 102, 102, 105, 120]⟩, x)])) by
        rcases hs with ⟨rfl, _⟩ | ⟨_, rfl, _⟩ <;> simpa [h3f, isNilD] using H
      exact REr_by _ _ .refl ⟨rfl, d', hend⟩

end Go.Proofs.Ythkgekkpnldbmaa
