/- The law: what Notify answers is what the reference has. -/
import Derived.Test.YthkgekkpnldbmaaNfU
set_option linter.unusedVariables false
set_option linter.unusedSimpArgs false
set_option maxRecDepth 100000
set_option maxHeartbeats 4000000
namespace Go.Proofs.Ythkgekkpnldbmaa
open Go Go.Den Go.Proofs
/-- Three lists in one block. -/
structure T3 (h0 H : List Blk) (q : Nat) (D : Fin 3 → DV) (l : Fin 3 → List N) : Prop where
  pre : HPre h0 H
  at_q : H[q]? = some (.cells 3 [.agg [D 0, D 1, D 2]])
  ql : h0.length ≤ q
  sl : ∀ m, SlS 9 H (D m) (nts (l m))
  nw : ∀ m i, inBlk (D m) i → h0.length ≤ i ∧ i ≠ q
  ap : ∀ m m' i, inBlk (D m) i → inBlk (D m') i → m = m'
theorem T3.push {h0 H : List Blk} {q : Nat} {D : Fin 3 → DV} {l : Fin 3 → List N} (s : T3 h0 H q D l) (x : List Blk) : T3 h0 (H ++ x) q D l :=
  ⟨s.pre.trans (HPre.append _ _), get_pre s.at_q x, s.ql, fun m => (s.sl m).of fun i hi => by rw [(s.sl m).blk hi]; exact get_pre ((s.sl m).blk hi) x, s.nw, s.ap⟩
theorem T3.app {h0 H h' : List Blk} {q : Nat} {D : Fin 3 → DV} {l : Fin 3 → List N} (s : T3 h0 H q D l) (m : Fin 3) {d' : DV} {l' : List N} (hs : SlS 9 h' d' (nts l')) (hk : Keep H h' (D m) d') :
    T3 h0 (h'.set q (.cells 3 [.agg [up D m d' 0, up D m d' 1, up D m d' 2]])) q (up D m d') (up l m l') := by
  have hqH : q < H.length := (List.getElem?_eq_some_iff.1 s.at_q).1
  have hpl := s.pre.length
  have hn : ∀ i, inBlk d' i → h0.length ≤ i ∧ i ≠ q := fun i hi => by
    rcases hk.new i hi with h1 | h1
    · exact s.nw m i h1
    · exact ⟨by omega, by omega⟩
  refine ⟨fun i x hi => ?_, by rw [List.getElem?_set_self (Nat.lt_of_lt_of_le hqH hk.len)], s.ql, fun m' => ?_, fun m' i hi => ?_, fun m1 m2 i h1 h2 => ?_⟩
  · have h1 : i < h0.length := (List.getElem?_eq_some_iff.1 hi).1
    have h2 := s.pre i x hi
    have := s.ql
    rw [List.getElem?_set_ne (by omega), hk.old i (by omega) (fun h => by have := (s.nw m i h).1; omega)]
    exact h2
  · by_cases hm : m' = m
    · rw [hm, up_same, up_same]
      exact hs.of fun i hi => List.getElem?_set_ne (Ne.symm (hn i hi).2)
    · rw [up_ne D d' hm, up_ne l l' hm]
      refine (s.sl m').of fun i hi => ?_
      rw [List.getElem?_set_ne (Ne.symm (s.nw m' i hi).2)]
      exact hk.old i ((s.sl m').lt hi) fun h => hm (s.ap m' m i hi h)
  · by_cases hm : m' = m
    · rw [hm, up_same] at hi; exact hn i hi
    · rw [up_ne D d' hm] at hi; exact s.nw m' i hi
  · by_cases hm : m1 = m
    · by_cases hm' : m2 = m
      · rw [hm, hm']
      · rw [hm, up_same] at h1
        rw [up_ne D d' hm'] at h2
        rcases hk.new i h1 with h3 | h3
        · exact absurd (s.ap m2 m i h2 h3) hm'
        · have := (s.sl m2).lt h2; omega
    · by_cases hm' : m2 = m
      · rw [hm', up_same] at h2
        rw [up_ne D d' hm] at h1
        rcases hk.new i h2 with h3 | h3
        · exact absurd (s.ap m1 m i h1 h3) hm
        · have := (s.sl m1).lt h1; omega
      · rw [up_ne D d' hm] at h1
        rw [up_ne D d' hm'] at h2
        exact s.ap m1 m2 i h1 h2
theorem ofK_push (k : Int) (l : List N) (n : N) : ofK k (l ++ [n]) = if n.k = k then ofK k l ++ [n] else ofK k l := by
  by_cases h : n.k = k
  · simp [ofK, List.filter_append, List.filter_cons, h]
  · simp [ofK, List.filter_append, List.filter_cons, h]
def k3 : Fin 3 → Int := fun m => (m.val : Int)
theorem T3.step {h0 H h' : List Blk} {q : Nat} {D : Fin 3 → DV} {l : List N} {n : N} {m : Fin 3} (s : T3 h0 H q D fun m => ofK (k3 m) l) (hm : n.k = k3 m) {d' : DV} (hs : SlS 9 h' d' (nts (ofK (k3 m) l ++ [n]))) (hk : Keep H h' (D m) d') :
    T3 h0 (h'.set q (.cells 3 [.agg [up D m d' 0, up D m d' 1, up D m d' 2]])) q (up D m d') fun m => ofK (k3 m) (l ++ [n]) := by
  have := s.app m hs hk
  have e : (up (fun m => ofK (k3 m) l) m (ofK (k3 m) l ++ [n])) = fun m => ofK (k3 m) (l ++ [n]) := by
    funext j
    rw [ofK_push]
    by_cases hj : j = m
    · rw [hj, up_same, if_pos hm]
    · rw [up_ne _ _ hj, if_neg]
      intro hh
      rw [hm] at hh
      apply hj
      apply Fin.ext
      simp only [k3] at hh
      omega
  rwa [e] at this
theorem HWF_nil : HWF [] := fun b k h => by simp at h
theorem HPre_nil {H : List Blk} : HPre [] H := fun b k h => by simp at h
theorem SlS.own0 {H : List Blk} {d : DV} {l : List N} (s : SlS 9 H d (nts l)) : Own [] 9 H d (nts l) := ⟨HPre_nil, s.imp id fun ⟨b, h1, h2⟩ => ⟨b, h1, Nat.zero_le _, h2⟩⟩
theorem ok8l {G : Nat → DV} (hG : GZ G) {H : List Blk} {d : DV} {l l' : List N} (s : SlS 9 H d (nts l')) (hl : l.length ≤ 14) (hgd : ∀ x ∈ l, Good x) (e : l = l') :
    Ok Try.prog G 8 [.fz 9 (nts l), d] H (.p (.bool true)) H :=
  Ok.lend hG (ok8n [] l l' (by omega) (fun n hn => (hgd n hn).few) e) (.cons (FrzR_nts l HPre_nil HWF_nil) (.cons (Own.frzN (SlS.own0 s) HWF_nil) .nil)) rfl
theorem ofK_len (k : Int) (l : List N) : (ofK k l).length ≤ l.length := List.length_filter_le _ _
theorem ofK_mem {k : Int} {l : List N} {x : N} (h : x ∈ ofK k l) : x ∈ l := (List.mem_filter.1 h).1
theorem w3d {G : Nat → DV} (hG : GZ G) {h H0 H : List Blk} (hp : HPre h H0) (l : List N) (hl : l.length ≤ 14) (hgd : ∀ x ∈ l, Good x) (q : Nat) (D : Fin 3 → DV) (s : T3 H0 H q D fun m => ofK (k3 m) l) (L : Fin 3 → List N) (hL : ∀ k : Int, 0 ≤ k → k < 3 → L (kx k) = ofK k l) :
    VV Try.prog G h c3T4 ⟨fr 200 [(20, .fz 9 (nts (L 1))), (21, .fz 9 (nts (L 2))), (22, .fz 9 (nts (L 0))), (26, .ptr q 0 0 1)], H⟩ [] (RR h r3 (.p (.bool true)) h) := by
  have hq := s.at_q
  have g0 : L 1 = ofK 0 l := hL 0 (by decide) (by decide)
  have g1 : L 2 = ofK 1 l := hL 1 (by decide) (by decide)
  have g2 : L 0 = ofK 2 l := hL 2 (by decide) (by decide)
  have hx : ∀ k, (ofK k l).length ≤ 14 := fun k => Nat.le_trans (ofK_len k l) hl
  have hgx : ∀ k, ∀ x ∈ ofK k l, Good x := fun k x hx => hgd x (ofK_mem hx)
  have hpp : HPre h H := hp.trans s.pre
  simp [c3T4, hq]
  refine FF_by (ok8l hG (s.sl 0) (by rw [g0]; exact hx 0) (by rw [g0]; exact hgx 0) g0) ?_
  simp [hq]
  refine FF_by (ok8l hG (s.sl 1) (by rw [g1]; exact hx 1) (by rw [g1]; exact hgx 1) g1) ?_
  simp [hq]
  refine FF_by (ok8l hG (s.sl 2) (by rw [g2]; exact hx 2) (by rw [g2]; exact hgx 2) g2) ?_
  simp [r3]
  exact WkV.ofPure hpp rfl
theorem w3c {G : Nat → DV} (hG : GZ G) {h H0 : List Blk} (hp : HPre h H0) (l : List N) (hl : l.length ≤ 14) (hgd : ∀ x ∈ l, Good x) (L : Fin 3 → List N) (hL : ∀ k : Int, 0 ≤ k → k < 3 → L (kx k) = ofK k l) :
    VV Try.prog G h c3T2 ⟨fr 200 [(4, .fz 9 (nts l)), (20, .fz 9 (nts (L 1))), (21, .fz 9 (nts (L 2))), (22, .fz 9 (nts (L 0)))], H0⟩ [] (RR h r3 (.p (.bool true)) h) := by
  simp [c3T2]
  refine VV_famW (fun x : Nat × (Fin 3 → DV) × List Blk => ⟨fr 200 [(20, .fz 9 (nts (L 1))), (21, .fz 9 (nts (L 2))), (22, .fz 9 (nts (L 0))), (26, .ptr H0.length 0 0 1), (167, .fz 9 (nts l)), (168, .p (.int .i64 l.length)), (169, .p (.int .i64 x.1))], x.2.2⟩)
    (fun x => x.1 ≤ l.length ∧ T3 H0 x.2.2 H0.length x.2.1 fun m => ofK (k3 m) (l.take x.1)) (fun x => l.length - x.1) (0, fun _ => .p (.slice none 0 0), H0 ++ [.cells 3 [.agg [.p (.slice none 0 0), .p (.slice none 0 0), .p (.slice none 0 0)]]]) ⟨by simp, ?_⟩ (Wk.fits (by simp)) ?_
  · exact ⟨HPre.append _ _, by simp, Nat.le_refl _, fun m => .nil, fun m i h => h.elim, fun m m' i h => h.elim⟩
  rintro ⟨i, D, H⟩ ⟨hi, s⟩ B hb he hr
  simp only at hi s
  simp
  refine CC_by (fun h2 => ?_) (fun h2 => ?_)
  · have hi' : i < l.length := by simpa using h2
    have hadd : IntKind.i64.wrap ((i : Int) + 1) = ((i + 1 : Nat) : Int) := wrap_succ hi' (by omega)
    have htk : l.take (i + 1) = l.take i ++ [l[i]] := List.take_succ_eq_append_getElem hi'
    have hgx := hgd l[i] (List.getElem_mem hi')
    simp [hi']
    generalize l[i] = n at htk hgx ⊢
    simp [ntN, ntD]
    rcases (show n.k = 0 ∨ n.k = 1 ∨ n.k = 2 by have := hgx.k0; have := hgx.k3; omega) with hk | hk | hk
    · have s1 := s.push [.cells 9 [.agg [.p (.int .i64 0), .p (.string (S n.a)), .p (.string (S n.b)), .p (.string (S n.c)), .p (.string (S n.d)), .p (.string (S n.e)), .fz 1 (strs n.ev), .fz 1 (strs n.p), .fz 1 (strs n.s)]]]
      rw [hk]
      have hx1 : (H ++ [Blk.cells 9 [.agg [.p (.int .i64 0), .p (.string (S n.a)), .p (.string (S n.b)), .p (.string (S n.c)), .p (.string (S n.d)), .p (.string (S n.e)), .fz 1 (strs n.ev), .fz 1 (strs n.p), .fz 1 (strs n.s)]]])[H.length]? = some (.cells 9 [.agg [.p (.int .i64 0), .p (.string (S n.a)), .p (.string (S n.b)), .p (.string (S n.c)), .p (.string (S n.d)), .p (.string (S n.e)), .fz 1 (strs n.ev), .fz 1 (strs n.p), .fz 1 (strs n.s)]]) := by simp
      have hHl : ∀ i, inBlk (D 0) i → i ≠ H.length := fun i hi => by have := (s.sl 0).lt hi; omega
      generalize H ++ [Blk.cells 9 [.agg [.p (.int .i64 0), .p (.string (S n.a)), .p (.string (S n.b)), .p (.string (S n.c)), .p (.string (S n.d)), .p (.string (S n.e)), .fz 1 (strs n.ev), .fz 1 (strs n.p), .fz 1 (strs n.s)]]] = h1 at s1 hx1 ⊢
      have hq1 := s1.at_q
      obtain ⟨hv, hvw, hvq, hvx, hvg⟩ : ∃ hv, HV hv h1 ∧ hv[H0.length]? = h1[H0.length]? ∧ hv[H.length]? = h1[H.length]? ∧ ∀ i, inBlk (D 0) i → hv[i]? = some .dead := by
        rcases s1.sl 0 with ⟨hd, _⟩ | ⟨g, hd, hg⟩
        · exact ⟨h1, HV.refl _, rfl, rfl, fun i hi => by rw [hd] at hi; exact hi.elim⟩
        · have hin : inBlk (D 0) g := by rw [hd]; rfl
          have nq := (s.nw 0 g hin).2
          have nx := hHl g hin
          have hgl : g < h1.length := (List.getElem?_eq_some_iff.1 hg).1
          exact ⟨h1.set g .dead, HV_hide, List.getElem?_set_ne nq, List.getElem?_set_ne nx, fun i hi => by rw [hd] at hi; cases hi; simp [hgl]⟩
      rw [hq1] at hvq
      rw [hx1] at hvx
      refine VV_rgv hv hvw ?_
      simp [hvq, hvx]
      have hvl : HV hv (h1 ++ [.cells 9 [ntN n]]) := hvw.trans (HPre.append _ _).toV
      have s2 := s1.push [.cells 9 [ntN n]]
      have hy2 : elemsOf (h1 ++ [.cells 9 [DV.agg [.p (.int .i64 0), .p (.string (S n.a)), .p (.string (S n.b)), .p (.string (S n.c)), .p (.string (S n.d)), .p (.string (S n.e)), .fz 1 (strs n.ev), .fz 1 (strs n.p), .fz 1 (strs n.s)]]]) 9 (.sl h1.length 0 1 1) = some [DV.agg [.p (.int .i64 0), .p (.string (S n.a)), .p (.string (S n.b)), .p (.string (S n.c)), .p (.string (S n.d)), .p (.string (S n.e)), .fz 1 (strs n.ev), .fz 1 (strs n.p), .fz 1 (strs n.s)]] := by simp [elemsOf]
      simp [ntN, ntD, hk] at hvl s2
      simp [hvl]
      generalize h1 ++ [Blk.cells 9 [DV.agg [.p (.int .i64 0), .p (.string (S n.a)), .p (.string (S n.b)), .p (.string (S n.c)), .p (.string (S n.d)), .p (.string (S n.e)), .fz 1 (strs n.ev), .fz 1 (strs n.p), .fz 1 (strs n.s)]]] = h2 at *
      refine DA_slS (s2.sl 0) hy2 (by have := ofK_len (k3 0) (l.take i); simp at this ⊢; omega) ?_
      intro d' h3 hs hkp
      have hnq : ¬ inBlk (D 0) H0.length := fun h => (s.nw 0 _ h).2 rfl
      have h3q : h3[H0.length]? = some (.cells 3 [.agg [D 0, D 1, D 2]]) := by rw [hkp.old _ (List.getElem?_eq_some_iff.1 s2.at_q).1 hnq]; exact s2.at_q
      have hv3 : HV hv h3 := fun i k hi => by
        by_cases hr : inBlk (D 0) i
        · rw [hvg i hr] at hi; cases hi; exact .inr rfl
        · rcases hvl i k hi with e1 | e1
          · exact .inl (by rw [hkp.old i (List.getElem?_eq_some_iff.1 e1).1 hr]; exact e1)
          · exact .inr e1
      have hs' : SlS 9 h3 d' (nts (ofK (k3 0) (l.take i) ++ [n])) := by simpa [nts, ntN, ntD, hk] using hs
      have hend := s2.step (n := n) (m := 0) (show n.k = k3 0 from hk) hs' hkp
      rw [← htk] at hend
      have hdd : d' = .p (.slice none 0 0) ∨ ∃ b m, d' = .sl b 0 m m := hs'.imp (fun h => h.1) (fun ⟨b, h, _⟩ => ⟨b, _, h⟩)
      simp [hv3]
      rcases hdd with rfl | ⟨b, m, rfl⟩
      · simp [h3q, hadd]
        exact hb _ (i + 1, _, _) (Wk.fits (by simp)) ⟨hi', hend⟩ (by simp; omega)
      · simp [h3q, hadd]
        exact hb _ (i + 1, _, _) (Wk.fits (by simp)) ⟨hi', hend⟩ (by simp; omega)
    · have s1 := s.push [.cells 9 [.agg [.p (.int .i64 1), .p (.string (S n.a)), .p (.string (S n.b)), .p (.string (S n.c)), .p (.string (S n.d)), .p (.string (S n.e)), .fz 1 (strs n.ev), .fz 1 (strs n.p), .fz 1 (strs n.s)]]]
      rw [hk]
      have hx1 : (H ++ [Blk.cells 9 [.agg [.p (.int .i64 1), .p (.string (S n.a)), .p (.string (S n.b)), .p (.string (S n.c)), .p (.string (S n.d)), .p (.string (S n.e)), .fz 1 (strs n.ev), .fz 1 (strs n.p), .fz 1 (strs n.s)]]])[H.length]? = some (.cells 9 [.agg [.p (.int .i64 1), .p (.string (S n.a)), .p (.string (S n.b)), .p (.string (S n.c)), .p (.string (S n.d)), .p (.string (S n.e)), .fz 1 (strs n.ev), .fz 1 (strs n.p), .fz 1 (strs n.s)]]) := by simp
      have hHl : ∀ i, inBlk (D 1) i → i ≠ H.length := fun i hi => by have := (s.sl 1).lt hi; omega
      generalize H ++ [Blk.cells 9 [.agg [.p (.int .i64 1), .p (.string (S n.a)), .p (.string (S n.b)), .p (.string (S n.c)), .p (.string (S n.d)), .p (.string (S n.e)), .fz 1 (strs n.ev), .fz 1 (strs n.p), .fz 1 (strs n.s)]]] = h1 at s1 hx1 ⊢
      have hq1 := s1.at_q
      obtain ⟨hv, hvw, hvq, hvx, hvg⟩ : ∃ hv, HV hv h1 ∧ hv[H0.length]? = h1[H0.length]? ∧ hv[H.length]? = h1[H.length]? ∧ ∀ i, inBlk (D 1) i → hv[i]? = some .dead := by
        rcases s1.sl 1 with ⟨hd, _⟩ | ⟨g, hd, hg⟩
        · exact ⟨h1, HV.refl _, rfl, rfl, fun i hi => by rw [hd] at hi; exact hi.elim⟩
        · have hin : inBlk (D 1) g := by rw [hd]; rfl
          have nq := (s.nw 1 g hin).2
          have nx := hHl g hin
          have hgl : g < h1.length := (List.getElem?_eq_some_iff.1 hg).1
          exact ⟨h1.set g .dead, HV_hide, List.getElem?_set_ne nq, List.getElem?_set_ne nx, fun i hi => by rw [hd] at hi; cases hi; simp [hgl]⟩
      rw [hq1] at hvq
      rw [hx1] at hvx
      refine VV_rgv hv hvw ?_
      simp [hvq, hvx]
      have hvl : HV hv (h1 ++ [.cells 9 [ntN n]]) := hvw.trans (HPre.append _ _).toV
      have s2 := s1.push [.cells 9 [ntN n]]
      have hy2 : elemsOf (h1 ++ [.cells 9 [DV.agg [.p (.int .i64 1), .p (.string (S n.a)), .p (.string (S n.b)), .p (.string (S n.c)), .p (.string (S n.d)), .p (.string (S n.e)), .fz 1 (strs n.ev), .fz 1 (strs n.p), .fz 1 (strs n.s)]]]) 9 (.sl h1.length 0 1 1) = some [DV.agg [.p (.int .i64 1), .p (.string (S n.a)), .p (.string (S n.b)), .p (.string (S n.c)), .p (.string (S n.d)), .p (.string (S n.e)), .fz 1 (strs n.ev), .fz 1 (strs n.p), .fz 1 (strs n.s)]] := by simp [elemsOf]
      simp [ntN, ntD, hk] at hvl s2
      simp [hvl]
      generalize h1 ++ [Blk.cells 9 [DV.agg [.p (.int .i64 1), .p (.string (S n.a)), .p (.string (S n.b)), .p (.string (S n.c)), .p (.string (S n.d)), .p (.string (S n.e)), .fz 1 (strs n.ev), .fz 1 (strs n.p), .fz 1 (strs n.s)]]] = h2 at *
      refine DA_slS (s2.sl 1) hy2 (by have := ofK_len (k3 1) (l.take i); simp at this ⊢; omega) ?_
      intro d' h3 hs hkp
      have hnq : ¬ inBlk (D 1) H0.length := fun h => (s.nw 1 _ h).2 rfl
      have h3q : h3[H0.length]? = some (.cells 3 [.agg [D 0, D 1, D 2]]) := by rw [hkp.old _ (List.getElem?_eq_some_iff.1 s2.at_q).1 hnq]; exact s2.at_q
      have hv3 : HV hv h3 := fun i k hi => by
        by_cases hr : inBlk (D 1) i
        · rw [hvg i hr] at hi; cases hi; exact .inr rfl
        · rcases hvl i k hi with e1 | e1
          · exact .inl (by rw [hkp.old i (List.getElem?_eq_some_iff.1 e1).1 hr]; exact e1)
          · exact .inr e1
      have hs' : SlS 9 h3 d' (nts (ofK (k3 1) (l.take i) ++ [n])) := by simpa [nts, ntN, ntD, hk] using hs
      have hend := s2.step (n := n) (m := 1) (show n.k = k3 1 from hk) hs' hkp
      rw [← htk] at hend
      have hdd : d' = .p (.slice none 0 0) ∨ ∃ b m, d' = .sl b 0 m m := hs'.imp (fun h => h.1) (fun ⟨b, h, _⟩ => ⟨b, _, h⟩)
      simp [hv3]
      rcases hdd with rfl | ⟨b, m, rfl⟩
      · simp [h3q, hadd]
        exact hb _ (i + 1, _, _) (Wk.fits (by simp)) ⟨hi', hend⟩ (by simp; omega)
      · simp [h3q, hadd]
        exact hb _ (i + 1, _, _) (Wk.fits (by simp)) ⟨hi', hend⟩ (by simp; omega)
    · have s1 := s.push [.cells 9 [.agg [.p (.int .i64 2), .p (.string (S n.a)), .p (.string (S n.b)), .p (.string (S n.c)), .p (.string (S n.d)), .p (.string (S n.e)), .fz 1 (strs n.ev), .fz 1 (strs n.p), .fz 1 (strs n.s)]]]
      rw [hk]
      have hx1 : (H ++ [Blk.cells 9 [.agg [.p (.int .i64 2), .p (.string (S n.a)), .p (.string (S n.b)), .p (.string (S n.c)), .p (.string (S n.d)), .p (.string (S n.e)), .fz 1 (strs n.ev), .fz 1 (strs n.p), .fz 1 (strs n.s)]]])[H.length]? = some (.cells 9 [.agg [.p (.int .i64 2), .p (.string (S n.a)), .p (.string (S n.b)), .p (.string (S n.c)), .p (.string (S n.d)), .p (.string (S n.e)), .fz 1 (strs n.ev), .fz 1 (strs n.p), .fz 1 (strs n.s)]]) := by simp
      have hHl : ∀ i, inBlk (D 2) i → i ≠ H.length := fun i hi => by have := (s.sl 2).lt hi; omega
      generalize H ++ [Blk.cells 9 [.agg [.p (.int .i64 2), .p (.string (S n.a)), .p (.string (S n.b)), .p (.string (S n.c)), .p (.string (S n.d)), .p (.string (S n.e)), .fz 1 (strs n.ev), .fz 1 (strs n.p), .fz 1 (strs n.s)]]] = h1 at s1 hx1 ⊢
      have hq1 := s1.at_q
      obtain ⟨hv, hvw, hvq, hvx, hvg⟩ : ∃ hv, HV hv h1 ∧ hv[H0.length]? = h1[H0.length]? ∧ hv[H.length]? = h1[H.length]? ∧ ∀ i, inBlk (D 2) i → hv[i]? = some .dead := by
        rcases s1.sl 2 with ⟨hd, _⟩ | ⟨g, hd, hg⟩
        · exact ⟨h1, HV.refl _, rfl, rfl, fun i hi => by rw [hd] at hi; exact hi.elim⟩
        · have hin : inBlk (D 2) g := by rw [hd]; rfl
          have nq := (s.nw 2 g hin).2
          have nx := hHl g hin
          have hgl : g < h1.length := (List.getElem?_eq_some_iff.1 hg).1
          exact ⟨h1.set g .dead, HV_hide, List.getElem?_set_ne nq, List.getElem?_set_ne nx, fun i hi => by rw [hd] at hi; cases hi; simp [hgl]⟩
      rw [hq1] at hvq
      rw [hx1] at hvx
      refine VV_rgv hv hvw ?_
      simp [hvq, hvx]
      have hvl : HV hv (h1 ++ [.cells 9 [ntN n]]) := hvw.trans (HPre.append _ _).toV
      have s2 := s1.push [.cells 9 [ntN n]]
      have hy2 : elemsOf (h1 ++ [.cells 9 [DV.agg [.p (.int .i64 2), .p (.string (S n.a)), .p (.string (S n.b)), .p (.string (S n.c)), .p (.string (S n.d)), .p (.string (S n.e)), .fz 1 (strs n.ev), .fz 1 (strs n.p), .fz 1 (strs n.s)]]]) 9 (.sl h1.length 0 1 1) = some [DV.agg [.p (.int .i64 2), .p (.string (S n.a)), .p (.string (S n.b)), .p (.string (S n.c)), .p (.string (S n.d)), .p (.string (S n.e)), .fz 1 (strs n.ev), .fz 1 (strs n.p), .fz 1 (strs n.s)]] := by simp [elemsOf]
      simp [ntN, ntD, hk] at hvl s2
      simp [hvl]
      generalize h1 ++ [Blk.cells 9 [DV.agg [.p (.int .i64 2), .p (.string (S n.a)), .p (.string (S n.b)), .p (.string (S n.c)), .p (.string (S n.d)), .p (.string (S n.e)), .fz 1 (strs n.ev), .fz 1 (strs n.p), .fz 1 (strs n.s)]]] = h2 at *
      refine DA_slS (s2.sl 2) hy2 (by have := ofK_len (k3 2) (l.take i); simp at this ⊢; omega) ?_
      intro d' h3 hs hkp
      have hnq : ¬ inBlk (D 2) H0.length := fun h => (s.nw 2 _ h).2 rfl
      have h3q : h3[H0.length]? = some (.cells 3 [.agg [D 0, D 1, D 2]]) := by rw [hkp.old _ (List.getElem?_eq_some_iff.1 s2.at_q).1 hnq]; exact s2.at_q
      have hv3 : HV hv h3 := fun i k hi => by
        by_cases hr : inBlk (D 2) i
        · rw [hvg i hr] at hi; cases hi; exact .inr rfl
        · rcases hvl i k hi with e1 | e1
          · exact .inl (by rw [hkp.old i (List.getElem?_eq_some_iff.1 e1).1 hr]; exact e1)
          · exact .inr e1
      have hs' : SlS 9 h3 d' (nts (ofK (k3 2) (l.take i) ++ [n])) := by simpa [nts, ntN, ntD, hk] using hs
      have hend := s2.step (n := n) (m := 2) (show n.k = k3 2 from hk) hs' hkp
      rw [← htk] at hend
      have hdd : d' = .p (.slice none 0 0) ∨ ∃ b m, d' = .sl b 0 m m := hs'.imp (fun h => h.1) (fun ⟨b, h, _⟩ => ⟨b, _, h⟩)
      simp [hv3]
      rcases hdd with rfl | ⟨b, m, rfl⟩
      · simp [h3q, hadd]
        exact hb _ (i + 1, _, _) (Wk.fits (by simp)) ⟨hi', hend⟩ (by simp; omega)
      · simp [h3q, hadd]
        exact hb _ (i + 1, _, _) (Wk.fits (by simp)) ⟨hi', hend⟩ (by simp; omega)
  · have hii : i = l.length := by simp at h2; omega
    subst hii
    rw [List.take_length] at s
    simp
    refine he _ _ ⟨fr 200 [(20, .fz 9 (nts (L 1))), (21, .fz 9 (nts (L 2))), (22, .fz 9 (nts (L 0))), (26, .ptr H0.length 0 0 1)], H⟩ (Wk.fits (by simp)) ?_
    simp
    exact w3d hG hp l hl hgd _ D s L hL
theorem w3b {G : Nat → DV} (hG : GZ G) {h H0 : List Blk} (hp : HPre h H0) (s : Sv) (hs : Sim s) (hl : s.l.length ≤ 14) (hq : s.q.length ≤ 14) (d13 d74 d75 d76 d77 d78 d79 d80 : DV) :
    VV Try.prog G h c3R ⟨fr 200 [(3, .fz 10 (sts s.q)), (4, .fz 9 (nts s.l)), (5, .fz 1 (bls s.o2)), (6, .fz 1 (bls s.o3)), (13, d13), (74, d74), (75, d75), (76, d76), (77, d77), (78, d78), (79, d79), (80, d80)], H0⟩ [] (RR h r3 (.p (.bool true)) h) := by
  have k7 := ok7 hG H0 s.q (by omega) hs.q0 hs.qg
  have hlen := iRun_len s.q L00
  simp only [n7, hs.o2, hs.o3] at k7 hlen
  simp [c3R]
  refine FF_by k7 ?_
  simp [hlen]
  have hat := hs.at_k
  generalize (iRun L00 s.q).1 = L at hat ⊢
  refine VV_famW (fun x : Nat × List Blk => ⟨fr 200 [(4, .fz 9 (nts s.l)), (5, .fz 1 (bls s.o2)), (6, .fz 1 (bls s.o3)), (18, .fz 1 (bls s.o2)), (19, .fz 1 (bls s.o3)), (20, .fz 9 (nts (L 1))), (21, .fz 9 (nts (L 2))), (22, .fz 9 (nts (L 0))), (118, .fz 10 (sts s.q)), (119, .p (.int .i64 s.q.length)), (120, .p (.int .i64 x.1))], x.2⟩)
    (fun x => x.1 ≤ s.q.length ∧ HPre h x.2) (fun x => s.q.length - x.1) (0, H0) ⟨by simp, hp⟩ (Wk.fits (by simp)) ?_
  rintro ⟨i, H⟩ ⟨hi, hp⟩ B hb he hr
  simp only at hi hp
  simp
  refine CC_by (fun h2 => ?_) (fun h2 => ?_)
  · have hi' : i < s.q.length := by simpa using h2
    have hadd : IntKind.i64.wrap ((i : Int) + 1) = ((i + 1 : Nat) : Int) := wrap_succ hi' (by omega)
    have hkx := hs.q0 s.q[i] (List.getElem_mem hi')
    simp [hi']
    generalize s.q[i] = x at hkx ⊢
    have i2 : i < s.o2.length := by omega
    have i3 : i < s.o3.length := by omega
    have gb2 : (bls s.o2)[i]'(by simpa using i2) = .p (.bool s.o2[i]) := by simp [bls]
    have gb3 : (bls s.o3)[i]'(by simpa using i3) = .p (.bool s.o3[i]) := by simp [bls]
    simp [stD]
    rcases hkx with hk | hk | hk
    · simp [hk, i2, i3, hadd, gb2, gb3]
      exact hb _ (i + 1, H ++ [_]) (Wk.fits (by simp)) ⟨hi', hp.trans (HPre.append _ _)⟩ (by simp; omega)
    · simp [hk, i2, i3, hadd, gb2, gb3]
      exact hb _ (i + 1, H ++ [_]) (Wk.fits (by simp)) ⟨hi', hp.trans (HPre.append _ _)⟩ (by simp; omega)
    · simp [hk, i2, i3, hadd, gb2, gb3]
      exact hb _ (i + 1, H ++ [_]) (Wk.fits (by simp)) ⟨hi', hp.trans (HPre.append _ _)⟩ (by simp; omega)
  · have hii : i = s.q.length := by simp at h2; omega
    subst hii
    simp
    refine he _ _ ⟨fr 200 [(4, .fz 9 (nts s.l)), (20, .fz 9 (nts (L 1))), (21, .fz 9 (nts (L 2))), (22, .fz 9 (nts (L 0)))], H⟩ (Wk.fits (by simp)) ?_
    simp
    exact w3c hG hp s.l hl hs.good L hat
theorem ofK_nil {l : List N} (hg : ∀ x ∈ l, Good x) (h : ∀ k : Int, 0 ≤ k → k < 3 → ofK k l = []) : l = [] := by
  cases l with
  | nil => rfl
  | cons x l =>
    have hx := hg x (by simp)
    have := h x.k hx.k0 hx.k3
    simp [ofK] at this
theorem w3a {G : Nat → DV} (hG : GZ G) (s : Sv) (hs : Sim s) (hl : s.l.length ≤ 14) (hq : s.q.length ≤ 14) (h2 : s.o2.length = s.q.length) (h3 : s.o3.length = s.q.length) :
    VV Try.prog G [] c3T0 ⟨fr 200 [(3, .fz 10 (sts s.q)), (4, .fz 9 (nts s.l)), (5, .fz 1 (bls s.o2)), (6, .fz 1 (bls s.o3))], []⟩ [] (RR [] r3 (.p (.bool true)) []) := by
  by_cases h0 : s.q = []
  · have e2 : s.o2 = [] := List.eq_nil_of_length_eq_zero (by rw [h2, h0]; rfl)
    have e3 : s.o3 = [] := List.eq_nil_of_length_eq_zero (by rw [h3, h0]; rfl)
    have el : s.l = [] := ofK_nil hs.good fun k k0 k3 => by
      have := hs.at_k k k0 k3
      rw [h0] at this
      rw [← this]
      rfl
    rw [h0, e2, e3, el]
    exact w3e hG
  · have hq0 : ¬ (s.q.length : Int) = 0 := fun h => h0 (List.eq_nil_of_length_eq_zero (by omega))
    simp [c3T0]
    refine CC_by (fun h => ?_) (fun h => ?_)
    · simp at h
      exact absurd h h0
    · simp
      have k := fun H => w3b hG (H0 := H) HPre_nil s hs hl hq
      simp at k
      exact k _ _ _ _ _ _ _ _ _
end Go.Proofs.Ythkgekkpnldbmaa
