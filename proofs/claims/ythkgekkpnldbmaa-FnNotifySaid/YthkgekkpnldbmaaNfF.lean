/- Configurations: one more (printed by genadd.py). -/
import Derived.Test.YthkgekkpnldbmaaNfE
set_option linter.unusedVariables false
set_option linter.unusedSimpArgs false
set_option maxRecDepth 100000
set_option maxHeartbeats 4000000
namespace Go.Proofs.Ythkgekkpnldbmaa
open Go Go.Den Go.Proofs
variable {X : Nat → Prop}

/-- What a step leaves alone. -/
structure KpW (H H' : List Blk) (bb : Nat) (D D' : Fin 3 → DV) : Prop where
  len : H.length ≤ H'.length
  old : ∀ i, i < H.length → ¬ Wr bb D i → H'[i]? = H[i]?
  new : ∀ i, Wr bb D' i → Wr bb D i ∨ H.length ≤ i
/-- A new configuration, as noticeOf leaves it over the blocks H0. -/
structure Nw (H0 H : List Blk) (n : N) (evd : DV) (f : Nat) (rd : DV) : Prop where
  pre : HPre H0 H
  at_f : H[f]? = some (.cells 1 [.agg [rd]])
  es : SlS 1 H evd (strs n.ev)
  rs : SlS 2 H rd (rlD (rls n.p n.s))
  fl : H0.length ≤ f
  el : ∀ i, inBlk evd i → H0.length ≤ i
  rl : ∀ i, inBlk rd i → H0.length ≤ i
theorem Nw.push {H0 H H' : List Blk} {n : N} {evd rd : DV} {f : Nat} (s : Nw H0 H n evd f rd) (hp : HPre H H') : Nw H0 H' n evd f rd := by
  have he : ∀ i, i < H.length → H'[i]? = H[i]? := fun i hi => by rw [List.getElem?_eq_getElem hi]; exact hp _ _ (List.getElem?_eq_getElem hi)
  exact ⟨s.pre.trans hp, hp _ _ s.at_f, s.es.of fun i hi => he i (SlS.lt s.es hi), s.rs.of fun i hi => he i (SlS.lt s.rs hi), s.fl, s.el, s.rl⟩
theorem Nw.cf {H0 H : List Blk} {n : N} {evd rd : DV} {f bb : Nat} {D : Fin 3 → DV} {L : Fin 3 → List N} (s : Nw H0 H n evd f rd) (c : Cs X H0 bb D L) : CfB H (Wx X bb D) n evd f rd :=
  ⟨s.at_f, s.es, s.rs, fun h => by have := c.ltx h; have := s.fl; omega, fun i hi h => by have := c.ltx h; have := s.el i hi; omega, fun i hi h => by have := c.ltx h; have := s.rl i hi; omega⟩
theorem txS (n : N) (h : Good n) {G : Nat → DV} (H : List Blk) : Ok Try.prog G 43 [.agg [.p (.string (S n.a)), .p (.string (S n.b)), .p (.string (S n.c)), .p (.string (S n.d)), .p (.string (S n.e))]] H (.p (.string (S n.tx))) H := by
  have g := fun x hx => (h.ar x hx).2
  simp only [N.ar, List.mem_cons, List.not_mem_nil, or_false, forall_eq_or_imp, forall_eq] at g
  exact ok43 H n.a n.b n.c n.d n.e (by omega) (by omega) (by omega) (by omega) (by omega)
theorem ok26 {G : Nat → DV} (hG : GZ G) {H0 H : List Blk} {bb : Nat} {D : Fin 3 → DV} {L : Fin 3 → List N} (s : Cs X H0 bb D L) (n : N) (hn : Good n) {evd rd : DV} {f : Nat} (hw : Nw H0 H n evd f rd) (hL : (L 1).length ≤ 1000) :
    OkR Try.prog G 26 [.ptr bb 0 0 1, cfgD n.a n.b n.c n.d n.e evd (.ptr f 0 0 1)] H fun v H' => v = .p (.bool true) ∧ ∃ D', Cs X H' bb D' (up L 1 (L 1 ++ [n])) ∧ KpW H H' bb D D' := by
  refine OkR_by Try.func26 c26_ok r26_ok 83 rfl ?_
  simp [c26, r26, cfgD]
  refine DPC_by (fun h' _ => txS n hn h') ?_
  simp
  have hfl : f < H.length := (List.getElem?_eq_some_iff.1 hw.at_f).1
  obtain ⟨ds, hv0, hc0⟩ := s.sl 1
  have hdl := hc0.len
  obtain ⟨B0, hB0⟩ : ∃ B0, B0 = H ++ [.cells 8 [cfgD n.a n.b n.c n.d n.e evd (.ptr f 0 0 1)], .cells 9 [elD n evd f]] := ⟨_, rfl⟩
  have hp0 : HPre H B0 := by rw [hB0]; exact HPre.append _ _
  have hx3 : B0[H.length]? = some (.cells 8 [cfgD n.a n.b n.c n.d n.e evd (.ptr f 0 0 1)]) := by rw [hB0]; simp
  have hx5 : B0[H.length + 1]? = some (.cells 9 [elD n evd f]) := by rw [hB0]; simp
  have hwB := hw.push hp0
  have sB := s.push hwB.pre
  simp only [cfgD, elD] at hB0
  rw [← hB0]
  clear hB0
  have hlB : H.length ≤ B0.length := hp0.length
  -- behind the loop
  have tail : ∀ H', HPre B0 H' → ∀ (d' : DV) (h2 : List Blk), Vs 9 h2 d' (ds ++ [elD n evd f]) → Keep (H' ++ [Blk.cells 9 [elD n evd f]]) h2 (D 1) d' →
      (∃ D', Cs X (h2.set bb (.cells 5 [.agg [.p (.string ⟨#[]⟩), .p (.string ⟨#[]⟩), up D 1 d' 0, up D 1 d' 1, up D 1 d' 2]])) bb D' (up L 1 (L 1 ++ [n])) ∧ KpW H (h2.set bb (.cells 5 [.agg [.p (.string ⟨#[]⟩), .p (.string ⟨#[]⟩), up D 1 d' 0, up D 1 d' 1, up D 1 d' 2]])) bb D D') := by
    intro H' hp d' h2 hv hk
    have hp1 : HPre B0 (H' ++ [Blk.cells 9 [elD n evd f]]) := hp.trans (HPre.append _ _)
    have s1 := sB.push hp1
    have w1 := hwB.push hp1
    have cf : CfOk (H' ++ [Blk.cells 9 [elD n evd f]]) (Wx X bb D) n (elD n evd f) := ⟨evd, f, rd, rfl, w1.cf s⟩
    have hall : HPre H0 (H' ++ [Blk.cells 9 [elD n evd f]]) := w1.pre
    have he0 : ∀ i, i < H0.length → (H' ++ [Blk.cells 9 [elD n evd f]])[i]? = H0[i]? := fun i hi => by rw [List.getElem?_eq_getElem hi]; exact hall _ _ (List.getElem?_eq_getElem hi)
    have hcs : Cfs (H' ++ [Blk.cells 9 [elD n evd f]]) (Wx X bb D) (L 1 ++ [n]) (ds ++ [elD n evd f]) := (hc0.of (fun i hi _ => he0 i hi) (fun i _ h => h)).app (.cons cf .nil)
    have hn' : ∀ i, inBlk d' i → inBlk (D 1) i ∨ (H' ++ [Blk.cells 9 [elD n evd f]]).length ≤ i := hk.new
    refine ⟨up D 1 d', s1.upd 1 hv hcs hk.old hn' hk.len, ?_, fun i hi hiw => ?_, fun i hi => ?_⟩
    · have k1 := hk.len; have k2 := hp1.length; have k3 := hp0.length
      show H.length ≤ (h2.set bb _).length
      rw [List.length_set]
      exact Nat.le_trans k3 (Nat.le_trans k2 k1)
    · have hiB : i < B0.length := by omega
      rw [List.getElem?_set_ne (fun h => hiw (.inl h.symm)), hk.old i (by have := hp1.length; omega) (fun h => hiw (.inr ⟨1, h⟩))]
      have := hp0.trans hp1
      rw [List.getElem?_eq_getElem hi]; exact this _ _ (List.getElem?_eq_getElem hi)
    · rcases hi with h | ⟨m, h⟩
      · exact .inl (.inl h)
      · by_cases hm : m = 1
        · rw [hm, up_same] at h
          rcases hn' i h with h1 | h1
          · exact .inl (.inr ⟨1, h1⟩)
          · right; have := (hp0.trans hp1).length; omega
        · rw [up_ne D d' hm] at h; exact .inl (.inr ⟨m, h⟩)
  have hat := sB.at_b
  simp [hat, isNilD]
  rcases hv0.len with ⟨hD, hds⟩ | ⟨b, els, hD, hb0, hle, hels⟩
  · simp [hD]
    refine VV_once ?_
    intro B he hr
    simp
    refine he _ _ ?_
    simp [hat, isNilD, hx5, hD, elD]
    have hv1 : Vs 9 (B0 ++ [Blk.cells 9 [elD n evd f]]) (D 1) ds := hv0.of fun i hi => by rw [hD] at hi; exact hi.elim
    rw [hD] at hv1
    have key := tail B0 (HPre.refl _)
    rw [hD] at key
    refine DA_Vs hv1 (ys := [elD n evd f]) ?_ ?_ ?_
    · simp [elD]
    · simp; omega
    · intro d' h2 hv2 hk2
      have hlb : bb < B0.length := (List.getElem?_eq_some_iff.1 hat).1
      have h2b : h2[bb]? = some (.cells 5 [.agg [.p (.string ⟨#[]⟩), .p (.string ⟨#[]⟩), D 0, D 1, D 2]]) := by
        rw [hk2.old bb (by simp; omega) (fun h => h), List.getElem?_append_left hlb]; exact hat
      obtain ⟨D', hc', hk'⟩ := key d' h2 hv2 hk2
      suffices HH : REr H (some [.p (.bool true)]) (h2.set bb (.cells 5 [.agg [.p (.string ⟨#[]⟩), .p (.string ⟨#[]⟩), up D 1 d' 0, up D 1 d' 1, up D 1 d' 2]])) (fun v H' => v = .p (.bool true) ∧ ∃ D', Cs X H' bb D' (up L 1 (L 1 ++ [n])) ∧ KpW H H' bb D D') by
        simp only [up] at HH
        rcases hv2.len with ⟨rfl, hx⟩ | ⟨g, els2, rfl, _, _, _⟩
        · simp at hx
        · simpa [h2b, hD, isNilD] using HH
      exact REr_by _ _ .refl ⟨rfl, D', hc', hk'⟩
  · have hat' : ∀ B, HPre B0 B → B[bb]? = some (.cells 5 [.agg [.p (.string ⟨#[]⟩), .p (.string ⟨#[]⟩), D 0, D 1, D 2]]) := fun B hp => hp _ _ sB.at_b
    simp [hD]
    refine VV_fam (fun x : Nat × List Blk => ⟨fr 85 [(0, .ptr bb 0 0 1), (3, .ptr H.length 0 0 1), (5, .ptr (H.length + 1) 0 0 1), (22, .sl b 0 ds.length els.length), (23, .p (.int .i64 ds.length)), (24, .p (.int .i64 x.1))], x.2⟩)
      (fun x => x.1 ≤ ds.length ∧ HPre B0 x.2) (fun x => ds.length - x.1) (0, B0) ⟨by simp, HPre.refl _⟩ (Wk.fits (by simp)) ?_
    rintro ⟨i, H'⟩ ⟨hi, hp⟩ B hb he hr
    simp only at hi hp
    simp
    have hb9 : H'[b]? = some (.cells 9 els) := hp _ _ (hwB.pre _ _ hb0)
    have hx3' := hp _ _ hx3
    have hx5' := hp _ _ hx5
    have hbb' := hat' H' hp
    refine CC_by (fun h2 => ?_) (fun h2 => ?_)
    · have hi' : i < ds.length := by simpa using h2
      have hie : i < els.length := by omega
      obtain ⟨evd', f', rd', hel, hcf⟩ := hc0.get i (by omega) hi'
      have hel' : els[i]? = some (elD ((L 1)[i]'(by omega)) evd' f') := by rw [List.getElem?_eq_getElem hie, hels i hi' hie, hel]
      generalize (L 1)[i]'(by omega) = n' at hel' hcf
      have hadd : IntKind.i64.wrap ((i : Int) + 1) = ((i + 1 : Nat) : Int) := wrap_succ hi' (by omega)
      simp [hi', hb9, hel', elD]
      obtain ⟨H1, hH1⟩ : ∃ H1, H1 = H' ++ [.cells 9 [elD n' evd' f']] := ⟨_, rfl⟩
      have hp1 : HPre H' H1 := by rw [hH1]; exact HPre.append _ _
      have h17 : H1[H'.length]? = some (.cells 9 [elD n' evd' f']) := by rw [hH1]; simp
      have h15 := hp1 _ _ hx5'
      have h1f := (hwB.push (hp.trans hp1)).at_f
      have h1g : H1[f']? = some (.cells 1 [.agg [rd']]) := hp1 _ _ (hp _ _ (hwB.pre _ _ hcf.at_f))
      have hne : f ≠ f' := by
        have h1 := (List.getElem?_eq_some_iff.1 hcf.at_f).1
        have h2 := hw.fl
        omega
      simp only [elD] at hH1 h17 h15
      rw [← hH1]
      clear hH1
      simp [h15]
      refine DF_by (txS n hn _) ?_
      simp
      cases htx : decide (n'.tx = n.tx)
      · simp [hadd]
        refine hb _ (i + 1, H1) (Wk.fits (by simp)) ⟨hi', hp.trans hp1⟩ (by simp; omega)
      · simp [h17, h15, h1f, h1g, hne, hne.symm, hadd]
        refine hb _ (i + 1, H1) (Wk.fits (by simp)) ⟨hi', hp.trans hp1⟩ (by simp; omega)
    · have hii : i = ds.length := by simp at h2; omega
      subst hii
      simp
      refine he _ _ ?_
      simp [hbb', hx5', elD, isNilD]
      refine DA_Vs (hv0.of fun i hi => ?_) (ys := [elD n evd f]) ?_ ?_ ?_
      · have hiB := Vs.lt hv0 hi
        rw [List.getElem?_append_left (by have := hwB.pre.length; have := hp.length; omega)]
        have h1 := hwB.pre.trans hp
        rw [List.getElem?_eq_getElem hiB]; exact h1 _ _ (List.getElem?_eq_getElem hiB)
      · simp [elD]
      · simp; omega
      · intro d' h2 hv2 hk2
        have hlb : bb < H'.length := (List.getElem?_eq_some_iff.1 hbb').1
        have h2b : h2[bb]? = some (.cells 5 [.agg [.p (.string ⟨#[]⟩), .p (.string ⟨#[]⟩), D 0, D 1, D 2]]) := by
          rw [hk2.old bb (by simp; omega) (s.nb 1), List.getElem?_append_left hlb]; exact hbb'
        obtain ⟨D', hc', hk'⟩ := tail H' hp d' h2 hv2 hk2
        suffices HH : REr H (some [.p (.bool true)]) (h2.set bb (.cells 5 [.agg [.p (.string ⟨#[]⟩), .p (.string ⟨#[]⟩), up D 1 d' 0, up D 1 d' 1, up D 1 d' 2]])) (fun v H' => v = .p (.bool true) ∧ ∃ D', Cs X H' bb D' (up L 1 (L 1 ++ [n])) ∧ KpW H H' bb D D') by
          simp only [up] at HH
          rcases hv2.len with ⟨rfl, hx⟩ | ⟨g, els2, rfl, _, _, _⟩
          · simp at hx
          · simpa [h2b, isNilD] using HH
        exact REr_by _ _ .refl ⟨rfl, D', hc', hk'⟩
theorem ok27 {G : Nat → DV} (hG : GZ G) {H0 H : List Blk} {bb : Nat} {D : Fin 3 → DV} {L : Fin 3 → List N} (s : Cs X H0 bb D L) (n : N) (hn : Good n) {evd rd : DV} {f : Nat} (hw : Nw H0 H n evd f rd) (hL : (L 2).length ≤ 1000) :
    OkR Try.prog G 27 [.ptr bb 0 0 1, cfgD n.a n.b n.c n.d n.e evd (.ptr f 0 0 1)] H fun v H' => v = .p (.bool true) ∧ ∃ D', Cs X H' bb D' (up L 2 (L 2 ++ [n])) ∧ KpW H H' bb D D' := by
  refine OkR_by Try.func27 c27_ok r27_ok 83 rfl ?_
  simp [c27, r27, cfgD]
  refine DPC_by (fun h' _ => txS n hn h') ?_
  simp
  have hfl : f < H.length := (List.getElem?_eq_some_iff.1 hw.at_f).1
  obtain ⟨ds, hv0, hc0⟩ := s.sl 2
  have hdl := hc0.len
  obtain ⟨B0, hB0⟩ : ∃ B0, B0 = H ++ [.cells 8 [cfgD n.a n.b n.c n.d n.e evd (.ptr f 0 0 1)], .cells 9 [elD n evd f]] := ⟨_, rfl⟩
  have hp0 : HPre H B0 := by rw [hB0]; exact HPre.append _ _
  have hx3 : B0[H.length]? = some (.cells 8 [cfgD n.a n.b n.c n.d n.e evd (.ptr f 0 0 1)]) := by rw [hB0]; simp
  have hx5 : B0[H.length + 1]? = some (.cells 9 [elD n evd f]) := by rw [hB0]; simp
  have hwB := hw.push hp0
  have sB := s.push hwB.pre
  simp only [cfgD, elD] at hB0
  rw [← hB0]
  clear hB0
  have hlB : H.length ≤ B0.length := hp0.length
  -- behind the loop
  have tail : ∀ H', HPre B0 H' → ∀ (d' : DV) (h2 : List Blk), Vs 9 h2 d' (ds ++ [elD n evd f]) → Keep (H' ++ [Blk.cells 9 [elD n evd f]]) h2 (D 2) d' →
      (∃ D', Cs X (h2.set bb (.cells 5 [.agg [.p (.string ⟨#[]⟩), .p (.string ⟨#[]⟩), up D 2 d' 0, up D 2 d' 1, up D 2 d' 2]])) bb D' (up L 2 (L 2 ++ [n])) ∧ KpW H (h2.set bb (.cells 5 [.agg [.p (.string ⟨#[]⟩), .p (.string ⟨#[]⟩), up D 2 d' 0, up D 2 d' 1, up D 2 d' 2]])) bb D D') := by
    intro H' hp d' h2 hv hk
    have hp1 : HPre B0 (H' ++ [Blk.cells 9 [elD n evd f]]) := hp.trans (HPre.append _ _)
    have s1 := sB.push hp1
    have w1 := hwB.push hp1
    have cf : CfOk (H' ++ [Blk.cells 9 [elD n evd f]]) (Wx X bb D) n (elD n evd f) := ⟨evd, f, rd, rfl, w1.cf s⟩
    have hall : HPre H0 (H' ++ [Blk.cells 9 [elD n evd f]]) := w1.pre
    have he0 : ∀ i, i < H0.length → (H' ++ [Blk.cells 9 [elD n evd f]])[i]? = H0[i]? := fun i hi => by rw [List.getElem?_eq_getElem hi]; exact hall _ _ (List.getElem?_eq_getElem hi)
    have hcs : Cfs (H' ++ [Blk.cells 9 [elD n evd f]]) (Wx X bb D) (L 2 ++ [n]) (ds ++ [elD n evd f]) := (hc0.of (fun i hi _ => he0 i hi) (fun i _ h => h)).app (.cons cf .nil)
    have hn' : ∀ i, inBlk d' i → inBlk (D 2) i ∨ (H' ++ [Blk.cells 9 [elD n evd f]]).length ≤ i := hk.new
    refine ⟨up D 2 d', s1.upd 2 hv hcs hk.old hn' hk.len, ?_, fun i hi hiw => ?_, fun i hi => ?_⟩
    · have k1 := hk.len; have k2 := hp1.length; have k3 := hp0.length
      show H.length ≤ (h2.set bb _).length
      rw [List.length_set]
      exact Nat.le_trans k3 (Nat.le_trans k2 k1)
    · have hiB : i < B0.length := by omega
      rw [List.getElem?_set_ne (fun h => hiw (.inl h.symm)), hk.old i (by have := hp1.length; omega) (fun h => hiw (.inr ⟨2, h⟩))]
      have := hp0.trans hp1
      rw [List.getElem?_eq_getElem hi]; exact this _ _ (List.getElem?_eq_getElem hi)
    · rcases hi with h | ⟨m, h⟩
      · exact .inl (.inl h)
      · by_cases hm : m = 2
        · rw [hm, up_same] at h
          rcases hn' i h with h1 | h1
          · exact .inl (.inr ⟨2, h1⟩)
          · right; have := (hp0.trans hp1).length; omega
        · rw [up_ne D d' hm] at h; exact .inl (.inr ⟨m, h⟩)
  have hat := sB.at_b
  simp [hat, isNilD]
  rcases hv0.len with ⟨hD, hds⟩ | ⟨b, els, hD, hb0, hle, hels⟩
  · simp [hD]
    refine VV_once ?_
    intro B he hr
    simp
    refine he _ _ ?_
    simp [hat, isNilD, hx5, hD, elD]
    have hv1 : Vs 9 (B0 ++ [Blk.cells 9 [elD n evd f]]) (D 2) ds := hv0.of fun i hi => by rw [hD] at hi; exact hi.elim
    rw [hD] at hv1
    have key := tail B0 (HPre.refl _)
    rw [hD] at key
    refine DA_Vs hv1 (ys := [elD n evd f]) ?_ ?_ ?_
    · simp [elD]
    · simp; omega
    · intro d' h2 hv2 hk2
      have hlb : bb < B0.length := (List.getElem?_eq_some_iff.1 hat).1
      have h2b : h2[bb]? = some (.cells 5 [.agg [.p (.string ⟨#[]⟩), .p (.string ⟨#[]⟩), D 0, D 1, D 2]]) := by
        rw [hk2.old bb (by simp; omega) (fun h => h), List.getElem?_append_left hlb]; exact hat
      obtain ⟨D', hc', hk'⟩ := key d' h2 hv2 hk2
      suffices HH : REr H (some [.p (.bool true)]) (h2.set bb (.cells 5 [.agg [.p (.string ⟨#[]⟩), .p (.string ⟨#[]⟩), up D 2 d' 0, up D 2 d' 1, up D 2 d' 2]])) (fun v H' => v = .p (.bool true) ∧ ∃ D', Cs X H' bb D' (up L 2 (L 2 ++ [n])) ∧ KpW H H' bb D D') by
        simp only [up] at HH
        rcases hv2.len with ⟨rfl, hx⟩ | ⟨g, els2, rfl, _, _, _⟩
        · simp at hx
        · simpa [h2b, hD, isNilD] using HH
      exact REr_by _ _ .refl ⟨rfl, D', hc', hk'⟩
  · have hat' : ∀ B, HPre B0 B → B[bb]? = some (.cells 5 [.agg [.p (.string ⟨#[]⟩), .p (.string ⟨#[]⟩), D 0, D 1, D 2]]) := fun B hp => hp _ _ sB.at_b
    simp [hD]
    refine VV_fam (fun x : Nat × List Blk => ⟨fr 85 [(0, .ptr bb 0 0 1), (3, .ptr H.length 0 0 1), (5, .ptr (H.length + 1) 0 0 1), (22, .sl b 0 ds.length els.length), (23, .p (.int .i64 ds.length)), (24, .p (.int .i64 x.1))], x.2⟩)
      (fun x => x.1 ≤ ds.length ∧ HPre B0 x.2) (fun x => ds.length - x.1) (0, B0) ⟨by simp, HPre.refl _⟩ (Wk.fits (by simp)) ?_
    rintro ⟨i, H'⟩ ⟨hi, hp⟩ B hb he hr
    simp only at hi hp
    simp
    have hb9 : H'[b]? = some (.cells 9 els) := hp _ _ (hwB.pre _ _ hb0)
    have hx3' := hp _ _ hx3
    have hx5' := hp _ _ hx5
    have hbb' := hat' H' hp
    refine CC_by (fun h2 => ?_) (fun h2 => ?_)
    · have hi' : i < ds.length := by simpa using h2
      have hie : i < els.length := by omega
      obtain ⟨evd', f', rd', hel, hcf⟩ := hc0.get i (by omega) hi'
      have hel' : els[i]? = some (elD ((L 2)[i]'(by omega)) evd' f') := by rw [List.getElem?_eq_getElem hie, hels i hi' hie, hel]
      generalize (L 2)[i]'(by omega) = n' at hel' hcf
      have hadd : IntKind.i64.wrap ((i : Int) + 1) = ((i + 1 : Nat) : Int) := wrap_succ hi' (by omega)
      simp [hi', hb9, hel', elD]
      obtain ⟨H1, hH1⟩ : ∃ H1, H1 = H' ++ [.cells 9 [elD n' evd' f']] := ⟨_, rfl⟩
      have hp1 : HPre H' H1 := by rw [hH1]; exact HPre.append _ _
      have h17 : H1[H'.length]? = some (.cells 9 [elD n' evd' f']) := by rw [hH1]; simp
      have h15 := hp1 _ _ hx5'
      have h1f := (hwB.push (hp.trans hp1)).at_f
      have h1g : H1[f']? = some (.cells 1 [.agg [rd']]) := hp1 _ _ (hp _ _ (hwB.pre _ _ hcf.at_f))
      have hne : f ≠ f' := by
        have h1 := (List.getElem?_eq_some_iff.1 hcf.at_f).1
        have h2 := hw.fl
        omega
      simp only [elD] at hH1 h17 h15
      rw [← hH1]
      clear hH1
      simp [h15]
      refine DF_by (txS n hn _) ?_
      simp
      cases htx : decide (n'.tx = n.tx)
      · simp [hadd]
        refine hb _ (i + 1, H1) (Wk.fits (by simp)) ⟨hi', hp.trans hp1⟩ (by simp; omega)
      · simp [h17, h15, h1f, h1g, hne, hne.symm, hadd]
        refine hb _ (i + 1, H1) (Wk.fits (by simp)) ⟨hi', hp.trans hp1⟩ (by simp; omega)
    · have hii : i = ds.length := by simp at h2; omega
      subst hii
      simp
      refine he _ _ ?_
      simp [hbb', hx5', elD, isNilD]
      refine DA_Vs (hv0.of fun i hi => ?_) (ys := [elD n evd f]) ?_ ?_ ?_
      · have hiB := Vs.lt hv0 hi
        rw [List.getElem?_append_left (by have := hwB.pre.length; have := hp.length; omega)]
        have h1 := hwB.pre.trans hp
        rw [List.getElem?_eq_getElem hiB]; exact h1 _ _ (List.getElem?_eq_getElem hiB)
      · simp [elD]
      · simp; omega
      · intro d' h2 hv2 hk2
        have hlb : bb < H'.length := (List.getElem?_eq_some_iff.1 hbb').1
        have h2b : h2[bb]? = some (.cells 5 [.agg [.p (.string ⟨#[]⟩), .p (.string ⟨#[]⟩), D 0, D 1, D 2]]) := by
          rw [hk2.old bb (by simp; omega) (s.nb 2), List.getElem?_append_left hlb]; exact hbb'
        obtain ⟨D', hc', hk'⟩ := tail H' hp d' h2 hv2 hk2
        suffices HH : REr H (some [.p (.bool true)]) (h2.set bb (.cells 5 [.agg [.p (.string ⟨#[]⟩), .p (.string ⟨#[]⟩), up D 2 d' 0, up D 2 d' 1, up D 2 d' 2]])) (fun v H' => v = .p (.bool true) ∧ ∃ D', Cs X H' bb D' (up L 2 (L 2 ++ [n])) ∧ KpW H H' bb D D') by
          simp only [up] at HH
          rcases hv2.len with ⟨rfl, hx⟩ | ⟨g, els2, rfl, _, _, _⟩
          · simp at hx
          · simpa [h2b, isNilD] using HH
        exact REr_by _ _ .refl ⟨rfl, D', hc', hk'⟩
theorem ok28 {G : Nat → DV} (hG : GZ G) {H0 H : List Blk} {bb : Nat} {D : Fin 3 → DV} {L : Fin 3 → List N} (s : Cs X H0 bb D L) (n : N) (hn : Good n) {evd rd : DV} {f : Nat} (hw : Nw H0 H n evd f rd) (hL : (L 0).length ≤ 1000) :
    OkR Try.prog G 28 [.ptr bb 0 0 1, cfgD n.a n.b n.c n.d n.e evd (.ptr f 0 0 1)] H fun v H' => v = .p (.bool true) ∧ ∃ D', Cs X H' bb D' (up L 0 (L 0 ++ [n])) ∧ KpW H H' bb D D' := by
  refine OkR_by Try.func28 c28_ok r28_ok 83 rfl ?_
  simp [c28, r28, cfgD]
  refine DPC_by (fun h' _ => txS n hn h') ?_
  simp
  have hfl : f < H.length := (List.getElem?_eq_some_iff.1 hw.at_f).1
  obtain ⟨ds, hv0, hc0⟩ := s.sl 0
  have hdl := hc0.len
  obtain ⟨B0, hB0⟩ : ∃ B0, B0 = H ++ [.cells 8 [cfgD n.a n.b n.c n.d n.e evd (.ptr f 0 0 1)], .cells 9 [elD n evd f]] := ⟨_, rfl⟩
  have hp0 : HPre H B0 := by rw [hB0]; exact HPre.append _ _
  have hx3 : B0[H.length]? = some (.cells 8 [cfgD n.a n.b n.c n.d n.e evd (.ptr f 0 0 1)]) := by rw [hB0]; simp
  have hx5 : B0[H.length + 1]? = some (.cells 9 [elD n evd f]) := by rw [hB0]; simp
  have hwB := hw.push hp0
  have sB := s.push hwB.pre
  simp only [cfgD, elD] at hB0
  rw [← hB0]
  clear hB0
  have hlB : H.length ≤ B0.length := hp0.length
  -- behind the loop
  have tail : ∀ H', HPre B0 H' → ∀ (d' : DV) (h2 : List Blk), Vs 9 h2 d' (ds ++ [elD n evd f]) → Keep (H' ++ [Blk.cells 9 [elD n evd f]]) h2 (D 0) d' →
      (∃ D', Cs X (h2.set bb (.cells 5 [.agg [.p (.string ⟨#[]⟩), .p (.string ⟨#[]⟩), up D 0 d' 0, up D 0 d' 1, up D 0 d' 2]])) bb D' (up L 0 (L 0 ++ [n])) ∧ KpW H (h2.set bb (.cells 5 [.agg [.p (.string ⟨#[]⟩), .p (.string ⟨#[]⟩), up D 0 d' 0, up D 0 d' 1, up D 0 d' 2]])) bb D D') := by
    intro H' hp d' h2 hv hk
    have hp1 : HPre B0 (H' ++ [Blk.cells 9 [elD n evd f]]) := hp.trans (HPre.append _ _)
    have s1 := sB.push hp1
    have w1 := hwB.push hp1
    have cf : CfOk (H' ++ [Blk.cells 9 [elD n evd f]]) (Wx X bb D) n (elD n evd f) := ⟨evd, f, rd, rfl, w1.cf s⟩
    have hall : HPre H0 (H' ++ [Blk.cells 9 [elD n evd f]]) := w1.pre
    have he0 : ∀ i, i < H0.length → (H' ++ [Blk.cells 9 [elD n evd f]])[i]? = H0[i]? := fun i hi => by rw [List.getElem?_eq_getElem hi]; exact hall _ _ (List.getElem?_eq_getElem hi)
    have hcs : Cfs (H' ++ [Blk.cells 9 [elD n evd f]]) (Wx X bb D) (L 0 ++ [n]) (ds ++ [elD n evd f]) := (hc0.of (fun i hi _ => he0 i hi) (fun i _ h => h)).app (.cons cf .nil)
    have hn' : ∀ i, inBlk d' i → inBlk (D 0) i ∨ (H' ++ [Blk.cells 9 [elD n evd f]]).length ≤ i := hk.new
    refine ⟨up D 0 d', s1.upd 0 hv hcs hk.old hn' hk.len, ?_, fun i hi hiw => ?_, fun i hi => ?_⟩
    · have k1 := hk.len; have k2 := hp1.length; have k3 := hp0.length
      show H.length ≤ (h2.set bb _).length
      rw [List.length_set]
      exact Nat.le_trans k3 (Nat.le_trans k2 k1)
    · have hiB : i < B0.length := by omega
      rw [List.getElem?_set_ne (fun h => hiw (.inl h.symm)), hk.old i (by have := hp1.length; omega) (fun h => hiw (.inr ⟨0, h⟩))]
      have := hp0.trans hp1
      rw [List.getElem?_eq_getElem hi]; exact this _ _ (List.getElem?_eq_getElem hi)
    · rcases hi with h | ⟨m, h⟩
      · exact .inl (.inl h)
      · by_cases hm : m = 0
        · rw [hm, up_same] at h
          rcases hn' i h with h1 | h1
          · exact .inl (.inr ⟨0, h1⟩)
          · right; have := (hp0.trans hp1).length; omega
        · rw [up_ne D d' hm] at h; exact .inl (.inr ⟨m, h⟩)
  have hat := sB.at_b
  simp [hat, isNilD]
  rcases hv0.len with ⟨hD, hds⟩ | ⟨b, els, hD, hb0, hle, hels⟩
  · simp [hD]
    refine VV_once ?_
    intro B he hr
    simp
    refine he _ _ ?_
    simp [hat, isNilD, hx5, hD, elD]
    have hv1 : Vs 9 (B0 ++ [Blk.cells 9 [elD n evd f]]) (D 0) ds := hv0.of fun i hi => by rw [hD] at hi; exact hi.elim
    rw [hD] at hv1
    have key := tail B0 (HPre.refl _)
    rw [hD] at key
    refine DA_Vs hv1 (ys := [elD n evd f]) ?_ ?_ ?_
    · simp [elD]
    · simp; omega
    · intro d' h2 hv2 hk2
      have hlb : bb < B0.length := (List.getElem?_eq_some_iff.1 hat).1
      have h2b : h2[bb]? = some (.cells 5 [.agg [.p (.string ⟨#[]⟩), .p (.string ⟨#[]⟩), D 0, D 1, D 2]]) := by
        rw [hk2.old bb (by simp; omega) (fun h => h), List.getElem?_append_left hlb]; exact hat
      obtain ⟨D', hc', hk'⟩ := key d' h2 hv2 hk2
      suffices HH : REr H (some [.p (.bool true)]) (h2.set bb (.cells 5 [.agg [.p (.string ⟨#[]⟩), .p (.string ⟨#[]⟩), up D 0 d' 0, up D 0 d' 1, up D 0 d' 2]])) (fun v H' => v = .p (.bool true) ∧ ∃ D', Cs X H' bb D' (up L 0 (L 0 ++ [n])) ∧ KpW H H' bb D D') by
        simp only [up] at HH
        rcases hv2.len with ⟨rfl, hx⟩ | ⟨g, els2, rfl, _, _, _⟩
        · simp at hx
        · simpa [h2b, hD, isNilD] using HH
      exact REr_by _ _ .refl ⟨rfl, D', hc', hk'⟩
  · have hat' : ∀ B, HPre B0 B → B[bb]? = some (.cells 5 [.agg [.p (.string ⟨#[]⟩), .p (.string ⟨#[]⟩), D 0, D 1, D 2]]) := fun B hp => hp _ _ sB.at_b
    simp [hD]
    refine VV_fam (fun x : Nat × List Blk => ⟨fr 85 [(0, .ptr bb 0 0 1), (3, .ptr H.length 0 0 1), (5, .ptr (H.length + 1) 0 0 1), (22, .sl b 0 ds.length els.length), (23, .p (.int .i64 ds.length)), (24, .p (.int .i64 x.1))], x.2⟩)
      (fun x => x.1 ≤ ds.length ∧ HPre B0 x.2) (fun x => ds.length - x.1) (0, B0) ⟨by simp, HPre.refl _⟩ (Wk.fits (by simp)) ?_
    rintro ⟨i, H'⟩ ⟨hi, hp⟩ B hb he hr
    simp only at hi hp
    simp
    have hb9 : H'[b]? = some (.cells 9 els) := hp _ _ (hwB.pre _ _ hb0)
    have hx3' := hp _ _ hx3
    have hx5' := hp _ _ hx5
    have hbb' := hat' H' hp
    refine CC_by (fun h2 => ?_) (fun h2 => ?_)
    · have hi' : i < ds.length := by simpa using h2
      have hie : i < els.length := by omega
      obtain ⟨evd', f', rd', hel, hcf⟩ := hc0.get i (by omega) hi'
      have hel' : els[i]? = some (elD ((L 0)[i]'(by omega)) evd' f') := by rw [List.getElem?_eq_getElem hie, hels i hi' hie, hel]
      generalize (L 0)[i]'(by omega) = n' at hel' hcf
      have hadd : IntKind.i64.wrap ((i : Int) + 1) = ((i + 1 : Nat) : Int) := wrap_succ hi' (by omega)
      simp [hi', hb9, hel', elD]
      obtain ⟨H1, hH1⟩ : ∃ H1, H1 = H' ++ [.cells 9 [elD n' evd' f']] := ⟨_, rfl⟩
      have hp1 : HPre H' H1 := by rw [hH1]; exact HPre.append _ _
      have h17 : H1[H'.length]? = some (.cells 9 [elD n' evd' f']) := by rw [hH1]; simp
      have h15 := hp1 _ _ hx5'
      have h1f := (hwB.push (hp.trans hp1)).at_f
      have h1g : H1[f']? = some (.cells 1 [.agg [rd']]) := hp1 _ _ (hp _ _ (hwB.pre _ _ hcf.at_f))
      have hne : f ≠ f' := by
        have h1 := (List.getElem?_eq_some_iff.1 hcf.at_f).1
        have h2 := hw.fl
        omega
      simp only [elD] at hH1 h17 h15
      rw [← hH1]
      clear hH1
      simp [h15]
      refine DF_by (txS n hn _) ?_
      simp
      cases htx : decide (n'.tx = n.tx)
      · simp [hadd]
        refine hb _ (i + 1, H1) (Wk.fits (by simp)) ⟨hi', hp.trans hp1⟩ (by simp; omega)
      · simp [h17, h15, h1f, h1g, hne, hne.symm, hadd]
        refine hb _ (i + 1, H1) (Wk.fits (by simp)) ⟨hi', hp.trans hp1⟩ (by simp; omega)
    · have hii : i = ds.length := by simp at h2; omega
      subst hii
      simp
      refine he _ _ ?_
      simp [hbb', hx5', elD, isNilD]
      refine DA_Vs (hv0.of fun i hi => ?_) (ys := [elD n evd f]) ?_ ?_ ?_
      · have hiB := Vs.lt hv0 hi
        rw [List.getElem?_append_left (by have := hwB.pre.length; have := hp.length; omega)]
        have h1 := hwB.pre.trans hp
        rw [List.getElem?_eq_getElem hiB]; exact h1 _ _ (List.getElem?_eq_getElem hiB)
      · simp [elD]
      · simp; omega
      · intro d' h2 hv2 hk2
        have hlb : bb < H'.length := (List.getElem?_eq_some_iff.1 hbb').1
        have h2b : h2[bb]? = some (.cells 5 [.agg [.p (.string ⟨#[]⟩), .p (.string ⟨#[]⟩), D 0, D 1, D 2]]) := by
          rw [hk2.old bb (by simp; omega) (s.nb 0), List.getElem?_append_left hlb]; exact hbb'
        obtain ⟨D', hc', hk'⟩ := tail H' hp d' h2 hv2 hk2
        suffices HH : REr H (some [.p (.bool true)]) (h2.set bb (.cells 5 [.agg [.p (.string ⟨#[]⟩), .p (.string ⟨#[]⟩), up D 0 d' 0, up D 0 d' 1, up D 0 d' 2]])) (fun v H' => v = .p (.bool true) ∧ ∃ D', Cs X H' bb D' (up L 0 (L 0 ++ [n])) ∧ KpW H H' bb D D') by
          simp only [up] at HH
          rcases hv2.len with ⟨rfl, hx⟩ | ⟨g, els2, rfl, _, _, _⟩
          · simp at hx
          · simpa [h2b, isNilD] using HH
        exact REr_by _ _ .refl ⟨rfl, D', hc', hk'⟩
end Go.Proofs.Ythkgekkpnldbmaa
