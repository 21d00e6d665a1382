/- Notices: what a step makes of a list, by the reference. -/
import Derived.Test.YthkgekkpnldbmaaNfB
set_option linter.unusedVariables false
set_option linter.unusedSimpArgs false
set_option maxRecDepth 100000
set_option maxHeartbeats 4000000
namespace Go.Proofs.Ythkgekkpnldbmaa
open Go Go.Den Go.Proofs

def ndR (r : List N × Bool × Bool × Bool) : DV := .tup [.fz 9 (nts r.1), .p (.bool r.2.1), .p (.bool r.2.2.1), .p (.bool r.2.2.2)]
theorem eqs5 (x n : N) : (decide (x.a = n.a) && (decide (x.b = n.b) && (decide (x.c = n.c) && (decide (x.d = n.d) && decide (x.e = n.e))))) = decide (x.ar = n.ar) := by
  rw [Bool.eq_iff_iff]; simp [N.ar]
theorem frz_fz1 {H : List Blk} {n k : Nat} {sz : Nat} {l : List ByteArray} : Den.frz H n (k + 1) (.fz sz (strs l)) = some (.fz sz (strs l)) := by
  rw [frz]
  rw [omap_self (fun d hd => frz_pure (strs_plain d hd))]
  rfl
/-- Kept, as the heap grew. -/
structure K6 (h : List Blk) (n : N) (H : List Blk) : Prop where
  pre : HPre h H
  at8 : H[h.length + 1]? = some (.cells 9 [.agg [.p (.int .i64 n.k), .p (.string (S n.a)), .p (.string (S n.b)), .p (.string (S n.c)), .p (.string (S n.d)), .p (.string (S n.e)), .fz 1 (strs n.ev), .fz 1 (strs n.p), .fz 1 (strs n.s)]])
theorem K6.push {h H : List Blk} {n : N} (s : K6 h n H) (x : List Blk) : K6 h n (H ++ x) := ⟨s.pre.trans (HPre.append _ _), get_pre s.at8 _⟩
theorem K6.mono {h H H' : List Blk} {n : N} (s : K6 h n H) (hp : HPre H H') : K6 h n H' := ⟨s.pre.trans hp, hp _ _ s.at8⟩
theorem ok6a {G : Nat → DV} (hG : GZ G) (h : List Blk) (l : List N) (n : N) (hl : l.length ≤ 1000) (hf : ∀ x ∈ l, Few x) (hn : Few n) : Ok Try.prog G 6 [.fz 9 (nts l), stD 0 n] h (ndR (nDo l 0 n)) h := by
  refine Ok.wf fun hw => ?_
  refine Ok_by Try.func6 c6_ok r6_ok 125 rfl ?_
  simp [c6, r6, stD]
  refine VV_fam (fun x : Nat × List Blk => ⟨fr 127 [(0, .fz 9 (nts l)), (4, .p (.slice none 0 0)), (8, .ptr (h.length + 1) 0 0 1), (22, .fz 9 (nts l)), (23, .p (.int .i64 l.length)), (24, .p (.int .i64 x.1))], x.2⟩)
    (fun x => x.1 ≤ l.length ∧ (l.take x.1).any (fun x => isK x n && decide (0 < (keepIn x.ev n.ev).length)) = false ∧ K6 h n x.2) (fun x => l.length - x.1) (0, _) ⟨Nat.zero_le _, by simp, ?_⟩ (Wk.fits (by simp)) ?_
  · exact ⟨HPre.append _ _, by simp⟩
  rintro ⟨i, H⟩ ⟨hi, hall, hK6⟩ B hb he hr
  simp only at hi hall hK6
  have h8 := hK6.at8
  simp
  refine CC_by (fun h2 => ?_) (fun h2 => ?_)
  · have hi' : i < l.length := by simpa using h2
    have hadd : IntKind.i64.wrap ((i : Int) + 1) = ((i + 1 : Nat) : Int) := wrap_succ hi' (by omega)
    have hmem : l[i] ∈ l := List.getElem_mem hi'
    have htk : l.take (i + 1) = l.take i ++ [l[i]] := List.take_succ_eq_append_getElem hi'
    have hfx := hf _ hmem
    simp [hi']
    generalize l[i] = x at hmem htk hfx ⊢
    have go : (isK x n && decide (0 < (keepIn x.ev n.ev).length)) = false → (l.take (i + 1)).any (fun x => isK x n && decide (0 < (keepIn x.ev n.ev).length)) = false := fun h => by
      rw [htk, List.any_append, hall, List.any_cons, h]; rfl
    have k8 := (hK6.push [Blk.cells 9 [ntN x]]).at8
    simp only [ntN, ntD] at k8
    simp [ntN, ntD, k8]
    cases hk1 : (x.k == n.k)
    · have hK : isK x n = false := by simp [isK]; intro h; simp [h] at hk1
      simp [hadd]
      exact hb _ (i + 1, _) (Wk.fits (by simp)) ⟨hi', go (by rw [hK]; rfl), hK6.push _⟩ (by simp; omega)
    · have hk1' : x.k = n.k := by simpa using hk1
      simp [k8]
      rw [eqs5]
      cases hk2 : decide (x.ar = n.ar)
      · have hK : isK x n = false := by simp [isK]; intro h; exact of_decide_eq_false hk2
        simp [hadd]
        exact hb _ (i + 1, _) (Wk.fits (by simp)) ⟨hi', go (by rw [hK]; rfl), hK6.push _⟩ (by simp; omega)
      · have hK : isK x n = true := by simp [isK, hk1', of_decide_eq_true hk2]
        simp [k8]
        refine FF_by (ok13 hG _ x.ev n.ev true (by have := hfx.ev; omega) (by have := hn.ev; omega)) ?_
        simp
        refine CC_by (fun h3 => ?_) (fun h3 => ?_)
        · have h3' : 0 < (keepIn x.ev n.ev).length := by
            simp at h3
            simp only [keepIn]
            exact h3
          simp
          refine hr _ ?_
          have hany : (l.any fun x => isK x n && decide (0 < (keepIn x.ev n.ev).length)) = true := by
            rw [List.any_eq_true]; exact ⟨x, hmem, by rw [hK]; simp [h3']⟩
          have hnd : nDo l 0 n = (l, false, false, false) := by simp only [nDo, if_true, hany]
          rw [hnd]
          simp [ndR]
          have hp := (hK6.push [Blk.cells 9 [ntN x]]).pre
          exact WkV.ofR hp (FrzR.tup (.cons (FrzR_nts l hp hw) (.cons .p (.cons .p (.cons .p .nil)))))
        · have h3' : decide (0 < (keepIn x.ev n.ev).length) = false := by
            simp at h3
            simp only [keepIn, h3]
            rfl
          simp [hadd]
          exact hb _ (i + 1, _) (Wk.fits (by simp)) ⟨hi', go (by rw [h3']; simp), hK6.push _⟩ (by simp; omega)
  · have : i = l.length := by simp at h2; omega
    subst this
    rw [List.take_length] at hall
    simp
    refine he _ _ ?_
    simp
    refine DA_own (h1 := H) .nil (ys := nts l) (by simp) (by simp; omega) ?_
    intro d1 h1 ho1 hl1 _
    have h81 := (hK6.mono ho1.pre).at8
    have hv1 : HV H h1 := ho1.pre.toV
    simp [h81, h8, hv1]
    refine DA_own (h1 := H) (sz := 9) ho1 (ys := [ntN n]) ?_ ?_ ?_
    · simp [ntN, ntD]
    · simp; omega
    intro d2 h2 ho2 hl2 _
    simp
    have hnd : nDo l 0 n = (l ++ [n], true, false, true) := by simp [nDo, hall]
    rw [hnd]
    simp [ndR]
    rw [List.nil_append, nts_push] at ho2
    exact WkV.ofR (hK6.mono ho2.pre).pre (FrzR.tup (.cons (Own.frzN (ho2.base hK6.pre) hw) (.cons .p (.cons .p (.cons .p .nil)))))
theorem neqs5 (x n : N) : (!decide (x.a = n.a) || (!decide (x.b = n.b) || (!decide (x.c = n.c) || (!decide (x.d = n.d) || !decide (x.e = n.e))))) = !decide (x.ar = n.ar) := by
  rw [← eqs5]; simp [Bool.not_and]
def nc (n : N) : DV := .agg [.p (.int .i64 n.k), .p (.string (S n.a)), .p (.string (S n.b)), .p (.string (S n.c)), .p (.string (S n.d)), .p (.string (S n.e)), .fz 1 (strs n.ev), .fz 1 (strs n.p), .fz 1 (strs n.s)]
theorem nc_eq (n : N) : nc n = ntN n := rfl
def base6 (h : List Blk) (kd : Int) (n : N) : List Blk := h ++ [.cells 10 [stD kd n], .cells 9 [nc n]]
theorem base6_K (h : List Blk) (kd : Int) (n : N) : K6 h n (base6 h kd n) := ⟨HPre.append _ _, by simp [base6, nc]⟩
theorem ok6b {G : Nat → DV} (hG : GZ G) (h : List Blk) (l : List N) (n : N) (hl : l.length ≤ 1000) : Ok Try.prog G 6 [.fz 9 (nts l), stD 1 n] h (ndR (nDo l 1 n)) h := by
  refine Ok.wf fun hw => ?_
  refine Ok_by Try.func6 c6_ok r6_ok 125 rfl ?_
  have hB := base6_K h 1 n
  have hB0 : base6 h 1 n = h ++ [.cells 10 [stD 1 n], .cells 9 [nc n]] := rfl
  simp only [stD, nc] at hB0
  simp [c6, r6, stD]
  rw [← hB0]
  generalize base6 h 1 n = B0 at hB
  clear hB0
  refine VV_fam (fun x : Nat × DV × List Blk => ⟨fr 127 [(4, x.2.1), (8, .ptr (h.length + 1) 0 0 1), (59, .fz 9 (nts l)), (60, .p (.int .i64 l.length)), (61, .p (.int .i64 x.1))], x.2.2⟩)
    (fun x => x.1 ≤ l.length ∧ Own B0 9 x.2.2 x.2.1 (nts ((l.take x.1).filter fun x => !isK x n))) (fun x => l.length - x.1) (0, .p (.slice none 0 0), B0) ⟨Nat.zero_le _, .nil⟩ (Wk.fits (by simp)) ?_
  rintro ⟨i, d, H⟩ ⟨hi, ho⟩ B hb he hr
  simp only at hi ho
  simp
  refine CC_by (fun h2 => ?_) (fun h2 => ?_)
  · have hi' : i < l.length := by simpa using h2
    have hadd : IntKind.i64.wrap ((i : Int) + 1) = ((i + 1 : Nat) : Int) := wrap_succ hi' (by omega)
    have htk : l.take (i + 1) = l.take i ++ [l[i]] := List.take_succ_eq_append_getElem hi'
    simp [hi']
    generalize l[i] = x at htk ⊢
    have hop := ho.push (x := [Blk.cells 9 [nc x]])
    have hx8 : (H ++ [Blk.cells 9 [nc x]])[H.length]? = some (.cells 9 [nc x]) := by simp
    obtain ⟨H1, hH1⟩ : ∃ H1, H1 = H ++ [Blk.cells 9 [nc x]] := ⟨_, rfl⟩
    rw [← hH1] at hop hx8
    have k8 := (hB.mono hop.pre).at8
    have hlen : (nts ((l.take i).filter fun x => !isK x n)).length ≤ 1000 := by
      have h1 := List.length_filter_le (fun x => !isK x n) (l.take i)
      have h2 : (l.take i).length ≤ l.length := by simp
      simp; omega
    have out : isK x n = true → (l.take (i + 1)).filter (fun x => !isK x n) = (l.take i).filter fun x => !isK x n := fun h => by
      rw [htk, List.filter_append]; simp [h]
    have keep : isK x n = false → (l.take (i + 1)).filter (fun x => !isK x n) = ((l.take i).filter fun x => !isK x n) ++ [x] := fun h => by
      rw [htk, List.filter_append]; simp [h]
    simp only [nc] at hx8 hH1
    simp [ntN, ntD]
    rw [← hH1]
    clear hH1
    simp [k8, hx8]
    cases hk1 : (x.k != n.k)
    · have hk1' : x.k = n.k := by simpa using hk1
      simp [k8, hx8]
      rw [neqs5]
      cases hk2 : decide (x.ar = n.ar)
      · have hK : isK x n = false := by simp [isK]; intro h; exact of_decide_eq_false hk2
        simp [hx8]
        refine AA_lit1 hop (by omega) ?_
        intro d2 h2 ho2 _ _
        have ho3 : Own B0 9 h2 d2 (nts ((l.take (i + 1)).filter fun x => !isK x n)) := by rw [keep hK, ← nts_push]; exact ho2
        simp [hadd]
        exact hb _ (i + 1, d2, h2) (Wk.fits (by simp)) ⟨hi', ho3⟩ (by simp; omega)
      · have hK : isK x n = true := by simp [isK, hk1', of_decide_eq_true hk2]
        simp [hadd]
        exact hb _ (i + 1, d, H1) (Wk.fits (by simp)) ⟨hi', by rw [out hK]; exact hop⟩ (by simp; omega)
    · have hK : isK x n = false := by simp [isK]; intro h; simp [h] at hk1
      simp [hx8]
      refine AA_lit1 hop (by omega) ?_
      intro d2 h2 ho2 _ _
      have ho3 : Own B0 9 h2 d2 (nts ((l.take (i + 1)).filter fun x => !isK x n)) := by rw [keep hK, ← nts_push]; exact ho2
      simp [hadd]
      exact hb _ (i + 1, d2, h2) (Wk.fits (by simp)) ⟨hi', ho3⟩ (by simp; omega)
  · have : i = l.length := by simp at h2; omega
    subst this
    rw [List.take_length] at ho
    simp
    refine he _ _ ?_
    simp
    have hnd : nDo l 1 n = (l.filter (fun x => !isK x n), true, false, true) := by simp [nDo]
    rw [hnd]
    simp [ndR]
    exact WkV.ofR (hB.mono ho.pre).pre (FrzR.tup (.cons (Own.frzN (ho.base hB.pre) hw) (.cons .p (.cons .p (.cons .p .nil)))))
theorem ok6c {G : Nat → DV} (hG : GZ G) (h : List Blk) (l : List N) (n : N) (hl : l.length ≤ 1000) (hf : ∀ x ∈ l, Few x) (hn : Few n) : Ok Try.prog G 6 [.fz 9 (nts l), stD 2 n] h (ndR (nDo l 2 n)) h := by
  refine Ok.wf fun hw => ?_
  refine Ok_by Try.func6 c6_ok r6_ok 125 rfl ?_
  have hB := base6_K h 2 n
  have hB0 : base6 h 2 n = h ++ [.cells 10 [stD 2 n], .cells 9 [nc n]] := rfl
  simp only [stD, nc] at hB0
  simp [c6, r6, stD]
  rw [← hB0]
  generalize base6 h 2 n = B0 at hB
  clear hB0
  refine VV_fam (fun x : Nat × Nat × DV × List Blk => ⟨fr 127 [(4, x.2.2.1), (8, .ptr (h.length + 1) 0 0 1), (13, .p (.int .i64 x.2.1)), (83, .fz 9 (nts l)), (84, .p (.int .i64 l.length)), (85, .p (.int .i64 x.1))], x.2.2.2⟩)
    (fun x => x.1 ≤ l.length ∧ x.2.1 = (l.take x.1).countP (fun x => isN x n) ∧ Own B0 9 x.2.2.2 x.2.2.1 (nts ((l.take x.1).filter fun x => !isN x n))) (fun x => l.length - x.1) (0, 0, .p (.slice none 0 0), B0) ⟨Nat.zero_le _, by simp, .nil⟩ (Wk.fits (by simp)) ?_
  rintro ⟨i, ct, d, H⟩ ⟨hi, hct, ho⟩ B hb he hr
  simp only at hi hct ho
  have hct1 : ct ≤ l.length := by
    rw [hct]
    have h1 := List.countP_le_length (p := fun x => isN x n) (l := l.take i)
    have h2 : (l.take i).length ≤ l.length := by simp
    omega
  simp
  refine CC_by (fun h2 => ?_) (fun h2 => ?_)
  · have hi' : i < l.length := by simpa using h2
    have hadd : IntKind.i64.wrap ((i : Int) + 1) = ((i + 1 : Nat) : Int) := wrap_succ hi' (by omega)
    have hadd2 : IntKind.i64.wrap ((ct : Int) + 1) = ((ct + 1 : Nat) : Int) := by simp [IntKind.wrap, IntKind.bits, IntKind.signed]; omega
    have htk : l.take (i + 1) = l.take i ++ [l[i]] := List.take_succ_eq_append_getElem hi'
    have hfx := hf _ (List.getElem_mem hi')
    simp [hi']
    generalize l[i] = x at htk hfx ⊢
    have hop := ho.push (x := [Blk.cells 9 [nc x]])
    have hx8 : (H ++ [Blk.cells 9 [nc x]])[H.length]? = some (.cells 9 [nc x]) := by simp
    obtain ⟨H1, hH1⟩ : ∃ H1, H1 = H ++ [Blk.cells 9 [nc x]] := ⟨_, rfl⟩
    rw [← hH1] at hop hx8
    have k8 := (hB.mono hop.pre).at8
    have hlen : (nts ((l.take i).filter fun x => !isN x n)).length ≤ 1000 := by
      have h1 := List.length_filter_le (fun x => !isN x n) (l.take i)
      have h2 : (l.take i).length ≤ l.length := by simp
      simp; omega
    have out : isN x n = true → (l.take (i + 1)).filter (fun x => !isN x n) = ((l.take i).filter fun x => !isN x n) ∧ (l.take (i + 1)).countP (fun x => isN x n) = ct + 1 := fun h => by
      rw [htk, List.filter_append, List.countP_append, ← hct]; simp [h]
    have keep : isN x n = false → (l.take (i + 1)).filter (fun x => !isN x n) = ((l.take i).filter fun x => !isN x n) ++ [x] ∧ (l.take (i + 1)).countP (fun x => isN x n) = ct := fun h => by
      rw [htk, List.filter_append, List.countP_append, ← hct]; simp [h]
    simp only [nc] at hx8 hH1
    simp [ntN, ntD]
    rw [← hH1]
    clear hH1
    simp [k8, hx8]
    cases hk1 : (x.k == n.k)
    · have hK : isN x n = false := by simp [isN, isK]; intro h; simp [h] at hk1
      simp [hx8]
      refine AA_lit1 hop (by omega) ?_
      intro d2 h2 ho2 _ _
      have ho3 : Own B0 9 h2 d2 (nts ((l.take (i + 1)).filter fun x => !isN x n)) := by rw [(keep hK).1, ← nts_push]; exact ho2
      simp [hadd]
      exact hb _ (i + 1, ct, d2, h2) (Wk.fits (by simp)) ⟨hi', (keep hK).2.symm, ho3⟩ (by simp; omega)
    · have hk1' : x.k = n.k := by simpa using hk1
      simp [k8, hx8]
      rw [eqs5]
      cases hk2 : decide (x.ar = n.ar)
      · have hK : isN x n = false := by simp [isN, isK]; intro _ h; exact absurd h (of_decide_eq_false hk2)
        simp [hx8]
        refine AA_lit1 hop (by omega) ?_
        intro d2 h2 ho2 _ _
        have ho3 : Own B0 9 h2 d2 (nts ((l.take (i + 1)).filter fun x => !isN x n)) := by rw [(keep hK).1, ← nts_push]; exact ho2
        simp [hadd]
        exact hb _ (i + 1, ct, d2, h2) (Wk.fits (by simp)) ⟨hi', (keep hK).2.symm, ho3⟩ (by simp; omega)
      · have hKK : isK x n = true := by simp [isK, hk1', of_decide_eq_true hk2]
        simp [k8, hx8]
        refine DF_by (ok15 _ n.p hn.p) ?_
        simp [k8, hx8]
        refine DF_by (ok15 _ n.s hn.s) ?_
        simp [k8, hx8]
        refine DF_by (ok14 hG _ x.k x.a x.b x.c x.d x.e x.ev x.p x.s n.ev _ (fstOf n.p) (fstOf n.s) (.inl rfl) hfx.ev hn.ev hfx.p hfx.s) ?_
        have hone : (decide (setOf x.ev = setOf n.ev) && (decide (fstOf x.p = fstOf n.p) && decide (fstOf x.s = fstOf n.s))) = isN x n := by rw [isN, hKK]; rfl
        rw [hone]
        cases hK : isN x n
        · simp [hx8]
          refine AA_lit1 hop (by omega) ?_
          intro d2 h2 ho2 _ _
          have ho3 : Own B0 9 h2 d2 (nts ((l.take (i + 1)).filter fun x => !isN x n)) := by rw [(keep hK).1, ← nts_push]; exact ho2
          simp [hadd]
          exact hb _ (i + 1, ct, d2, h2) (Wk.fits (by simp)) ⟨hi', (keep hK).2.symm, ho3⟩ (by simp; omega)
        · simp [hadd, hadd2]
          exact hb _ (i + 1, ct + 1, d, H1) (Wk.fits (by simp)) ⟨hi', (out hK).2.symm, by rw [(out hK).1]; exact hop⟩ (by simp; omega)
  · have : i = l.length := by simp at h2; omega
    subst this
    rw [List.take_length] at ho hct
    simp
    refine he _ _ ?_
    simp
    have hnd : nDo l 2 n = (l.filter (fun x => !isN x n), decide (0 < ct), decide (ct = 0), decide (ct < 2)) := by simp [nDo, ← hct]
    rw [hnd]
    have e1 : decide ((0 : Int) < (ct : Int)) = decide (0 < ct) := by rw [Bool.eq_iff_iff]; simp
    have e2 : ((ct : Int) == 0) = decide (ct = 0) := by rw [Bool.eq_iff_iff]; simp
    have e3 : decide ((ct : Int) < 2) = decide (ct < 2) := by rw [Bool.eq_iff_iff]; simp; omega
    simp [ndR, e1, e2, e3]
    exact WkV.ofR (hB.mono ho.pre).pre (FrzR.tup (.cons (Own.frzN (ho.base hB.pre) hw) (.cons .p (.cons .p (.cons .p .nil)))))
theorem ok6 {G : Nat → DV} (hG : GZ G) (h : List Blk) (l : List N) (kd : Int) (n : N) (hl : l.length ≤ 1000) (hf : ∀ x ∈ l, Few x) (hn : Few n) (hk : kd = 0 ∨ kd = 1 ∨ kd = 2) : Ok Try.prog G 6 [.fz 9 (nts l), stD kd n] h (ndR (nDo l kd n)) h := by
  rcases hk with rfl | rfl | rfl
  · exact ok6a hG h l n hl hf hn
  · exact ok6b hG h l n hl
  · exact ok6c hG h l n hl hf hn
end Go.Proofs.Ythkgekkpnldbmaa
