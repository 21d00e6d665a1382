/- The law: its loop over the steps. -/
import Derived.Test.YthkgekkpnldbmaaNfV
set_option linter.unusedVariables false
set_option linter.unusedSimpArgs false
set_option maxRecDepth 100000
set_option maxHeartbeats 4000000
namespace Go.Proofs.Ythkgekkpnldbmaa
open Go Go.Den Go.Proofs
theorem ok3 {G : Nat → DV} (hG : GZ G) (Q : List (Int × N)) (hQ : Q.length ≤ maxLen) (hf : ∀ x ∈ Q, Len x.2) : Ok Try.prog G 3 [.fz 10 (sts Q)] [] (.p (.bool true)) [] := by
  obtain ⟨h, h_e⟩ : ∃ h : List Blk, h = [] := ⟨_, rfl⟩
  rw [← h_e]
  refine Ok.wf fun hw => ?_
  obtain ⟨b, hok, hb⟩ := ok4 (G := G) h Q hQ hf
  refine Ok_by Try.func3 c3_ok r3_ok 199 rfl ?_
  rw [c3_cut]
  simp
  refine FF_by hok ?_
  cases b
  · simp [r3]
  · simp
    have hQ2 := hb rfl
    obtain ⟨R, hR, hRl⟩ : ∃ R, sts R = (sts Q).take (min Q.length 14) ∧ R.length = min Q.length 14 := ⟨Q.take (min Q.length 14), by simp [sts], by simp⟩
    have hR14 : R.length ≤ 14 := by omega
    rw [← hR, ← hRl]
    let F : Nat × DV × DV × DV × List Blk → St := fun x => if x.1 < R.length then ⟨fr 200 [(3, x.2.1), (4, .fz 9 (nts (svR (R.take x.1)).l)), (5, x.2.2.1), (6, x.2.2.2.1), (36, .fz 10 (sts R)), (37, .p (.int .i64 R.length)), (38, .p (.int .i64 x.1))], x.2.2.2.2⟩
      else ⟨fr 200 [(3, .fz 10 (sts (svR R).q)), (4, .fz 9 (nts (svR R).l)), (5, .fz 1 (bls (svR R).o2)), (6, .fz 1 (bls (svR R).o3)), (37, .p (.int .i64 R.length)), (38, .p (.int .i64 R.length))], h⟩
    have F1 : ∀ i d3 d5 d6 H, i < R.length → F (i, d3, d5, d6, H) = ⟨fr 200 [(3, d3), (4, .fz 9 (nts (svR (R.take i)).l)), (5, d5), (6, d6), (36, .fz 10 (sts R)), (37, .p (.int .i64 R.length)), (38, .p (.int .i64 i))], H⟩ := fun i d3 d5 d6 H hi => if_pos hi
    have F2 : ∀ i d3 d5 d6 H, ¬ i < R.length → F (i, d3, d5, d6, H) = ⟨fr 200 [(3, .fz 10 (sts (svR R).q)), (4, .fz 9 (nts (svR R).l)), (5, .fz 1 (bls (svR R).o2)), (6, .fz 1 (bls (svR R).o3)), (37, .p (.int .i64 R.length)), (38, .p (.int .i64 R.length))], h⟩ := fun i d3 d5 d6 H hi => if_neg hi
    let ok : Nat × DV × DV × DV × List Blk → Prop := fun x => x.1 ≤ R.length ∧ Own h 10 x.2.2.2.2 x.2.1 (sts (svR (R.take x.1)).q) ∧ Own h 1 x.2.2.2.2 x.2.2.1 (bls (svR (R.take x.1)).o2) ∧ Own h 1 x.2.2.2.2 x.2.2.2.1 (bls (svR (R.take x.1)).o3) ∧ apart x.2.1 x.2.2.1 ∧ apart x.2.1 x.2.2.2.1 ∧ apart x.2.2.1 x.2.2.2.1
    have enter : ∀ (t : List DV) i d3 d5 d6 H, ok (i, d3, d5, d6, H) → Den.fits t (fr 200 [(3, d3), (4, .fz 9 (nts (svR (R.take i)).l)), (5, d5), (6, d6), (36, .fz 10 (sts R)), (37, .p (.int .i64 R.length)), (38, .p (.int .i64 i))]) true → Wk G h ⟨t, H⟩ (F (i, d3, d5, d6, H)) := by
      intro t i d3 d5 d6 H hok hfit
      by_cases hi' : i < R.length
      · rw [F1 _ _ _ _ _ hi']
        exact Wk.fits hfit
      · rw [F2 _ _ _ _ _ hi']
        obtain ⟨hi, o3, o5, o6, _, _, _⟩ := hok
        simp only at hi o3 o5 o6
        have hii : i = R.length := by omega
        rw [hii, List.take_length] at o3 o5 o6 hfit
        refine Wk.trans (Wk.fits hfit) ?_
        have hd : ∀ (c : Nat) (k : Blk), h[c]? = some k → H[c]? = some k ∨ k = .dead := fun c k hc => .inl (o3.pre c k hc)
        refine Wk.fitsF (Nat.le_refl _) hd id ?_ (hG.frz hd)
        simp [Den.fitsF, FrzR_p]
        exact ⟨Own.frzS o3 hw, FrzR_nts _ o3.pre hw, o5.frzR1 hw bls_plain, o6.frzR1 hw bls_plain⟩
    refine VV_famW F ok (fun x => R.length - x.1) (0, .p (.slice none 0 0), .p (.slice none 0 0), .p (.slice none 0 0), h) ⟨by simp, .nil, .nil, .nil, .nil, .nil, .nil⟩ (Wk.trans ?_ (enter (fr 200 [(3, .p (.slice none 0 0)), (4, .fz 9 (nts (svR (R.take 0)).l)), (5, .p (.slice none 0 0)), (6, .p (.slice none 0 0)), (36, .fz 10 (sts R)), (37, .p (.int .i64 R.length)), (38, .p (.int .i64 (0 : Nat)))]) _ _ _ _ _ ⟨by simp, .nil, .nil, .nil, .nil, .nil, .nil⟩ (by simp))) ?_
    · have hd : ∀ (c : Nat) (k : Blk), h[c]? = some k → h[c]? = some k ∨ k = .dead := fun c k hc => .inl hc
      refine Wk.fitsF (Nat.le_refl _) hd id ?_ (hG.frz hd)
      have hfz : FrzR h h (.fz 10 (sts R)) (.fz 10 (sts R)) := FrzR.of 3 hd hw (frz_fz' (frz_sts R))
      simp [Den.fitsF, FrzR_p, hfz]
      exact FrzR.nil
    rintro ⟨i, d3, d5, d6, H⟩ ⟨hi, o3, o5, o6, a35, a36, a56⟩ B hbk he hr
    simp only at hi o3 o5 o6 a35 a36 a56
    have hlen := svR_len (R.take i)
    simp at hlen
    by_cases hi' : i < R.length
    · rw [F1 _ _ _ _ _ hi']
      have hadd : IntKind.i64.wrap ((i : Int) + 1) = ((i + 1 : Nat) : Int) := wrap_succ hi' (by omega)
      have htk : R.take (i + 1) = R.take i ++ [R[i]] := List.take_succ_eq_append_getElem hi'
      have hd' : (i : Int) < R.length := by omega
      have hsim := sim_svR (R.take i)
      have hnext := svR_push (R.take i) R[i]
      rw [← htk] at hnext
      simp [hi', stD]
      generalize R[i] = x at htk hnext ⊢
      have k5 := fun h' => ok5 (G := G) hG h' x.2.k x.2.a x.2.b x.2.c x.2.d x.2.e x.2.ev x.2.p x.2.s
      simp only [ntD] at k5
      refine DF_by (k5 _) ?_
      simp
      have k6 := fun h' => ok6 (G := G) hG h' (svR (R.take i)).l (sPl x).1 (sPl x).2 (by omega) (fun y hy => (hsim.good y hy).few) (nPl_good _).few (kd_three _)
      have hkd : IntKind.i64.wrap ((IntKind.u64.wrap x.1).tmod 3) = kd x.1 := rfl
      have e1 : stD (kd x.1) (nPl x.2) = .agg [.p (.int .i64 (kd x.1)), .p (.int .i64 (kd x.2.k)), .p (.string (S (noColon x.2.a))), .p (.string (S (noColon x.2.b))), .p (.string (S (noColon x.2.c))), .p (.string (S (noColon x.2.d))), .p (.string (S (noColon x.2.e))), .fz 1 (strs (ntEvents x.2.ev)), .fz 1 (strs (ntOne x.2.p)), .fz 1 (strs (ntOne x.2.s))] := rfl
      simp only [sPl, e1] at k6
      simp only [hkd]
      refine FF_by (k6 _) ?_
      have hsv : svS (svR (R.take i)) (sPl x) = if (nDo (svR (R.take i)).l (kd x.1) (nPl x.2)).2.2.2 = true then ⟨(nDo (svR (R.take i)).l (kd x.1) (nPl x.2)).1, (svR (R.take i)).q ++ [sPl x], (svR (R.take i)).o2 ++ [(nDo (svR (R.take i)).l (kd x.1) (nPl x.2)).2.1], (svR (R.take i)).o3 ++ [(nDo (svR (R.take i)).l (kd x.1) (nPl x.2)).2.2.1]⟩ else svR (R.take i) := rfl
      rw [hsv] at hnext
      simp [ndR]
      cases hsaid : (nDo (svR (R.take i)).l (kd x.1) (nPl x.2)).2.2.2
      · rw [hsaid] at hnext
        simp at hnext
        simp [hadd]
        have hok : ok (i + 1, d3, d5, d6, H ++ [.cells 10 [stD (kd x.1) (nPl x.2)]]) := ⟨hi', by rw [hnext]; exact o3.push, by rw [hnext]; exact o5.push, by rw [hnext]; exact o6.push, a35, a36, a56⟩
        refine hbk _ _ (enter _ _ _ _ _ _ hok (by simp [hnext])) hok (by simp; omega)
      · rw [hsaid] at hnext
        simp at hnext
        simp
        refine AA_own o3.push (ys := [stD (kd x.1) (nPl x.2)]) (by simp [e1]) (by simp; omega) ?_
        intro e3 h3 q3 hl3 hk3
        obtain ⟨q5, b35⟩ := hk3 _ _ _ o5.push a35
        obtain ⟨q6, b36⟩ := hk3 _ _ _ o6.push a36
        simp
        refine AA_own q5.push (ys := [.p (.bool (nDo (svR (R.take i)).l (kd x.1) (nPl x.2)).2.1)]) (by simp) (by simp; omega) ?_
        intro e5 h5 r5 hl5 hk5
        obtain ⟨r3, c35⟩ := hk5 _ _ _ q3.push b35.symm
        obtain ⟨r6, c56⟩ := hk5 _ _ _ q6.push a56
        simp
        refine AA_own r6.push (ys := [.p (.bool (nDo (svR (R.take i)).l (kd x.1) (nPl x.2)).2.2.1)]) (by simp) (by simp; omega) ?_
        intro e6 h6 t6 hl6 hk6
        obtain ⟨t3, d36⟩ := hk6 _ _ _ r3.push b36.symm
        obtain ⟨t5, d56⟩ := hk6 _ _ _ r5.push c56.symm
        rw [sts_push] at t3
        rw [bls_push] at t5 t6
        simp [hadd]
        have hok : ok (i + 1, e3, e5, e6, h6) := ⟨hi', by rw [hnext]; exact t3, by rw [hnext]; exact t5, by rw [hnext]; exact t6, c35.symm, d36.symm, d56.symm⟩
        refine hbk _ _ (enter _ _ _ _ _ _ hok (by simp [hnext])) hok (by simp; omega)
    · have hii : i = R.length := by omega
      rw [F2 _ _ _ _ _ hi']
      have hlenR := svR_len R
      simp
      subst h_e
      have hw3 := w3a hG (svR R) (sim_svR R) (by omega) (by omega) hlenR.2.2.1 hlenR.2.2.2
      refine he _ _ ⟨_, []⟩ (Wk.fits ?_) (by simpa using hw3)
      simp
end Go.Proofs.Ythkgekkpnldbmaa
