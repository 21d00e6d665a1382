/- The law FnIntSets: the walk. -/
import Derived.Test.YtdgnjngbheecnaaIsI
set_option linter.unusedVariables false
set_option linter.unusedSimpArgs false
set_option maxRecDepth 100000
set_option maxHeartbeats 4000000
namespace Go.Proofs.Ytdgnjngbheecnaa
open Go Go.Den Go.Proofs

theorem Ok_sub {P : Program} {G : Nat → DV} {f : FuncId} {args args' : List DV} {h h' : List Blk} {v : DV} (hf : Ok P G f args' h v h') (ha : FrzL h h args args') : Ok P G f args h v h' := by
  intro e w vs he hH hr hg ht
  obtain ⟨h1, h2⟩ := ha.tr
  subst he
  exact hf e w vs rfl hH hr hg ⟨h1.trans ht.1, fun i hi hi' => h2 i (by omega) hi e _ rfl hr (ht.2 i (by omega) hi')⟩
theorem FrzR_refl {h : List Blk} {d : DV} : FrzR h h d d := fun e v he hr hv => by subst he; exact hv
theorem ok22a {G : Nat → DV} (h : List Blk) (b0 : Nat) (X Y : List Int) (hb0 : h[b0]? = some (.cells 1 (ints X ++ ints Y))) (hL : X.length + Y.length ≤ 1000) : Ok Try.prog G 22 [.sl b0 0 (X.length + Y.length) (X.length + Y.length)] h (.fz 1 (ints (setOf (X ++ Y)))) h := by
  have := ok22s (G := G) h b0 (X ++ Y) (by rw [hb0]; simp [ints]) (by simpa using hL)
  rwa [List.length_append] at this
theorem ok22c {G : Nat → DV} (h : List Blk) (b0 : Nat) (z : Int) (X : List Int) (hb0 : h[b0]? = some (.cells 1 (.p (.int .i64 z) :: ints X))) (hL : X.length + 1 ≤ 1000) : Ok Try.prog G 22 [.sl b0 0 (1 + X.length) (1 + X.length)] h (.fz 1 (ints (setOf (z :: X)))) h := by
  have := ok22s (G := G) h b0 (z :: X) (by rw [hb0]; simp [ints]) (by simpa using hL)
  rwa [List.length_cons, Nat.add_comm] at this

theorem ok6 {G : Nat → DV} (hG : GZ G) (h : List Blk) (xs ys : List Int) (z : Int) (hx : xs.length ≤ maxLen) (hy : ys.length ≤ maxLen) :
    Ok Try.prog G 6 [.fz 1 (ints xs), .fz 1 (ints ys), .p (.int .i64 z)] h (.p (.bool true)) h := by
  refine Ok.wf fun hw => ?_
  refine Ok_by Try.func6 c6_ok r6_ok 158 rfl ?_
  simp [c6, r6]
  cases h1 : decide (2147483647 < (xs.length : Int))
  case true => simp
  simp
  refine CC_by (fun h2 => ?_) (fun h2 => ?_)
  · simp
  simp at h1 h2
  simp
  generalize hX : xs.take (min xs.length 10) = X
  generalize hY : ys.take (min ys.length 10) = Y
  have hX10 : X.length ≤ 10 := by rw [← hX]; simp
  have hY10 : Y.length ≤ 10 := by rw [← hY]; simp
  refine FF_by (ok21 hG _ X Y z (by omega) (by omega)) ?_
  simp [setsR]
  refine FF_by (ok22 _ X (by omega)) ?_
  simp
  refine FF_by (ok22 _ Y (by omega)) ?_
  simp
  have hA10 := setOf_length X
  have hB10 := setOf_length Y
  generalize hA : setOf X = A at hA10 ⊢
  generalize hB : setOf Y = B at hB10 ⊢
  generalize hf0 : setOf (X ++ Y) = f0
  generalize hf1 : setOf (X.filter fun y => setHas Y y) = f1
  generalize hf2 : setOf (X.filter fun y => !setHas Y y) = f2
  generalize hf8 : setOf (z :: X) = f8
  generalize hf9 : setOf (X.filter fun y => !decide (y = z)) = f9
  generalize hf10 : setOf (X.map bang) = f10
  generalize hf11 : setOf (X.filter fun y => begins y z) = f11
  let blk : Blk := .cells 12 [.agg [.fz 1 (ints f0), .fz 1 (ints f1), .fz 1 (ints f2), .fz 1 (ints A), .fz 1 (ints A), .fz 1 (ints f8), .fz 1 (ints f9), .fz 1 (ints f10), .fz 1 (ints f11), .p (.bool (decide (A = B))), .p (.bool (setHas X z)), .p (.bool (decide (X = [])))]]
  have hblk : ∀ {B : Nat → Prop}, blk.wf B := fun {B} => by intro j hj; simp at hj; subst hj; simp
  have hw1 : HWF (h ++ [blk]) := hw.push fun k hk => by simp at hk; subst hk; exact hblk
  let F : Nat × DV × DV × List Blk → St := fun q => if q.1 < A.length then ⟨fr 161 [(0, .fz 1 (ints X)), (1, .fz 1 (ints Y)), (2, .p (.int .i64 z)), (7, .ptr h.length 0 0 1), (8, .fz 1 (ints A)), (9, .fz 1 (ints B)), (10, q.2.1), (11, q.2.2.1), (41, .fz 1 (ints A)), (42, .p (.int .i64 A.length)), (43, .p (.int .i64 q.1))], q.2.2.2⟩
    else ⟨fr 161 [(0, .fz 1 (ints X)), (1, .fz 1 (ints Y)), (2, .p (.int .i64 z)), (7, .ptr h.length 0 0 1), (8, .fz 1 (ints A)), (9, .fz 1 (ints B)), (10, .fz 1 (ints (A.map bang))), (11, .fz 1 (ints (A.filter fun y => begins y z))), (42, .p (.int .i64 A.length)), (43, .p (.int .i64 A.length))], h ++ [blk]⟩
  have F1 : ∀ i d d2 h', i < A.length → F (i, d, d2, h') = ⟨fr 161 [(0, .fz 1 (ints X)), (1, .fz 1 (ints Y)), (2, .p (.int .i64 z)), (7, .ptr h.length 0 0 1), (8, .fz 1 (ints A)), (9, .fz 1 (ints B)), (10, d), (11, d2), (41, .fz 1 (ints A)), (42, .p (.int .i64 A.length)), (43, .p (.int .i64 i))], h'⟩ := fun i d d2 h' hi => if_pos hi
  have F2 : ∀ i d d2 h', ¬ i < A.length → F (i, d, d2, h') = ⟨fr 161 [(0, .fz 1 (ints X)), (1, .fz 1 (ints Y)), (2, .p (.int .i64 z)), (7, .ptr h.length 0 0 1), (8, .fz 1 (ints A)), (9, .fz 1 (ints B)), (10, .fz 1 (ints (A.map bang))), (11, .fz 1 (ints (A.filter fun y => begins y z))), (42, .p (.int .i64 A.length)), (43, .p (.int .i64 A.length))], h ++ [blk]⟩ := fun i d d2 h' hi => if_neg hi
  have last : ∀ (t : List DV) (d d2 : DV) (h2 : List Blk), Own (h ++ [blk]) 1 h2 d (ints (A.map bang)) → Own (h ++ [blk]) 1 h2 d2 (ints (A.filter fun y => begins y z)) →
      (∀ t', (t' = fr 161 [(0, .fz 1 (ints X)), (1, .fz 1 (ints Y)), (2, .p (.int .i64 z)), (7, .ptr h.length 0 0 1), (8, .fz 1 (ints A)), (9, .fz 1 (ints B)), (10, .fz 1 (ints (A.map bang))), (11, .fz 1 (ints (A.filter fun y => begins y z))), (42, .p (.int .i64 A.length)), (43, .p (.int .i64 A.length))]) →
        (∀ v, FrzR h2 (h ++ [blk]) (.p v) (.p v)) → (∀ l, FrzR h2 (h ++ [blk]) (.fz 1 (ints l)) (.fz 1 (ints l))) → FrzR h2 (h ++ [blk]) (.ptr h.length 0 0 1) (.ptr h.length 0 0 1) → FrzR h2 (h ++ [blk]) d (.fz 1 (ints (A.map bang))) → FrzR h2 (h ++ [blk]) d2 (.fz 1 (ints (A.filter fun y => begins y z))) → Den.fitsF h2 (h ++ [blk]) t t') → ∀ i, ¬ i < A.length →
      Wk G h ⟨t, h2⟩ (F (i, d, d2, h2)) := fun t d d2 h2 ho ho' hf i hi => by
    rw [F2 _ _ _ _ hi]
    have hd : ∀ (c : Nat) (k : Blk), (h ++ [blk])[c]? = some k → h2[c]? = some k ∨ k = .dead := fun c k hc => .inl (ho.pre c k hc)
    refine Wk.fitsF (by simp) hd (fun _ => hw1) (hf _ rfl (fun v => .p) (fun l => .wf hd (by simp)) (.wf hd (by simp)) (ho.frzR1 hw1 ints_plain) (ho'.frzR1 hw1 ints_plain)) (hG.frz hd)
  refine VV_fam F (fun q => q.1 ≤ A.length ∧ Own (h ++ [blk]) 1 q.2.2.2 q.2.1 (ints ((A.take q.1).map bang)) ∧ Own (h ++ [blk]) 1 q.2.2.2 q.2.2.1 (ints ((A.take q.1).filter fun y => begins y z)) ∧ apart q.2.1 q.2.2.1) (fun q => A.length - q.1) (0, .p (.slice none 0 0), .p (.slice none 0 0), h ++ [blk])
    ⟨by simp, by simpa using Own.nil, by simpa using Own.nil, .nil⟩ ?_ ?_
  · by_cases h0 : 0 < A.length
    · rw [F1 _ _ _ _ h0]
      exact Wk.fits (by simp)
    · have : A = [] := List.eq_nil_of_length_eq_zero (by omega)
      refine last _ _ _ _ (by rw [show A.map bang = [] by rw [this]; rfl]; exact Own.nil) (by rw [show (A.filter fun y => begins y z) = [] by rw [this]; rfl]; exact Own.nil) (fun t' ht' g1 g2 g3 g4 g5 => ?_) 0 h0
      subst ht'
      have h0' : A.length = 0 := by rw [this]; rfl
      simp [Den.fitsF, g1, g2, g3, g4, g5]
      rw [h0']
      exact .p
  rintro ⟨i, d, d2, h'⟩ ⟨hi, ho, ho2, hap⟩ B' hbk he hr
  simp only at hi ho ho2 hap
  by_cases hi' : i < A.length
  · rw [F1 _ _ _ _ hi']
    have hadd : IntKind.i64.wrap ((i : Int) + 1) = ((i + 1 : Nat) : Int) := wrap_succ hi' (by omega)
    have hn1 : (A.take (i + 1)).map bang = (A.take i).map bang ++ [bang A[i]] := by rw [List.take_succ_eq_append_getElem hi', List.map_append]; rfl
    have hn2 : (A.take (i + 1)).filter (fun y => begins y z) = (A.take i).filter (fun y => begins y z) ++ if begins A[i] z = true then [A[i]] else [] := by
      rw [List.take_succ_eq_append_getElem hi', List.filter_append]
      simp [List.filter_cons]
    have hl2 : ((A.take i).filter fun y => begins y z).length ≤ i := Nat.le_trans (List.length_filter_le _ _) (by simp)
    simp [hi']
    refine AA_lit1 ho (by simp; omega) ?_
    intro e1 h1 ho1 hle1 hothers
    obtain ⟨ho12, hap1⟩ := hothers d2 1 _ ho2 hap
    have ho1' : Own (h ++ [blk]) 1 h1 e1 (ints ((A.take (i + 1)).map bang)) := by rw [hn1, ← ints_push]; exact ho1
    have goon : ∀ (t : List DV) (e2 : DV) (h2 : List Blk), Own (h ++ [blk]) 1 h2 e1 (ints ((A.take (i + 1)).map bang)) → Own (h ++ [blk]) 1 h2 e2 (ints ((A.take (i + 1)).filter fun y => begins y z)) → apart e1 e2 →
        fits t (fr 161 [(0, .fz 1 (ints X)), (1, .fz 1 (ints Y)), (2, .p (.int .i64 z)), (7, .ptr h.length 0 0 1), (8, .fz 1 (ints A)), (9, .fz 1 (ints B)), (10, e1), (11, e2), (41, .fz 1 (ints A)), (42, .p (.int .i64 A.length)), (43, .p (.int .i64 (i + 1 : Nat)))]) true →
        (∀ t', (t' = fr 161 [(0, .fz 1 (ints X)), (1, .fz 1 (ints Y)), (2, .p (.int .i64 z)), (7, .ptr h.length 0 0 1), (8, .fz 1 (ints A)), (9, .fz 1 (ints B)), (10, .fz 1 (ints (A.map bang))), (11, .fz 1 (ints (A.filter fun y => begins y z))), (42, .p (.int .i64 A.length)), (43, .p (.int .i64 A.length))]) → i + 1 = A.length →
        (∀ v, FrzR h2 (h ++ [blk]) (.p v) (.p v)) → (∀ l, FrzR h2 (h ++ [blk]) (.fz 1 (ints l)) (.fz 1 (ints l))) → FrzR h2 (h ++ [blk]) (.ptr h.length 0 0 1) (.ptr h.length 0 0 1) → FrzR h2 (h ++ [blk]) e1 (.fz 1 (ints (A.map bang))) → FrzR h2 (h ++ [blk]) e2 (.fz 1 (ints (A.filter fun y => begins y z))) → Den.fitsF h2 (h ++ [blk]) t t') →
        B' .nrm ⟨t, h2⟩ := fun t e2 h2 o1 o2 ha hf hF => by
      refine hbk _ (i + 1, e1, e2, h2) ?_ ⟨hi', o1, o2, ha⟩ (by simp; omega)
      by_cases hl : i + 1 < A.length
      · rw [F1 _ _ _ _ hl]
        exact Wk.fits hf
      · have hia : i + 1 = A.length := by omega
        rw [hia, List.take_length] at o1 o2
        exact last t e1 e2 h2 o1 o2 (fun t' ht g1 g2 g3 g4 g5 => hF t' ht hia g1 g2 g3 g4 g5) (i + 1) hl
    simp
    refine CC_by (fun h3 => ?_) (fun h3 => ?_)
    · have hb0 : begins A[i] z = true := by simp at h3; simp [begins, less, h3]
      rw [hb0] at hn2
      simp at hn2
      simp
      refine AA_lit1 ho12 (by simp; omega) ?_
      intro e2 h2 ho22 hle2 hothers2
      obtain ⟨ho13, hap2⟩ := hothers2 e1 1 _ ho1' hap1.symm
      simp [hadd]
      refine goon _ e2 h2 ho13 (by rw [hn2, ← ints_push]; exact ho22) hap2.symm (by simp) (fun t' ht hia g1 g2 g3 g4 g5 => ?_)
      subst ht
      simp [Den.fitsF, g1, g2, g3, g4, g5, ← hia]
    · have hb0 : begins A[i] z = false := by simp at h3; simp [begins, less, h3]
      rw [hb0] at hn2
      simp at hn2
      simp [hadd]
      refine goon _ d2 h1 ho1' (by simp [hn2]; exact ho12) hap1 (by simp) (fun t' ht hia g1 g2 g3 g4 g5 => ?_)
      subst ht
      simp [Den.fitsF, g1, g2, g3, g4, g5, ← hia]
  · rw [F2 _ _ _ _ hi']
    simp
    clear hbk hr last F1 F2 ho ho2 hap
    have e1 : setOf (keepT A B true) = f1 := by
      rw [← hf1, setOf_eq]
      intro y
      simp [keepT, setHas, ← hA, ← hB, mem_setOf]
    have e2 : setOf (keepT A B false) = f2 := by
      rw [← hf2, setOf_eq]
      intro y
      simp [keepT, setHas, ← hA, ← hB, mem_setOf]
    have e4 : setOf (keepT A [z] false) = f9 := by
      rw [← hf9, setOf_eq]
      intro y
      simp [keepT, setHas, ← hA, mem_setOf]
      intro _
      exact ⟨fun h1 h2 => h1 h2.symm, fun h1 h2 => h1 h2.symm⟩
    have e5 : setOf (A.map bang) = f10 := by
      rw [← hf10, setOf_eq]
      intro y
      simp [← hA, mem_setOf]
    have e6 : A.filter (fun y => begins y z) = f11 := by
      rw [← hf11]
      refine asc_ext (List.Pairwise.sublist List.filter_sublist (hA ▸ asc_setOf X)) (asc_setOf _) fun y => ?_
      simp [← hA, mem_setOf]
    have l0 := setOf_length (X ++ Y)
    have l1 := setOf_length (X.filter fun y => setHas Y y)
    have l2 := setOf_length (X.filter fun y => !setHas Y y)
    have l8 := setOf_length (z :: X)
    have l9 := setOf_length (X.filter fun y => !decide (y = z))
    have l10 := setOf_length (X.map bang)
    have l11 := setOf_length (X.filter fun y => begins y z)
    have m1 := List.length_filter_le (fun y => setHas Y y) X
    have m2 := List.length_filter_le (fun y => !setHas Y y) X
    have m9 := List.length_filter_le (fun y => !decide (y = z)) X
    have m11 := List.length_filter_le (fun y => begins y z) X
    rw [hf0] at l0
    rw [hf1] at l1
    rw [hf2] at l2
    rw [hf8] at l8
    rw [hf9] at l9
    rw [hf10] at l10
    rw [hf11] at l11
    simp at l0 l8 l10
    have mx : maxLen = 9223372036854775807 := maxLen_eq
    refine he _ _ ?_
    simp [blk]
    have one : ∃ (g0 g1 g2 g4 g5 g6 g7 g8 : List Int) (b0 b1 b2 : Bool), setsR [2] [] 0 = .agg [.fz 1 (ints g0), .fz 1 (ints g1), .fz 1 (ints g2), .fz 1 (ints [2]), .fz 1 (ints g4), .fz 1 (ints g5), .fz 1 (ints g6), .fz 1 (ints g7), .fz 1 (ints g8), .p (.bool b0), .p (.bool b1), .p (.bool b2)] := ⟨_, _, _, _, _, _, _, _, _, _, _, rfl⟩
    obtain ⟨g0, g1, g2, g4, g5, g6, g7, g8, b0, b1, b2, hone⟩ := one
    have e7 : (decide (X = []) == ((X.length : Int) == 0)) = true := by cases X <;> simp; omega
    refine FF_by (Ok_sub (ok21s hG _ (h.length + 1) [2] [] 0 (by simp [ints]) (by simp) (by simp)) (.cons FrzR_refl (.cons .nil (.cons .p .nil)))) ?_
    rw [hone]
    simp
    refine DF_by (ok23 _ A A (by omega)) ?_
    simp
    refine DF_by (ok23 _ A A (by omega)) ?_
    simp [DA_raw]
    refine ⟨by omega, by omega, ?_⟩
    refine DF_by (ok22a _ (h.length + 3) X Y (by simp) (by omega)) ?_
    rw [hf0]
    simp
    refine DF_by (ok23 _ f0 f0 (by omega)) ?_
    simp
    refine DF_by (ok24 hG _ A B true (by omega) (by omega)) ?_
    rw [e1]
    simp
    refine DF_by (ok23 _ f1 f1 (by omega)) ?_
    simp
    refine DF_by (ok24 hG _ A B false (by omega) (by omega)) ?_
    rw [e2]
    simp
    refine DF_by (ok23 _ f2 f2 (by omega)) ?_
    simp
    refine DF_by (ok23 _ A B (by omega)) ?_
    simp
    refine DF_by (ok25 _ X z (by omega)) ?_
    simp
    rw [e7]
    simp [DA_raw]
    refine ⟨by omega, ?_⟩
    refine DF_by (ok22c _ (h.length + 4) z X (by simp) (by omega)) ?_
    rw [hf8]
    simp
    refine DF_by (ok23 _ f8 f8 (by omega)) ?_
    simp
    refine DF_by (ok24s hG _ A [z] (h.length + 5) (by simp [ints]) false (by omega) (by simp)) ?_
    rw [e4]
    simp
    refine DF_by (ok23 _ f9 f9 (by omega)) ?_
    simp
    refine DF_by (ok22 _ (A.map bang) (by simp; omega)) ?_
    rw [e5]
    simp
    refine DF_by (ok23 _ f10 f10 (by omega)) ?_
    simp
    rw [e6]
    refine DF_by (ok23 _ f11 f11 (by omega)) ?_
    simp
theorem intSets_walk (d1 d2 : DV) (z : Int) (s1 : Shaped (.sl 1 (.int .i64)) d1) (s2 : Shaped (.sl 1 (.int .i64)) d2) (hz : (Lit.int IntKind.i64 z).wf = true) :
    Ok Try.prog (fun _ => .any) 6 [d1, d2, .p (.int .i64 z)] [] (.p (.bool true)) [] := by
  obtain ⟨xs, rfl, h1⟩ := shaped_ints s1
  obtain ⟨ys, rfl, h2⟩ := shaped_ints s2
  exact ok6 GZ.any [] xs ys z h1 h2

end Go.Proofs.Ytdgnjngbheecnaa
