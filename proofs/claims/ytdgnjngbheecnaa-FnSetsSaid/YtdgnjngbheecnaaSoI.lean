/- The law FnSets: the walk. -/
import Derived.Test.YtdgnjngbheecnaaSoH
set_option linter.unusedVariables false
set_option linter.unusedSimpArgs false
set_option maxRecDepth 100000
set_option maxHeartbeats 4000000
namespace Go.Proofs.Ytdgnjngbheecnaa
open Go Go.Den Go.Proofs

theorem ok28a {G : Nat → DV} (h : List Blk) (b0 : Nat) (X Y : List ByteArray) (hb0 : h[b0]? = some (.cells 1 (strs X ++ strs Y))) (hL : X.length + Y.length ≤ 1000) : Ok Try.prog G 28 [.sl b0 0 (X.length + Y.length) (X.length + Y.length)] h (.fz 1 (strs (setOf (X ++ Y)))) h := by
  have := ok28s (G := G) h b0 (X ++ Y) (by rw [hb0]; simp [strs]) (by simpa using hL)
  rwa [List.length_append] at this
theorem ok28c {G : Nat → DV} (h : List Blk) (b0 : Nat) (z : ByteArray) (X : List ByteArray) (hb0 : h[b0]? = some (.cells 1 (.p (.string z) :: strs X))) (hL : X.length + 1 ≤ 1000) : Ok Try.prog G 28 [.sl b0 0 (1 + X.length) (1 + X.length)] h (.fz 1 (strs (setOf (z :: X)))) h := by
  have := ok28s (G := G) h b0 (z :: X) (by rw [hb0]; simp [strs]) (by simpa using hL)
  rwa [List.length_cons, Nat.add_comm] at this
theorem ok27 {G : Nat → DV} (hG : GZ G) (h : List Blk) (k : Int) (hk : k = 0 ∨ k = 1) (xs ys : List ByteArray) (x : ByteArray) (hx : xs.length ≤ 20) (hy : ys.length ≤ 20) (hxs : ∀ s, s ∈ xs → s.size ≤ 20) :
    Ok Try.prog G 27 [.p (.int .i64 k), .fz 1 (strs xs), .fz 1 (strs ys), .p (.string x)] h (.tup [setsR xs ys x, .p (.bool true)]) h := by
  rcases hk with rfl | rfl
  · exact ok27_0 hG h xs ys x hx hy hxs
  · exact ok27_1 hG h xs ys x hx hy hxs
theorem mod2 {k : Int} (hk : 0 ≤ k) : IntKind.i64.wrap (k.tmod 2) = 0 ∨ IntKind.i64.wrap (k.tmod 2) = 1 := by
  rw [Int.tmod_eq_emod_of_nonneg hk]
  rcases (show k % 2 = 0 ∨ k % 2 = 1 by omega) with h | h <;> rw [h]
  · exact .inl rfl
  · exact .inr rfl
theorem ok7 {G : Nat → DV} (hG : GZ G) (h : List Blk) (k : Int) (xs ys : List ByteArray) (x : ByteArray) (hk : 0 ≤ k) (hk2 : k ≤ 255) (hx : xs.length ≤ maxLen) (hy : ys.length ≤ maxLen) (hxs : x.size ≤ 140737488351232) :
    Ok Try.prog G 7 [.p (.int .u8 k), .fz 1 (strs xs), .fz 1 (strs ys), .p (.string x)] h (.p (.bool true)) h := by
  refine Ok.wf fun hw => ?_
  refine Ok_by Try.func7 c7_ok r7_ok 174 rfl ?_
  simp [c7, r7]
  refine FF_by (ok9 _ xs hx) ?_
  cases hf1 : fits8 xs
  · simp
  simp
  refine FF_by (ok9 _ ys hy) ?_
  cases hf2 : fits8 ys
  · simp
  simp
  refine CC_by (fun h1 => ?_) (fun h1 => ?_)
  · simp
  simp at h1
  simp
  refine DF_by (ok26 _ xs) ?_
  simp
  refine DF_by (ok26 _ ys) ?_
  have hX10 := setTexts_length xs
  have hY10 := setTexts_length ys
  have hX20 := setTexts_size xs
  have hY20 := setTexts_size ys
  generalize setTexts xs = X at hX10 hX20 ⊢
  generalize setTexts ys = Y at hY10 hY20 ⊢
  simp
  have hz : (x.extract 0 (min x.size 20)).size ≤ 20 := by simp [ByteArray.size_extract]
  generalize x.extract 0 (min x.size 20) = z at hz ⊢
  refine FF_by (ok27 hG _ _ (mod2 hk) X Y z (by omega) (by omega) hX20) ?_
  simp [setsR]
  refine FF_by (ok28 _ X (by omega)) ?_
  simp
  refine FF_by (ok28 _ Y (by omega)) ?_
  simp
  have hA10 := setOf_length X
  have hB10 := setOf_length Y
  have hA20 : ∀ s, s ∈ setOf X → s.size ≤ 20 := fun s hs => hX20 s (mem_setOf.1 hs)
  generalize hA : setOf X = A at hA10 hA20 ⊢
  generalize hB : setOf Y = B at hB10 ⊢
  generalize hf0 : setOf (X ++ Y) = f0
  generalize hf1 : setOf (X.filter fun y => setHas Y y) = f1
  generalize hf2 : setOf (X.filter fun y => !setHas Y y) = f2
  generalize hf8 : setOf (z :: X) = f8
  generalize hf9 : setOf (X.filter fun y => !decide (y = z)) = f9
  generalize hf10 : setOf (X.map bang) = f10
  generalize hf11 : setOf (X.filter fun y => begins y z) = f11
  let blk : Blk := .cells 12 [.agg [.fz 1 (strs f0), .fz 1 (strs f1), .fz 1 (strs f2), .fz 1 (strs A), .fz 1 (strs A), .p (.bool (decide (A = B))), .p (.bool (setHas X z)), .p (.bool (decide (X = []))), .fz 1 (strs f8), .fz 1 (strs f9), .fz 1 (strs f10), .fz 1 (strs f11)]]
  have hblk : ∀ {B : Nat → Prop}, blk.wf B := fun {B} => by intro j hj; simp at hj; subst hj; simp
  have hw1 : HWF (h ++ [blk]) := hw.push fun k hk => by simp at hk; subst hk; exact hblk
  let F : Nat × DV × DV × List Blk → St := fun q => if q.1 < A.length then ⟨fr 178 [(1, .fz 1 (strs X)), (2, .fz 1 (strs Y)), (3, .p (.string z)), (9, .ptr h.length 0 0 1), (10, .p (.bool true)), (11, .fz 1 (strs A)), (12, .fz 1 (strs B)), (13, q.2.1), (14, q.2.2.1), (53, .fz 1 (strs A)), (54, .p (.int .i64 A.length)), (55, .p (.int .i64 q.1))], q.2.2.2⟩
    else ⟨fr 178 [(1, .fz 1 (strs X)), (2, .fz 1 (strs Y)), (3, .p (.string z)), (9, .ptr h.length 0 0 1), (10, .p (.bool true)), (11, .fz 1 (strs A)), (12, .fz 1 (strs B)), (13, .fz 1 (strs (A.map bang))), (14, .fz 1 (strs (A.filter fun y => begins y z))), (54, .p (.int .i64 A.length)), (55, .p (.int .i64 A.length))], h ++ [blk]⟩
  have F1 : ∀ i d d2 h', i < A.length → F (i, d, d2, h') = ⟨fr 178 [(1, .fz 1 (strs X)), (2, .fz 1 (strs Y)), (3, .p (.string z)), (9, .ptr h.length 0 0 1), (10, .p (.bool true)), (11, .fz 1 (strs A)), (12, .fz 1 (strs B)), (13, d), (14, d2), (53, .fz 1 (strs A)), (54, .p (.int .i64 A.length)), (55, .p (.int .i64 i))], h'⟩ := fun i d d2 h' hi => if_pos hi
  have F2 : ∀ i d d2 h', ¬ i < A.length → F (i, d, d2, h') = ⟨fr 178 [(1, .fz 1 (strs X)), (2, .fz 1 (strs Y)), (3, .p (.string z)), (9, .ptr h.length 0 0 1), (10, .p (.bool true)), (11, .fz 1 (strs A)), (12, .fz 1 (strs B)), (13, .fz 1 (strs (A.map bang))), (14, .fz 1 (strs (A.filter fun y => begins y z))), (54, .p (.int .i64 A.length)), (55, .p (.int .i64 A.length))], h ++ [blk]⟩ := fun i d d2 h' hi => if_neg hi
  have last : ∀ (t : List DV) (d d2 : DV) (h2 : List Blk), Own (h ++ [blk]) 1 h2 d (strs (A.map bang)) → Own (h ++ [blk]) 1 h2 d2 (strs (A.filter fun y => begins y z)) →
      (∀ t', (t' = fr 178 [(1, .fz 1 (strs X)), (2, .fz 1 (strs Y)), (3, .p (.string z)), (9, .ptr h.length 0 0 1), (10, .p (.bool true)), (11, .fz 1 (strs A)), (12, .fz 1 (strs B)), (13, .fz 1 (strs (A.map bang))), (14, .fz 1 (strs (A.filter fun y => begins y z))), (54, .p (.int .i64 A.length)), (55, .p (.int .i64 A.length))]) →
        (∀ v, FrzR h2 (h ++ [blk]) (.p v) (.p v)) → (∀ l, FrzR h2 (h ++ [blk]) (.fz 1 (strs l)) (.fz 1 (strs l))) → FrzR h2 (h ++ [blk]) (.ptr h.length 0 0 1) (.ptr h.length 0 0 1) → FrzR h2 (h ++ [blk]) d (.fz 1 (strs (A.map bang))) → FrzR h2 (h ++ [blk]) d2 (.fz 1 (strs (A.filter fun y => begins y z))) → Den.fitsF h2 (h ++ [blk]) t t') → ∀ i, ¬ i < A.length →
      Wk G h ⟨t, h2⟩ (F (i, d, d2, h2)) := fun t d d2 h2 ho ho' hf i hi => by
    rw [F2 _ _ _ _ hi]
    have hd : ∀ (c : Nat) (k : Blk), (h ++ [blk])[c]? = some k → h2[c]? = some k ∨ k = .dead := fun c k hc => .inl (ho.pre c k hc)
    refine Wk.fitsF (by simp) hd (fun _ => hw1) (hf _ rfl (fun v => .p) (fun l => .wf hd (by simp)) (.wf hd (by simp)) (ho.frzR1 hw1 strs_plain) (ho'.frzR1 hw1 strs_plain)) (hG.frz hd)
  refine VV_fam F (fun q => q.1 ≤ A.length ∧ Own (h ++ [blk]) 1 q.2.2.2 q.2.1 (strs ((A.take q.1).map bang)) ∧ Own (h ++ [blk]) 1 q.2.2.2 q.2.2.1 (strs ((A.take q.1).filter fun y => begins y z)) ∧ apart q.2.1 q.2.2.1) (fun q => A.length - q.1) (0, .p (.slice none 0 0), .p (.slice none 0 0), h ++ [blk])
    ⟨by simp, by simpa using Own.nil, by simpa using Own.nil, .nil⟩ ?_ ?_
  · by_cases h0 : 0 < A.length
    · rw [F1 _ _ _ _ h0]
      exact Wk.fits (by simp)
    · have : A = [] := List.eq_nil_of_length_eq_zero (by omega)
      refine last _ _ _ _ (by rw [show A.map bang = [] by rw [this]; rfl]; exact Own.nil) (by rw [show (A.filter fun y => begins y z) = [] by rw [this]; rfl]; exact Own.nil) (fun t' ht' g1 g2 g3 g4 g5 => ?_) 0 h0
      subst ht'
      have h0' : A.length = 0 := by rw [this]; rfl
      simp [Den.fitsF, g1, g2, g3, g4, g5]
      rw [h0']
      exact .p
  rintro ⟨i, d, d2, h'⟩ ⟨hi, ho, ho2, hap⟩ B' hbk he hr
  simp only at hi ho ho2 hap
  by_cases hi' : i < A.length
  · rw [F1 _ _ _ _ hi']
    have hadd : IntKind.i64.wrap ((i : Int) + 1) = ((i + 1 : Nat) : Int) := wrap_succ hi' (by omega)
    have hs20 := hA20 A[i] (List.getElem_mem hi')
    have hn1 : (A.take (i + 1)).map bang = (A.take i).map bang ++ [bang A[i]] := by rw [List.take_succ_eq_append_getElem hi', List.map_append]; rfl
    have hn2 : (A.take (i + 1)).filter (fun y => begins y z) = (A.take i).filter (fun y => begins y z) ++ if begins A[i] z = true then [A[i]] else [] := by
      rw [List.take_succ_eq_append_getElem hi', List.filter_append]
      simp [List.filter_cons]
    have hl2 : ((A.take i).filter fun y => begins y z).length ≤ i := Nat.le_trans (List.length_filter_le _ _) (by simp)
    simp [hi']
    refine ⟨by omega, ?_⟩
    refine AA_lit1 ho (by simp; omega) ?_
    intro e1 h1 ho1 hle1 hothers
    obtain ⟨ho12, hap1⟩ := hothers d2 1 _ ho2 hap
    have ho1' : Own (h ++ [blk]) 1 h1 e1 (strs ((A.take (i + 1)).map bang)) := by rw [hn1, ← strs_push]; exact ho1
    have goon : ∀ (t : List DV) (e2 : DV) (h2 : List Blk), Own (h ++ [blk]) 1 h2 e1 (strs ((A.take (i + 1)).map bang)) → Own (h ++ [blk]) 1 h2 e2 (strs ((A.take (i + 1)).filter fun y => begins y z)) → apart e1 e2 →
        fits t (fr 178 [(1, .fz 1 (strs X)), (2, .fz 1 (strs Y)), (3, .p (.string z)), (9, .ptr h.length 0 0 1), (10, .p (.bool true)), (11, .fz 1 (strs A)), (12, .fz 1 (strs B)), (13, e1), (14, e2), (53, .fz 1 (strs A)), (54, .p (.int .i64 A.length)), (55, .p (.int .i64 (i + 1 : Nat)))]) true →
        (∀ t', (t' = fr 178 [(1, .fz 1 (strs X)), (2, .fz 1 (strs Y)), (3, .p (.string z)), (9, .ptr h.length 0 0 1), (10, .p (.bool true)), (11, .fz 1 (strs A)), (12, .fz 1 (strs B)), (13, .fz 1 (strs (A.map bang))), (14, .fz 1 (strs (A.filter fun y => begins y z))), (54, .p (.int .i64 A.length)), (55, .p (.int .i64 A.length))]) → i + 1 = A.length →
        (∀ v, FrzR h2 (h ++ [blk]) (.p v) (.p v)) → (∀ l, FrzR h2 (h ++ [blk]) (.fz 1 (strs l)) (.fz 1 (strs l))) → FrzR h2 (h ++ [blk]) (.ptr h.length 0 0 1) (.ptr h.length 0 0 1) → FrzR h2 (h ++ [blk]) e1 (.fz 1 (strs (A.map bang))) → FrzR h2 (h ++ [blk]) e2 (.fz 1 (strs (A.filter fun y => begins y z))) → Den.fitsF h2 (h ++ [blk]) t t') →
        B' .nrm ⟨t, h2⟩ := fun t e2 h2 o1 o2 ha hf hF => by
      refine hbk _ (i + 1, e1, e2, h2) ?_ ⟨hi', o1, o2, ha⟩ (by simp; omega)
      by_cases hl : i + 1 < A.length
      · rw [F1 _ _ _ _ hl]
        exact Wk.fits hf
      · have hia : i + 1 = A.length := by omega
        rw [hia, List.take_length] at o1 o2
        exact last t e1 e2 h2 o1 o2 (fun t' ht g1 g2 g3 g4 g5 => hF t' ht hia g1 g2 g3 g4 g5) (i + 1) hl
    simp
    cases hq : decide (z.size ≤ A[i].size)
    · have hq' : ¬ z.size ≤ A[i].size := by simpa using hq
      have hb0 : begins A[i] z = false := by simp [begins, hq']
      rw [hb0] at hn2
      simp at hn2
      simp [hadd]
      refine goon _ d2 h1 ho1' (by simp [hn2]; exact ho12) hap1 (by simp) (fun t' ht hia g1 g2 g3 g4 g5 => ?_)
      subst ht
      simp [Den.fitsF, g1, g2, g3, g4, g5, ← hia]
    · have hq' : z.size ≤ A[i].size := by simpa using hq
      simp [hq']
      refine CC_by (fun h3 => ?_) (fun h3 => ?_)
      · have hb0 : begins A[i] z = true := by simp at h3; simp [begins, hq', h3]
        rw [hb0] at hn2
        simp at hn2
        simp
        refine AA_lit1 ho12 (by simp; omega) ?_
        intro e2 h2 ho22 hle2 hothers2
        obtain ⟨ho13, hap2⟩ := hothers2 e1 1 _ ho1' hap1.symm
        simp [hadd]
        refine goon _ e2 h2 ho13 (by rw [hn2, ← strs_push]; exact ho22) hap2.symm (by simp) (fun t' ht hia g1 g2 g3 g4 g5 => ?_)
        subst ht
        simp [Den.fitsF, g1, g2, g3, g4, g5, ← hia]
      · have hb0 : begins A[i] z = false := by simp at h3; simp [begins, hq', h3]
        rw [hb0] at hn2
        simp at hn2
        simp [hadd]
        refine goon _ d2 h1 ho1' (by simp [hn2]; exact ho12) hap1 (by simp) (fun t' ht hia g1 g2 g3 g4 g5 => ?_)
        subst ht
        simp [Den.fitsF, g1, g2, g3, g4, g5, ← hia]
  · rw [F2 _ _ _ _ hi']
    simp
    clear hbk hr last F1 F2 ho ho2 hap
    have e1 : setOf (keepT A B true) = f1 := by
      rw [← hf1, setOf_eq]
      intro y
      simp [keepT, setHas, ← hA, ← hB, mem_setOf]
    have e2 : setOf (keepT A B false) = f2 := by
      rw [← hf2, setOf_eq]
      intro y
      simp [keepT, setHas, ← hA, ← hB, mem_setOf]
    have e4 : setOf (keepT A [z] false) = f9 := by
      rw [← hf9, setOf_eq]
      intro y
      simp [keepT, setHas, ← hA, mem_setOf]
      intro _
      exact ⟨fun h1 h2 => h1 h2.symm, fun h1 h2 => h1 h2.symm⟩
    have e5 : setOf (A.map bang) = f10 := by
      rw [← hf10, setOf_eq]
      intro y
      simp [← hA, mem_setOf]
    have e6 : A.filter (fun y => begins y z) = f11 := by
      rw [← hf11]
      refine asc_ext (List.Pairwise.sublist List.filter_sublist (hA ▸ asc_setOf X)) (asc_setOf _) fun y => ?_
      simp [← hA, mem_setOf]
    have l0 := setOf_length (X ++ Y)
    have l1 := setOf_length (X.filter fun y => setHas Y y)
    have l2 := setOf_length (X.filter fun y => !setHas Y y)
    have l8 := setOf_length (z :: X)
    have l9 := setOf_length (X.filter fun y => !decide (y = z))
    have l10 := setOf_length (X.map bang)
    have l11 := setOf_length (X.filter fun y => begins y z)
    have m1 := List.length_filter_le (fun y => setHas Y y) X
    have m2 := List.length_filter_le (fun y => !setHas Y y) X
    have m9 := List.length_filter_le (fun y => !decide (y = z)) X
    have m11 := List.length_filter_le (fun y => begins y z) X
    rw [hf0] at l0
    rw [hf1] at l1
    rw [hf2] at l2
    rw [hf8] at l8
    rw [hf9] at l9
    rw [hf10] at l10
    rw [hf11] at l11
    simp at l0 l8 l10
    have mx : maxLen = 9223372036854775807 := maxLen_eq
    refine he _ _ ?_
    simp [blk]
    refine DF_by (ok29 _ A A (by omega)) ?_
    simp
    refine DF_by (ok29 _ A A (by omega)) ?_
    simp [DA_raw]
    refine ⟨by omega, by omega, ?_⟩
    refine DF_by (ok28a _ (h.length + 1) X Y (by simp) (by omega)) ?_
    rw [hf0]
    simp
    refine DF_by (ok29 _ f0 f0 (by omega)) ?_
    simp
    refine DF_by (ok30 hG _ A B true (by omega) (by omega)) ?_
    rw [e1]
    simp
    refine DF_by (ok29 _ f1 f1 (by omega)) ?_
    simp
    refine DF_by (ok30 hG _ A B false (by omega) (by omega)) ?_
    rw [e2]
    simp
    refine DF_by (ok29 _ f2 f2 (by omega)) ?_
    simp
    refine DF_by (ok29 _ A B (by omega)) ?_
    simp
    refine DF_by (ok31 _ X z (by omega)) ?_
    simp
    have e7 : (decide (X = []) == ((X.length : Int) == 0)) = true := by cases X <;> simp; omega
    rw [e7]
    simp [DA_raw]
    refine ⟨by omega, ?_⟩
    refine DF_by (ok28c _ (h.length + 2) z X (by simp) (by omega)) ?_
    rw [hf8]
    simp
    refine DF_by (ok29 _ f8 f8 (by omega)) ?_
    simp
    refine DF_by (ok30s hG _ A [z] (h.length + 3) (by simp [strs]) false (by omega) (by simp)) ?_
    rw [e4]
    simp
    refine DF_by (ok29 _ f9 f9 (by omega)) ?_
    simp
    refine DF_by (ok28 _ (A.map bang) (by simp; omega)) ?_
    rw [e5]
    simp
    refine DF_by (ok29 _ f10 f10 (by omega)) ?_
    simp
    rw [e6]
    refine DF_by (ok29 _ f11 f11 (by omega)) ?_
    simp
theorem sets_walk (k : Int) (d1 d2 : DV) (x : ByteArray) (hk : (Lit.int .u8 k).wf = true) (s1 : Shaped (.sl 1 .str) d1) (s2 : Shaped (.sl 1 .str) d2) (hx : x.size ≤ 140737488351232) :
    Ok Try.prog (fun _ => .any) 7 [.p (.int .u8 k), d1, d2, .p (.string x)] [] (.p (.bool true)) [] := by
  have hk' : IntKind.u8.min ≤ k ∧ k ≤ IntKind.u8.max := by simpa [Lit.wf] using hk
  have h1' : IntKind.u8.min = 0 := rfl
  have h2' : IntKind.u8.max = 255 := rfl
  obtain ⟨xs, rfl, h1, _⟩ := Shaped.strs s1
  obtain ⟨ys, rfl, h2, _⟩ := Shaped.strs s2
  exact ok7 GZ.any [] k xs ys x (by omega) (by omega) h1 h2 hx
end Go.Proofs.Ytdgnjngbheecnaa
