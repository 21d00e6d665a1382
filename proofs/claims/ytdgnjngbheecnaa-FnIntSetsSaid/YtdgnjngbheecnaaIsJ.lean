/- IntsOf over a living slice. -/
import Derived.Test.YtdgnjngbheecnaaIsH
set_option linter.unusedVariables false
set_option linter.unusedSimpArgs false
set_option maxRecDepth 100000
set_option maxHeartbeats 4000000
namespace Go.Proofs.Ytdgnjngbheecnaa
open Go Go.Den Go.Proofs

theorem ok22s {G : Nat → DV} (h : List Blk) (b0 : Nat) (L : List Int) (hb0 : h[b0]? = some (.cells 1 (ints L))) (hL : L.length ≤ 1000) : Ok Try.prog G 22 [.sl b0 0 L.length L.length] h (.fz 1 (ints (setOf L))) h := by
  refine Ok_by Try.func22 c22_ok r22_ok 50 rfl ?_
  simp [c22, r22]
  refine VV_fam (fun x : Nat × DV × List Blk => ⟨fr 51 [(3, x.2.1), (7, .sl b0 0 L.length L.length), (8, .p (.int .i64 L.length)), (9, .p (.int .i64 x.1))], x.2.2⟩)
    (fun x => x.1 ≤ L.length ∧ Own h 1 x.2.2 x.2.1 (ints (setOf (L.take x.1)))) (fun x => L.length - x.1) (0, .p (.slice none 0 0), h) ⟨by simp, by simpa [setOf] using Own.nil⟩ (Wk.fits (by simp)) ?_
  rintro ⟨i, d, h'⟩ ⟨hi, ho⟩ B hb he hr
  simp only at hi ho
  have hc0 := ho.pre _ _ hb0
  have hb0l : b0 < h.length := (List.getElem?_eq_some_iff.1 hb0).1
  simp
  refine CC_by (fun h2 => ?_) (fun h2 => ?_)
  · have hi' : i < L.length := by simpa using h2
    have hlen := setOf_length (L.take i)
    have hnext : setOf (L.take (i + 1)) = insT L[i] (setOf (L.take i)) := by rw [setOf, List.take_succ_eq_append_getElem hi', List.foldl_append]; rfl
    have hadd : IntKind.i64.wrap ((i : Int) + 1) = ((i + 1 : Nat) : Int) := wrap_succ hi' (by omega)
    simp at hlen
    simp [hi', hc0]
    generalize hO : setOf (L.take i) = O at ho hlen hnext
    generalize hs : L[i] = s at hnext
    rcases ho with ⟨hp, ⟨rfl, hO2⟩ | ⟨b, rfl, hbl, hbc⟩⟩
    · have hO3 : O = [] := by simpa using hO2
      subst hO3
      refine VV_fam (fun _ : Unit => ⟨fr 51 [(3, .p (.slice none 0 0)), (5, .p (.int .i64 s)), (6, .p (.int .i64 0)), (7, .sl b0 0 L.length L.length), (8, .p (.int .i64 L.length)), (9, .p (.int .i64 i))], h'⟩)
        (fun _ => True) (fun _ => 0) () trivial (Wk.fits (by simp)) ?_
      rintro ⟨⟩ _ B' hb' he' hr'
      simp
      refine he' _ _ ?_
      simp [hadd, DA_raw]
      refine hb _ (i + 1, .sl (h'.length + 1) 0 1 1, _) (Wk.fits (by simp)) ⟨hi', ?_⟩ (by simp; omega)
      rw [hnext]
      exact ⟨hp.trans (HPre.append _ _), .inr ⟨h'.length + 1, by simp [insT], by have := hp.length; omega, by simp [insT, ints]⟩⟩
    · simp only [ints_length] at *
      refine VV_fam (fun j : Nat => ⟨fr 51 [(3, .sl b 0 O.length O.length), (5, .p (.int .i64 s)), (6, .p (.int .i64 j)), (7, .sl b0 0 L.length L.length), (8, .p (.int .i64 L.length)), (9, .p (.int .i64 i))], h'⟩)
        (fun j => j ≤ O.length ∧ ∀ x, x ∈ O.take j → less x s = true) (fun j => O.length - j) 0 ⟨by simp, by simp⟩ (Wk.fits (by simp)) ?_
      rintro j ⟨hj, hjl⟩ B' hb' he' hr'
      rcases Nat.lt_or_ge j O.length with hjo | hjo
      · have hjo' : (j : Int) < O.length := by omega
        simp [hbc, hjo]
        refine CC_by (fun hl => ?_) (fun hl => ?_)
        · simp
          have hj1 : IntKind.i64.wrap ((j : Int) + 1) = ((j + 1 : Nat) : Int) := wrap_succ hjo (by omega)
          simp [hj1]
          refine hb' _ (j + 1) (Wk.fits (by simp)) ⟨hjo, fun x hx => ?_⟩ (by omega)
          rw [List.take_succ_eq_append_getElem hjo, List.mem_append, List.mem_singleton] at hx
          rcases hx with hx | rfl
          · exact hjl x hx
          · exact hl
        · have hins := insT_at s O j hj hjl (fun _ => hl)
          rw [dif_pos hjo] at hins
          simp
          refine he' _ _ ?_
          have hne : ((j : Int) == (O.length : Int)) = false := by simp; omega
          simp [hne, hbc, hjo]
          refine CC_by (fun hq => ?_) (fun hq => ?_)
          · have hq' : ¬ O[j] = s := by simpa using hq
            rw [if_neg hq'] at hins
            have e1 : 1 + (O.length - j) = O.length - j + 1 := by omega
            have e2 : List.take (O.length - j) (O.drop j) = O.drop j := List.take_of_length_le (by simp)
            have e3 : List.take (O.length - j + 1) (DV.p (Value.int .i64 s) :: ints (O.drop j)) = DV.p (Value.int .i64 s) :: ints (O.drop j) := List.take_of_length_le (by simp)
            have e4 : j ≠ O.length := by omega
            simp [hbc, get_pre hbc, hadd, hj, e1, e2, e3, e4, DA_raw]
            refine ⟨by omega, by omega, by omega, ?_⟩
            refine hb _ (i + 1, .sl b 0 (j + (O.length - j + 1)) (j + (O.length - j + 1)), _) (Wk.fits (by simp)) ⟨hi', ?_⟩ (by simp; omega)
            rw [hnext, hins]
            have hblt : b < (h' ++ [Blk.cells 1 (DV.p (Value.int .i64 s) :: ints (List.drop j O))]).length := by have := (List.getElem?_eq_some_iff.1 hbc).1; simp; omega
            have hl : (ints (O.take j ++ s :: O.drop j)).length = j + (O.length - j + 1) := by simp; omega
            refine ⟨HPre_set (hp.trans (HPre.append _ _)) hbl, .inr ⟨b, by rw [hl], hbl, ?_⟩⟩
            rw [List.getElem?_set_self hblt]; simp [ints]
          · have hq' : O[j] = s := by simpa using hq
            rw [if_pos hq'] at hins
            simp [hadd]
            refine hb _ (i + 1, .sl b 0 O.length O.length, _) (Wk.fits (by simp)) ⟨hi', ?_⟩ (by simp; omega)
            rw [hnext, hins]
            exact ⟨hp, .inr ⟨b, by simp, hbl, hbc⟩⟩
      · obtain rfl : j = O.length := by omega
        simp [hbc]
        refine he' _ _ ?_
        have hins := insT_at s O O.length (Nat.le_refl _) hjl (fun h => absurd h (Nat.lt_irrefl _))
        rw [dif_neg (Nat.lt_irrefl _)] at hins
        simp [hbc, get_pre hbc, hadd, DA_raw]
        refine ⟨by omega, ?_⟩
        refine hb _ (i + 1, .sl b 0 (O.length + 1) (O.length + 1), _) (Wk.fits (by simp)) ⟨hi', ?_⟩ (by simp; omega)
        rw [hnext, hins]
        have hblt : b < (h' ++ [Blk.cells 1 [DV.p (Value.int .i64 s)]]).length := by have := (List.getElem?_eq_some_iff.1 hbc).1; simp; omega
        refine ⟨HPre_set (hp.trans (HPre.append _ _)) hbl, .inr ⟨b, by simp, hbl, ?_⟩⟩
        simp [List.getElem?_set_self hblt, ints]
  · have : i = L.length := by simp at h2; omega
    subst this
    simp
    refine he _ _ ?_
    simp
    rw [List.take_length] at ho
    exact ho.wk ints_plain




end Go.Proofs.Ytdgnjngbheecnaa
