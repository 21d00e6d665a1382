/- Contracts of the reference's sets of texts. -/
import Derived.Test.YthkgekkpnldbmaaEvB
set_option linter.unusedVariables false
set_option linter.unusedSimpArgs false
set_option maxRecDepth 100000
namespace Go.Proofs.Ythkgekkpnldbmaa
open Go Go.Den Go.Proofs


def less (x s : ByteArray) : Bool := Op.bytesLess x.data.toList s.data.toList
/-- Put in where it belongs. -/
def insT (s : ByteArray) : List ByteArray → List ByteArray
  | [] => [s]
  | x :: xs => if less x s = true then x :: insT s xs else if x = s then x :: xs else s :: x :: xs
def setOf (l : List ByteArray) : List ByteArray := l.foldl (fun out s => insT s out) []

theorem insT_at (s : ByteArray) : ∀ (out : List ByteArray) (i : Nat), i ≤ out.length → (∀ x, x ∈ out.take i → less x s = true) → (∀ hi : i < out.length, less out[i] s = false) →
    insT s out = if h : i < out.length then (if out[i] = s then out else out.take i ++ s :: out.drop i) else out ++ [s]
  | [], i, hi, h1, h2 => by simp [insT]
  | x :: xs, 0, hi, h1, h2 => by
    have := h2 (by simp)
    simp at this
    simp [insT, this]
  | x :: xs, i + 1, hi, h1, h2 => by
    have hx : less x s = true := h1 x (by simp)
    have ih := insT_at s xs i (by simpa using hi) (fun y hy => h1 y (by simp [hy])) (fun hi => by
      have := h2 (by simpa using hi)
      rw [List.getElem_cons_succ] at this
      exact this)
    simp only [insT, hx, if_true, ih, List.length_cons, Nat.add_lt_add_iff_right, List.getElem_cons_succ, List.take_succ_cons, List.drop_succ_cons]
    split
    · split <;> simp
    · simp

theorem insT_length (s : ByteArray) : ∀ out : List ByteArray, (insT s out).length ≤ out.length + 1
  | [] => by simp [insT]
  | x :: xs => by
    have := insT_length s xs
    simp only [insT]
    split
    · simp; omega
    · split <;> simp

theorem setOf_length (L : List ByteArray) : (setOf L).length ≤ L.length := by
  have : ∀ (L out : List ByteArray), (L.foldl (fun out s => insT s out) out).length ≤ out.length + L.length := by
    intro L
    induction L with
    | nil => intro out; simp
    | cons s L ih =>
      intro out
      have := ih (insT s out)
      have h2 := insT_length s out
      simp only [List.foldl_cons, List.length_cons]
      omega
  have := this L []
  rw [List.length_nil, Nat.zero_add] at this
  exact this

theorem ok23 {G : Nat → DV} (h : List Blk) (L : List ByteArray) (hL : L.length ≤ 1000) : Ok Try.prog G 23 [.fz 1 (strs L)] h (.fz 1 (strs (setOf L))) h := by
  refine Ok_by Try.func23 c23_ok r23_ok 50 rfl ?_
  simp [c23, r23]
  refine VV_fam (fun x : Nat × DV × List Blk => ⟨fr 51 [(3, x.2.1), (7, .fz 1 (strs L)), (8, .p (.int .i64 L.length)), (9, .p (.int .i64 x.1))], x.2.2⟩)
    (fun x => x.1 ≤ L.length ∧ Own h 1 x.2.2 x.2.1 (strs (setOf (L.take x.1)))) (fun x => L.length - x.1) (0, .p (.slice none 0 0), h) ⟨by simp, by simpa [setOf] using Own.nil⟩ (Wk.fits (by simp)) ?_
  rintro ⟨i, d, h'⟩ ⟨hi, ho⟩ B hb he hr
  simp only at hi ho
  simp
  refine CC_by (fun h2 => ?_) (fun h2 => ?_)
  · have hi' : i < L.length := by simpa using h2
    have hlen := setOf_length (L.take i)
    have hnext : setOf (L.take (i + 1)) = insT L[i] (setOf (L.take i)) := by rw [setOf, List.take_succ_eq_append_getElem hi', List.foldl_append]; rfl
    have hadd : IntKind.i64.wrap ((i : Int) + 1) = ((i + 1 : Nat) : Int) := wrap_succ hi' (by omega)
    simp at hlen
    simp [hi']
    generalize hO : setOf (L.take i) = O at ho hlen hnext
    generalize hs : L[i] = s at hnext
    rcases ho with ⟨hp, ⟨rfl, hO2⟩ | ⟨b, rfl, hbl, hbc⟩⟩
    · have hO3 : O = [] := by simpa using hO2
      subst hO3
      refine VV_fam (fun _ : Unit => ⟨fr 51 [(3, .p (.slice none 0 0)), (5, .p (.string s)), (6, .p (.int .i64 0)), (7, .fz 1 (strs L)), (8, .p (.int .i64 L.length)), (9, .p (.int .i64 i))], h'⟩)
        (fun _ => True) (fun _ => 0) () trivial (Wk.fits (by simp)) ?_
      rintro ⟨⟩ _ B' hb' he' hr'
      simp
      refine he' _ _ ?_
      simp [hadd, DA_raw]
      refine hb _ (i + 1, .sl (h'.length + 1) 0 1 1, _) (Wk.fits (by simp)) ⟨hi', ?_⟩ (by simp; omega)
      rw [hnext]
      exact ⟨hp.trans (HPre.append _ _), .inr ⟨h'.length + 1, by simp [insT], by have := hp.length; omega, by simp [insT, strs]⟩⟩
    · simp only [strs_length] at *
      refine VV_fam (fun j : Nat => ⟨fr 51 [(3, .sl b 0 O.length O.length), (5, .p (.string s)), (6, .p (.int .i64 j)), (7, .fz 1 (strs L)), (8, .p (.int .i64 L.length)), (9, .p (.int .i64 i))], h'⟩)
        (fun j => j ≤ O.length ∧ ∀ x, x ∈ O.take j → less x s = true) (fun j => O.length - j) 0 ⟨by simp, by simp⟩ (Wk.fits (by simp)) ?_
      rintro j ⟨hj, hjl⟩ B' hb' he' hr'
      rcases Nat.lt_or_ge j O.length with hjo | hjo
      · have hjo' : (j : Int) < O.length := by omega
        simp [hbc, hjo]
        refine CC_by (fun hl => ?_) (fun hl => ?_)
        · simp
          have hj1 : IntKind.i64.wrap ((j : Int) + 1) = ((j + 1 : Nat) : Int) := wrap_succ hjo (by omega)
          simp [hj1]
          refine hb' _ (j + 1) (Wk.fits (by simp)) ⟨hjo, fun x hx => ?_⟩ (by omega)
          rw [List.take_succ_eq_append_getElem hjo, List.mem_append, List.mem_singleton] at hx
          rcases hx with hx | rfl
          · exact hjl x hx
          · exact hl
        · have hins := insT_at s O j hj hjl (fun _ => hl)
          rw [dif_pos hjo] at hins
          simp
          refine he' _ _ ?_
          have hne : ((j : Int) == (O.length : Int)) = false := by simp; omega
          simp [hne, hbc, hjo]
          refine CC_by (fun hq => ?_) (fun hq => ?_)
          · have hq' : ¬ O[j] = s := by simpa using hq
            rw [if_neg hq'] at hins
            have e1 : 1 + (O.length - j) = O.length - j + 1 := by omega
            have e2 : List.take (O.length - j) (O.drop j) = O.drop j := List.take_of_length_le (by simp)
            have e3 : List.take (O.length - j + 1) (DV.p (Value.string s) :: strs (O.drop j)) = DV.p (Value.string s) :: strs (O.drop j) := List.take_of_length_le (by simp)
            have e4 : j ≠ O.length := by omega
            have e5 : O.length < j + (O.length - j + 1) := by omega
            simp [hbc, get_pre hbc, hadd, hj, e1, e2, e3, e4, e5, DA_raw]
            refine ⟨by omega, by omega, ?_⟩
            refine hb _ (i + 1, .sl b 0 (j + (O.length - j + 1)) (j + (O.length - j + 1)), _) (Wk.fits (by simp)) ⟨hi', ?_⟩ (by simp; omega)
            rw [hnext, hins]
            have hblt : b < (h' ++ [Blk.cells 1 (DV.p (Value.string s) :: strs (List.drop j O))]).length := by have := (List.getElem?_eq_some_iff.1 hbc).1; simp; omega
            have hl : (strs (O.take j ++ s :: O.drop j)).length = j + (O.length - j + 1) := by simp; omega
            refine ⟨HPre_set (hp.trans (HPre.append _ _)) hbl, .inr ⟨b, by rw [hl], hbl, ?_⟩⟩
            rw [List.getElem?_set_self hblt]; simp [strs]
          · have hq' : O[j] = s := by simpa using hq
            rw [if_pos hq'] at hins
            simp [hadd]
            refine hb _ (i + 1, .sl b 0 O.length O.length, _) (Wk.fits (by simp)) ⟨hi', ?_⟩ (by simp; omega)
            rw [hnext, hins]
            exact ⟨hp, .inr ⟨b, by simp, hbl, hbc⟩⟩
      · obtain rfl : j = O.length := by omega
        simp [hbc]
        refine he' _ _ ?_
        have hins := insT_at s O O.length (Nat.le_refl _) hjl (fun h => absurd h (Nat.lt_irrefl _))
        rw [dif_neg (Nat.lt_irrefl _)] at hins
        simp [hbc, get_pre hbc, hadd, DA_raw]
        refine ⟨by omega, ?_⟩
        refine hb _ (i + 1, .sl b 0 (O.length + 1) (O.length + 1), _) (Wk.fits (by simp)) ⟨hi', ?_⟩ (by simp; omega)
        rw [hnext, hins]
        have hblt : b < (h' ++ [Blk.cells 1 [DV.p (Value.string s)]]).length := by have := (List.getElem?_eq_some_iff.1 hbc).1; simp; omega
        refine ⟨HPre_set (hp.trans (HPre.append _ _)) hbl, .inr ⟨b, by simp, hbl, ?_⟩⟩
        simp [List.getElem?_set_self hblt, strs]
  · have : i = L.length := by simp at h2; omega
    subst this
    simp
    refine he _ _ ?_
    simp
    rw [List.take_length] at ho
    exact ho.wk strs_plain


theorem ok18 {G : Nat → DV} (h : List Blk) (a b : List ByteArray) (ha : a.length ≤ maxLen) : Ok Try.prog G 18 [.fz 1 (strs a), .fz 1 (strs b)] h (.p (.bool (decide (a = b)))) h := by
  refine Ok_by Try.func18 c18_ok r18_ok 24 rfl ?_
  simp [c18, r18]
  refine CC_by (fun h1 => ?_) (fun h1 => ?_)
  · have : ¬ a = b := fun h => by subst h; simp at h1
    simp [this]
  have hab : a.length = b.length := by simp at h1; omega
  simp
  refine VV_fam (fun i : Nat => ⟨fr 26 [(0, .fz 1 (strs a)), (1, .fz 1 (strs b)), (12, .fz 1 (strs a)), (13, .p (.int .i64 a.length)), (14, .p (.int .i64 i))], h⟩)
    (fun i => i ≤ a.length ∧ a.take i = b.take i) (a.length - ·) 0 (by simp) (Wk.fits (by simp)) ?_
  intro i hi B hb he hr
  obtain ⟨hi, hall⟩ := hi
  simp
  refine CC_by (fun h2 => ?_) (fun h2 => ?_)
  · have hi' : i < a.length := by simpa using h2
    have hi2 : i < b.length := by omega
    simp [hi', hi2]
    refine CC_by (fun h3 => ?_) (fun h3 => ?_)
    · simp
      refine hr _ ?_
      simp at h3
      have : ¬ a = b := fun h => by subst h; exact h3 rfl
      simp [this]
    · simp [wrap_succ hi' ha]
      simp at h3
      refine hb _ (i + 1) (Wk.fits (by simp)) ⟨hi', ?_⟩ (by omega)
      rw [List.take_succ_eq_append_getElem hi', List.take_succ_eq_append_getElem hi2, hall, h3]
  · have : i = a.length := by simp at h2; omega
    subst this
    simp
    refine he _ _ ?_
    have : a = b := by rw [List.take_length] at hall; rw [hall, hab, List.take_length]
    simp [this]

theorem ok24 {G : Nat → DV} (h : List Blk) (a b : List ByteArray) (ha : a.length ≤ 1000) (hb : b.length ≤ 1000) : Ok Try.prog G 24 [.fz 1 (strs a), .fz 1 (strs b)] h (.p (.bool (decide (setOf a = setOf b)))) h := by
  refine Ok_by Try.func24 c24_ok r24_ok 8 rfl ?_
  simp [c24, r24]
  refine FF_by (ok23 h a ha) ?_
  simp
  refine FF_by (ok23 h b hb) ?_
  simp
  have := setOf_length a
  refine FF_by (ok18 h (setOf a) (setOf b) (by rw [maxLen_eq]; omega)) ?_
  simp


end Go.Proofs.Ythkgekkpnldbmaa
