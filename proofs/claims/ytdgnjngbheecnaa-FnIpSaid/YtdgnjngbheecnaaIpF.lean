/- Addresses: groups, by the reference. -/
import Derived.Test.YtdgnjngbheecnaaIpE
set_option linter.unusedVariables false
set_option linter.unusedSimpArgs false
set_option maxRecDepth 100000
namespace Go.Proofs.Ytdgnjngbheecnaa
open Go Go.Den Go.Proofs

def four4 (x : List UInt8) : Bool × Bool := fourL (parts 46 x) true (parts 46 x).length
def grpL (last : Bool) : List (List UInt8) → Nat → Int × Bool
  | [], n => (n, true)
  | x :: r, n => if (last && decide (r = []) && hasB x 46) = true then (if (four4 x).1 = true then (((n + 2 : Nat) : Int), (four4 x).2) else (-1, (four4 x).2)) else if hexesB x = true then grpL last r (n + 1) else (-1, true)
def grp (last : Bool) (s : List UInt8) : Int × Bool := if s = [] then (0, true) else grpL last (parts 58 s) 0
theorem ok42 {G : Nat → DV} (h : List Blk) (l : List UInt8) (last : Bool) (hl : l.length ≤ 2147483647) (hx : ∀ x, x ∈ parts 58 l → x.length ≤ 2147483647 ∧ ∀ y, y ∈ parts 46 x → y.length ≤ 2147483647) : Ok Try.prog G 42 [.p (.string (txt l)), .p (.bool last)] h (.tup [.p (.int .i64 (grp last l).1), .p (.bool (grp last l).2)]) h := by
  refine Ok_by Try.func42 c42_ok r42_ok 50 rfl ?_
  have hpl := parts_len 58 l
  simp [c42, r42]
  refine CC_by (fun h1 => ?_) (fun h1 => ?_)
  · have h1 : l = [] := by simpa using h1
    subst h1
    simp [grp]
  have h1 : ¬ l = [] := by simpa using h1
  simp
  refine FF_by (ok101 _ l 58 (by omega)) ?_
  rw [grp, if_neg h1]
  generalize parts 58 l = P at hpl hx ⊢
  simp
  refine VV_fam (fun i : Nat => ⟨fr 52 [(1, .p (.bool last)), (4, .p (.int .i64 i)), (6, .fz 1 (txs P)), (15, .fz 1 (txs P)), (16, .p (.int .i64 P.length)), (17, .p (.int .i64 i))], h⟩)
    (fun i => i ≤ P.length ∧ grpL last P 0 = grpL last (P.drop i) i) (fun i => P.length - i) 0 (by simp) (Wk.fits (by simp)) ?_
  rintro i ⟨hi, hf⟩ B hb he hr
  simp
  refine CC_by (fun h2 => ?_) (fun h2 => ?_)
  · have hi' : i < P.length := by simpa using h2
    have hw : IntKind.i64.wrap ((i : Int) + 1) = ((i + 1 : Nat) : Int) := wrap_succ hi' (by omega)
    have hw2 : IntKind.i64.wrap ((i : Int) + 2) = ((i + 2 : Nat) : Int) := by simp [IntKind.wrap, IntKind.bits, IntKind.signed]; omega
    rw [List.drop_eq_getElem_cons hi', grpL] at hf
    have hxl := hx P[i] (List.getElem_mem hi')
    have hlast : decide (P.drop (i + 1) = []) = (((i + 1 : Nat) : Int) == (P.length : Int)) := by
      rw [Bool.eq_iff_iff]; simp; omega
    simp [hi', hw]
    generalize P[i] = x at hf hxl ⊢
    cases last
    · skip
      rw [if_neg (by simp )] at hf
      simp
      refine FF_by (ok103 _ x (by simp [maxLen_eq]; omega)) ?_
      cases h6 : hexesB x
      · simp
        refine hr _ ?_
        rw [h6] at hf
        simp [hf]
      · simp [hw]
        rw [h6] at hf
        exact hb _ (i + 1) (Wk.fits (by simp)) ⟨hi', by simpa using hf⟩ (by omega)
    · simp [hw]
      rw [hlast] at hf
      have hL : ((i : Int) + 1 == (P.length : Int)) = (((i + 1 : Nat) : Int) == (P.length : Int)) := rfl
      cases h4 : ((i : Int) + 1 == (P.length : Int))
      · rw [← hL, h4] at hf
        rw [if_neg (by simp )] at hf
        simp
        refine FF_by (ok103 _ x (by simp [maxLen_eq]; omega)) ?_
        cases h6 : hexesB x
        · simp
          refine hr _ ?_
          rw [h6] at hf
          simp [hf]
        · simp [hw]
          rw [h6] at hf
          exact hb _ (i + 1) (Wk.fits (by simp)) ⟨hi', by simpa using hf⟩ (by omega)
      · rw [← hL, h4] at hf
        simp
        refine FF_by (ok40 _ x 46 (by omega)) ?_
        cases h5 : hasB x 46
        · rw [h5] at hf
          rw [if_neg (by simp )] at hf
          simp
          refine FF_by (ok103 _ x (by simp [maxLen_eq]; omega)) ?_
          cases h6 : hexesB x
          · simp
            refine hr _ ?_
            rw [h6] at hf
            simp [hf]
          · simp [hw]
            rw [h6] at hf
            exact hb _ (i + 1) (Wk.fits (by simp)) ⟨hi', by simpa using hf⟩ (by omega)
        · rw [h5, if_pos (by simp)] at hf
          simp
          refine FF_by (ok41 _ x (by omega) hxl.2) ?_
          change grpL true P 0 = if (four4 x).1 = true then _ else _ at hf
          show KK Try.prog G h _ _ _ _ _ (.tup [.p (.bool (four4 x).1), .p (.bool (four4 x).2)]) h
          generalize four4 x = f4 at hf ⊢
          obtain ⟨b1, b2⟩ := f4
          cases b1
          · simp
            refine hr _ ?_
            simp [hf]
          · simp [hw2]
            refine hr _ ?_
            simp [hf]
  · have : i = P.length := by simp at h2; omega
    subst this
    rw [List.drop_length, grpL] at hf
    simp
    refine he _ _ ?_
    simp [hf]
end Go.Proofs.Ytdgnjngbheecnaa
