/- Addresses: four numbers, by the reference. -/
import Derived.Test.YtdgnjngbheecnaaIpD
set_option linter.unusedVariables false
set_option linter.unusedSimpArgs false
set_option maxRecDepth 100000
namespace Go.Proofs.Ytdgnjngbheecnaa
open Go Go.Den Go.Proofs

/-- Behind 255 as a text. -/
def over255 (x : List UInt8) : Bool := !(Op.bytesLess x [50, 53, 53] || decide (x = [50, 53, 53]))
def bad4 (x : List UInt8) : Bool := !digitsB x || (decide (3 < x.length) || (over255 x && decide (x.length = 3)))
def lead (x : List UInt8) : Bool := decide (x.getD 0 0 ≠ 48)
def fourL : List (List UInt8) → Bool → Nat → Bool × Bool
  | [], dec, n => (decide (n = 4), dec)
  | x :: r, dec, n => if bad4 x = true then (false, !digitsB x || lead x) else fourL r (dec && (decide (x.length = 1) || lead x)) n
@[simp] theorem txs_getElem {l : List (List UInt8)} {i : Nat} (h : i < (txs l).length) : (txs l)[i] = .p (.string (txt (l[i]'(by simpa using h)))) := by simp [txs, strs]
theorem parts_len (c : UInt8) (l : List UInt8) : (parts c l).length ≤ l.length + 1 := by
  have := spSt_len c l
  simp [parts]; omega
theorem ok41 {G : Nat → DV} (h : List Blk) (l : List UInt8) (hl : l.length ≤ 2147483647) (hx : ∀ x, x ∈ parts 46 l → x.length ≤ 2147483647) : Ok Try.prog G 41 [.p (.string (txt l))] h (.tup [.p (.bool (fourL (parts 46 l) true (parts 46 l).length).1), .p (.bool (fourL (parts 46 l) true (parts 46 l).length).2)]) h := by
  refine Ok_by Try.func41 c41_ok r41_ok 55 rfl ?_
  have hpl := parts_len 46 l
  simp [c41, r41]
  refine FF_by (ok101 _ l 46 (by omega)) ?_
  generalize parts 46 l = P at hpl hx ⊢
  simp
  refine VV_fam (fun x : Nat × Bool => ⟨fr 56 [(3, .p (.bool x.2)), (4, .fz 1 (txs P)), (9, .fz 1 (txs P)), (10, .p (.int .i64 P.length)), (11, .p (.int .i64 x.1))], h⟩)
    (fun x => x.1 ≤ P.length ∧ fourL P true P.length = fourL (P.drop x.1) x.2 P.length) (fun x => P.length - x.1) (0, true) (by simp) (Wk.fits (by simp)) ?_
  rintro ⟨i, dec⟩ ⟨hi, hf⟩ B hb he hr
  simp only at hi hf
  simp
  refine CC_by (fun h2 => ?_) (fun h2 => ?_)
  · have hi' : i < P.length := by simpa using h2
    have hw : IntKind.i64.wrap ((i : Int) + 1) = ((i + 1 : Nat) : Int) := wrap_succ hi' (by omega)
    rw [List.drop_eq_getElem_cons hi', fourL] at hf
    have hxl := hx P[i] (List.getElem_mem hi')
    simp [hi']
    generalize P[i] = x at hf hxl ⊢
    refine FF_by (ok102 _ x (by simp [maxLen_eq]; omega)) ?_
    cases h3 : digitsB x
    · have hb4 : bad4 x = true := by simp [bad4, h3]
      rw [if_pos hb4, h3] at hf
      simp
      refine DF_by (ok102 _ x (by simp [maxLen_eq]; omega)) ?_
      simp [h3]
      refine hr _ ?_
      simp [hf]
    simp
    have hne : x ≠ [] := by rintro rfl; simp [digitsB] at h3
    obtain ⟨x0, xs, rfl⟩ := List.exists_cons_of_ne_nil hne
    have hlead : lead (x0 :: xs) = ((x0.toNat : Int) != 48) := by
      simp only [lead, List.getD_cons_zero]
      rw [Bool.eq_iff_iff]
      simp
      constructor
      · intro h1 h2
        exact h1 (UInt8.toNat_inj.1 (by simp; omega))
      · rintro h1 rfl
        exact h1 rfl
    cases h4 : decide (3 < ((x0 :: xs).length : Int))
    · simp
      have ho : (!Op.bytesLess (x0 :: xs) [50, 53, 53] && (!decide (x0 = 50) || !decide (xs = [53, 53]))) = over255 (x0 :: xs) := by simp [over255]
      rw [ho]
      have good : bad4 (x0 :: xs) = false → fourL P true P.length = fourL (P.drop (i + 1)) (dec && (decide ((x0 :: xs).length = 1) || lead (x0 :: xs))) P.length := fun hb4 => by rw [if_neg (by simp [hb4])] at hf; exact hf
      cases h5 : over255 (x0 :: xs)
      · have hb4 : bad4 (x0 :: xs) = false := by simp at h4; simp [bad4, h3, h5]; omega
        simp
        have hf' := good hb4
        cases dec
        · simp [hw]
          exact hb _ (i + 1, false) (Wk.fits (by simp)) ⟨hi', by simpa using hf'⟩ (by simp; omega)
        · simp
          have h6 : ((xs.length : Int) + 1 == 1) = decide (xs = []) := by cases xs <;> simp; omega
          by_cases h7 : xs = []
          · subst h7
            simp [hw]
            exact hb _ (i + 1, true) (Wk.fits (by simp)) ⟨hi', by rw [hf']; simp⟩ (by simp; omega)
          · simp [h6, h7, hw, byteD]
            exact hb _ (i + 1, (x0.toNat : Int) != 48) (Wk.fits (by simp)) ⟨hi', by rw [hf']; simp [h7, hlead]⟩ (by simp; omega)
      · simp
        refine CC_by (fun h8 => ?_) (fun h8 => ?_)
        · have h9 : (x0 :: xs).length = 3 := by simp at h8 ⊢; omega
          have hb4 : bad4 (x0 :: xs) = true := by simp only [bad4, h3, h5, h9]; rfl
          rw [if_pos hb4, h3] at hf
          simp
          refine DF_by (ok102 _ (x0 :: xs) (by simp at hxl; simp [maxLen_eq]; omega)) ?_
          simp [h3, byteD]
          refine hr _ ?_
          simp [hf, hlead]
        · have h9 : ¬ (x0 :: xs).length = 3 := by simp at h8 ⊢; omega
          have hb4 : bad4 (x0 :: xs) = false := by simp at h4 h9; simp [bad4, h3, h5]; omega
          simp
          have hf' := good hb4
          cases dec
          · simp [hw]
            exact hb _ (i + 1, false) (Wk.fits (by simp)) ⟨hi', by simpa using hf'⟩ (by simp; omega)
          · simp
            have h6 : ((xs.length : Int) + 1 == 1) = decide (xs = []) := by cases xs <;> simp; omega
            by_cases h7 : xs = []
            · subst h7
              simp [hw]
              exact hb _ (i + 1, true) (Wk.fits (by simp)) ⟨hi', by rw [hf']; simp⟩ (by simp; omega)
            · simp [h6, h7, hw, byteD]
              exact hb _ (i + 1, (x0.toNat : Int) != 48) (Wk.fits (by simp)) ⟨hi', by rw [hf']; simp [h7, hlead]⟩ (by simp; omega)
    · have hb4 : bad4 (x0 :: xs) = true := by simp at h4; simp [bad4, h3]; left; omega
      rw [if_pos hb4, h3] at hf
      simp
      refine DF_by (ok102 _ (x0 :: xs) (by simp at hxl; simp [maxLen_eq]; omega)) ?_
      simp [h3, byteD]
      refine hr _ ?_
      simp [hf, hlead]
  · have : i = P.length := by simp at h2; omega
    subst this
    rw [List.drop_length, fourL] at hf
    simp
    refine he _ _ ?_
    have e4 : ((P.length : Int) == 4) = decide (P.length = 4) := by rw [Bool.eq_iff_iff]; simp; omega
    simp [hf, e4]
end Go.Proofs.Ytdgnjngbheecnaa
