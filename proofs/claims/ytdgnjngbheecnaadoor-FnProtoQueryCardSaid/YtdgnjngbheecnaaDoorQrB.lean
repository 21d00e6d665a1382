/- The reference's reader: names, flags and texts. -/
import Derived.Test.YtdgnjngbheecnaaDoorQrA
set_option linter.unusedVariables false
set_option linter.unusedSimpArgs false
set_option maxRecDepth 100000
set_option maxHeartbeats 4000000
namespace Go.Proofs.YtdgnjngbheecnaaDoor
open Go Go.Den Go.Proofs

/-- A name, a flag, a text. -/
abbrev Tri := List UInt8 × Nat × List UInt8
def tW (t : Tri) : List UInt8 := lng t.1 ++ (uv t.2.1 ++ lng t.2.2)
def tsW (l : List Tri) : List UInt8 := l.flatMap tW
theorem tsW_cons (t : Tri) (l : List Tri) : tsW (t :: l) = tW t ++ tsW l := by simp [tsW]
theorem ok39 {G : Nat → DV} (h : List Blk) (ib : Nat) (ts : List Tri) (rest : List UInt8) (hk : ∀ t, t ∈ ts → t.1 ≠ []) (hf : ∀ t, t ∈ ts → t.2.1 < B64) (hl : (tsW ts ++ (lng [] ++ rest)).length ≤ 1000000) (hh : h[ib]? = some (.cells 2 [inD (tsW ts ++ (lng [] ++ rest)) false])) :
    Ok Tryd.prog G 39 [.ptr ib 0 0 1, .p (.bool true)] h (.p (.string (txt (tsW ts)))) (h.set ib (.cells 2 [inD rest false])) := by
  refine Ok_by Tryd.func39 c39_ok r39_ok 33 rfl ?_
  have hib : ib < h.length := (List.getElem?_eq_some_iff.1 hh).1
  have hself : h.set ib (.cells 2 [inD (tsW ts ++ (lng [] ++ rest)) false]) = h := by
    obtain ⟨g1, g2⟩ := List.getElem?_eq_some_iff.1 hh
    rw [← g2]
    exact List.set_getElem_self g1
  have e1 : ∀ X, (h.set ib X)[ib]? = some X := fun X => List.getElem?_set_self hib
  have hh' := hh
  rw [inD] at hh'
  simp [c39, r39, hh']
  refine VV_fam (fun j : Nat => ⟨fr 35 [(0, .ptr ib 0 0 1), (1, .p (.bool true)), (5, .p (.string (txt (tsW ts ++ (lng [] ++ rest)))))], h.set ib (.cells 2 [inD (tsW (ts.drop j) ++ (lng [] ++ rest)) false])⟩)
    (fun j => j ≤ ts.length) (fun j => ts.length - j) 0 (by simp) (Wk.fitsE hself.symm (by simp)) ?_
  intro j hj B hb he hr
  have hlj : (tsW (ts.drop j) ++ (lng [] ++ rest)).length ≤ (tsW ts ++ (lng [] ++ rest)).length := by
    have : tsW ts = tsW (ts.take j) ++ tsW (ts.drop j) := by rw [tsW, tsW, tsW, ← List.flatMap_append, List.take_append_drop]
    rw [this]; simp
  by_cases hjl : j < ts.length
  · have hd : ts.drop j = ts[j] :: ts.drop (j + 1) := List.drop_eq_getElem_cons hjl
    have hkj := hk ts[j] (List.getElem_mem hjl)
    have hfj := hf ts[j] (List.getElem_mem hjl)
    have hS : tsW (ts.drop j) ++ (lng [] ++ rest) = lng ts[j].1 ++ (uv ts[j].2.1 ++ (lng ts[j].2.2 ++ (tsW (ts.drop (j + 1)) ++ (lng [] ++ rest)))) := by
      rw [hd, tsW_cons, tW]; simp
    rw [hS] at hlj ⊢
    generalize ts[j] = t at hkj hfj hlj ⊢
    obtain ⟨k, f, v⟩ := t
    simp only at hkj hfj hlj ⊢
    have hlj' := Nat.le_trans hlj hl
    simp at hlj'
    have hlk : (lng k).length = (uv k.length).length + k.length := by simp [lng]
    have hlv : (lng v).length = (uv v.length).length + v.length := by simp [lng]
    simp [e1, inD]
    refine FF_by (ok34 _ ib k _ (by simp; omega) (e1 _)) ?_
    simp [hkj]
    refine FF_by (ok36 _ ib f _ hfj (by simp; omega) (e1 _)) ?_
    simp
    refine FF_by (ok34 _ ib v _ (by simp; omega) (e1 _)) ?_
    simp
    refine hb _ (j + 1) (Wk.fits (by simp)) (by omega) (by omega)
  · obtain rfl : j = ts.length := by omega
    rw [List.drop_length]
    have hw : IntKind.i64.wrap (((tsW ts).length : Int) + (((lng []).length : Int) + (rest.length : Int)) - (((tsW []).length : Int) + (((lng []).length : Int) + (rest.length : Int)))) = ((tsW ts).length : Int) := by
      have : (tsW []).length = 0 := rfl
      rw [this]
      simp at hl
      simp [IntKind.wrap, IntKind.bits, IntKind.signed]
      omega
    simp [e1, inD]
    refine FF_by (ok34 _ ib [] rest (by simp at hl ⊢; omega) (e1 _)) ?_
    simp [hw]
    refine ⟨by omega, hr _ ?_⟩
    simp
    exact .refl
end Go.Proofs.YtdgnjngbheecnaaDoor
