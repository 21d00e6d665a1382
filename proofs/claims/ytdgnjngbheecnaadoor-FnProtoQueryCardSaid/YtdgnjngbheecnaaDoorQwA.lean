/- A buffer that holds something already: parameters, settings (turned from another seat by mkpq.py) -/
import Derived.Test.YtdgnjngbheecnaaDoorQsC
set_option linter.unusedVariables false
set_option linter.unusedSimpArgs false
set_option maxRecDepth 100000
namespace Go.Proofs.YtdgnjngbheecnaaDoor
open Go Go.Den Go.Proofs

theorem ok55 {G : Nat → DV} (h : List Blk) (bb : Nat) (d r : DV) (l : List Par) (hx : ∀ x, x ∈ l → Fine x) (hl : l.length ≤ 10) (l0 : List UInt8) (hl0 : l0.length ≤ 500000) (hs : BufS h bb d l0) : OkR Tryd.prog G 55 [.fz 2 (pars l), .ptr bb 0 0 1, r] h (BufE h bb d (l0 ++ parsW l)) := by
  refine OkR_by Tryd.func55 c55_ok r55_ok 20 rfl ?_
  simp [c55, r55]
  refine VV_fam (fun x : Nat × DV × List Blk => ⟨fr 23 [(1, .ptr bb 0 0 1), (2, r), (10, .fz 2 (pars l)), (11, .p (.int .i64 l.length)), (12, .p (.int .i64 x.1))], x.2.2⟩)
    (fun x => x.1 ≤ l.length ∧ BufS x.2.2 bb x.2.1 (l0 ++ parsW (l.take x.1)) ∧ BufK h x.2.2 bb d x.2.1) (fun x => l.length - x.1) (0, d, h) ⟨Nat.zero_le _, by simpa [parsW, sesW] using hs, .refl⟩ (Wk.fits (by simp)) ?_
  rintro ⟨i, d', h'⟩ ⟨hi, hs', hk⟩ B hb he hr
  simp only at hi hs' hk
  simp
  refine CC_by (fun h1 => ?_) (fun h1 => ?_)
  · have h1 : i < l.length := by simpa using h1
    have hw : IntKind.i64.wrap ((i : Int) + 1) = ((i + 1 : Nat) : Int) := wrap_succ (n := l.length) h1 (by omega)
    have hn := take_succ_at h1
    have hlen := parsW_length (l.take i) fun x hx' => hx x (List.mem_of_mem_take hx')
    simp at hlen
    simp [h1, pars_get h1, parD]
    refine FF_byR (ok80 (h' ++ [.cells 2 [parD l[i]]]) bb h'.length d' r _ l[i] (hx _ (List.getElem_mem _)) (by simp; omega) hs'.push (by simp) (Nat.ne_of_gt hs'.lt) fun hh => Nat.lt_irrefl _ (hs'.sl.lt hh)) ?_
    rintro v h2 ⟨rfl, d2, k2, m2⟩
    simp [hw]
    refine hb _ (i + 1, d2, h2) (Wk.fits (by simp)) ⟨h1, ?_, hk.trans m2.pre⟩ (by simp; omega)
    rw [hn, parsW_snoc, ← List.append_assoc]; exact k2
  · have h1 : i = l.length := by simp at h1; omega
    subst h1
    rw [List.take_length] at hs'
    simp
    refine he _ _ ?_
    simp
    exact REr_by _ _ .refl ⟨rfl, d', hs', hk⟩


theorem ok51 {G : Nat → DV} (h : List Blk) (bb : Nat) (d : DV) (rev : Int) (l : List Sett) (hrev : ¬ rev ≤ 54429) (hx : ∀ x, x ∈ l → SFine x) (hl : l.length ≤ 10) (l0 : List UInt8) (hl0 : l0.length ≤ 500000) (hs : BufS h bb d l0) : OkR Tryd.prog G 51 [.fz 4 (pros l), .ptr bb 0 0 1, .p (.int .u64 rev)] h (BufE h bb d (l0 ++ sesW l)) := by
  refine OkR_by Tryd.func51 c51_ok r51_ok 20 rfl ?_
  simp [c51, r51]
  refine VV_fam (fun x : Nat × DV × List Blk => ⟨fr 23 [(1, .ptr bb 0 0 1), (2, .p (.int .u64 rev)), (10, .fz 4 (pros l)), (11, .p (.int .i64 l.length)), (12, .p (.int .i64 x.1))], x.2.2⟩)
    (fun x => x.1 ≤ l.length ∧ BufS x.2.2 bb x.2.1 (l0 ++ sesW (l.take x.1)) ∧ BufK h x.2.2 bb d x.2.1) (fun x => l.length - x.1) (0, d, h) ⟨Nat.zero_le _, by simpa [parsW, sesW] using hs, .refl⟩ (Wk.fits (by simp)) ?_
  rintro ⟨i, d', h'⟩ ⟨hi, hs', hk⟩ B hb he hr
  simp only at hi hs' hk
  simp
  refine CC_by (fun h1 => ?_) (fun h1 => ?_)
  · have h1 : i < l.length := by simpa using h1
    have hw : IntKind.i64.wrap ((i : Int) + 1) = ((i + 1 : Nat) : Int) := wrap_succ (n := l.length) h1 (by omega)
    have hn := take_succ_at h1
    have hlen := sesW_length (l.take i) fun x hx' => hx x (List.mem_of_mem_take hx')
    simp at hlen
    simp [h1, pros_get h1, proD]
    refine FF_byR (ok75 (h' ++ [.cells 4 [proD l[i]]]) bb h'.length d' rev _ l[i] (hx _ (List.getElem_mem _)) hrev (by simp; omega) hs'.push (by simp) (Nat.ne_of_gt hs'.lt) fun hh => Nat.lt_irrefl _ (hs'.sl.lt hh)) ?_
    rintro v h2 ⟨rfl, d2, k2, m2⟩
    simp [hw]
    refine hb _ (i + 1, d2, h2) (Wk.fits (by simp)) ⟨h1, ?_, hk.trans m2.pre⟩ (by simp; omega)
    rw [hn, sesW_snoc, ← List.append_assoc]; exact k2
  · have h1 : i = l.length := by simp at h1; omega
    subst h1
    rw [List.take_length] at hs'
    simp
    refine he _ _ ?_
    simp
    exact REr_by _ _ .refl ⟨rfl, d', hs', hk⟩

end Go.Proofs.YtdgnjngbheecnaaDoor
