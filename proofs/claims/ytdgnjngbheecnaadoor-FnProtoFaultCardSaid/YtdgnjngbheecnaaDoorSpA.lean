/- Blanks (turned from another seat by mkpe.py) -/
import Derived.Test.YtdgnjngbheecnaaDoorCodA
import Derived.Test.YtdgnjngbheecnaaDoorLibE
set_option linter.unusedVariables false
set_option linter.unusedSimpArgs false
set_option maxRecDepth 100000
namespace Go.Proofs.YtdgnjngbheecnaaDoor
open Go Go.Den Go.Proofs

theorem ok106 {G : Nat → DV} (h : List Blk) (c : UInt8) : Ok Tryd.prog G 106 [.p (.int .u8 c.toNat)] h (.p (.bool (iand IntKind.u8 (c.toNat : Int) 192 != 128))) h := by
  refine Ok_by Tryd.func106 c106_ok r106_ok 5 rfl ?_
  simp [c106, r106]


/-- Is a letter a blank? -/
def spL : List Int := [9, 10, 11, 12, 13, 32, 133, 160, 5760, 8232, 8233, 8239, 8287, 12288]
def spB (r : Int) : Bool := decide (r ∈ spL) || (decide (8192 ≤ r) && decide (r ≤ 8202))
def SpP (r : Int) (h : List Blk) (v : DV) (h' : List Blk) : Prop := h' = h ∧ v = .p (.bool (spB r))
theorem ok86p {G : Nat → DV} (h : List Blk) (r : Int) : OkR Tryd.prog G 86 [.p (.int .i32 r)] h (SpP r h) := by
  refine OkR_by Tryd.func86 c86_ok r86_ok 24 rfl ?_
  simp [c86, r86]
  refine CC_by (fun e => ?_) (fun e => ?_)
  · have e : r = 9 := by simpa using e
    subst e
    simp
    exact REr_by _ _ .refl ⟨rfl, rfl⟩
  have e0 : r ≠ 9 := by simpa using e
  simp
  refine CC_by (fun e => ?_) (fun e => ?_)
  · have e : r = 10 := by simpa using e
    subst e
    simp
    exact REr_by _ _ .refl ⟨rfl, rfl⟩
  have e1 : r ≠ 10 := by simpa using e
  simp
  refine CC_by (fun e => ?_) (fun e => ?_)
  · have e : r = 11 := by simpa using e
    subst e
    simp
    exact REr_by _ _ .refl ⟨rfl, rfl⟩
  have e2 : r ≠ 11 := by simpa using e
  simp
  refine CC_by (fun e => ?_) (fun e => ?_)
  · have e : r = 12 := by simpa using e
    subst e
    simp
    exact REr_by _ _ .refl ⟨rfl, rfl⟩
  have e3 : r ≠ 12 := by simpa using e
  simp
  refine CC_by (fun e => ?_) (fun e => ?_)
  · have e : r = 13 := by simpa using e
    subst e
    simp
    exact REr_by _ _ .refl ⟨rfl, rfl⟩
  have e4 : r ≠ 13 := by simpa using e
  simp
  refine CC_by (fun e => ?_) (fun e => ?_)
  · have e : r = 32 := by simpa using e
    subst e
    simp
    exact REr_by _ _ .refl ⟨rfl, rfl⟩
  have e5 : r ≠ 32 := by simpa using e
  simp
  refine CC_by (fun e => ?_) (fun e => ?_)
  · have e : r = 133 := by simpa using e
    subst e
    simp
    exact REr_by _ _ .refl ⟨rfl, rfl⟩
  have e6 : r ≠ 133 := by simpa using e
  simp
  refine CC_by (fun e => ?_) (fun e => ?_)
  · have e : r = 160 := by simpa using e
    subst e
    simp
    exact REr_by _ _ .refl ⟨rfl, rfl⟩
  have e7 : r ≠ 160 := by simpa using e
  simp
  refine CC_by (fun e => ?_) (fun e => ?_)
  · have e : r = 5760 := by simpa using e
    subst e
    simp
    exact REr_by _ _ .refl ⟨rfl, rfl⟩
  have e8 : r ≠ 5760 := by simpa using e
  simp
  refine CC_by (fun e => ?_) (fun e => ?_)
  · have e : r = 8232 := by simpa using e
    subst e
    simp
    exact REr_by _ _ .refl ⟨rfl, rfl⟩
  have e9 : r ≠ 8232 := by simpa using e
  simp
  refine CC_by (fun e => ?_) (fun e => ?_)
  · have e : r = 8233 := by simpa using e
    subst e
    simp
    exact REr_by _ _ .refl ⟨rfl, rfl⟩
  have e10 : r ≠ 8233 := by simpa using e
  simp
  refine CC_by (fun e => ?_) (fun e => ?_)
  · have e : r = 8239 := by simpa using e
    subst e
    simp
    exact REr_by _ _ .refl ⟨rfl, rfl⟩
  have e11 : r ≠ 8239 := by simpa using e
  simp
  refine CC_by (fun e => ?_) (fun e => ?_)
  · have e : r = 8287 := by simpa using e
    subst e
    simp
    exact REr_by _ _ .refl ⟨rfl, rfl⟩
  have e12 : r ≠ 8287 := by simpa using e
  simp
  refine CC_by (fun e => ?_) (fun e => ?_)
  · have e : r = 12288 := by simpa using e
    subst e
    simp
    exact REr_by _ _ .refl ⟨rfl, rfl⟩
  have e13 : r ≠ 12288 := by simpa using e
  simp
  have hn : r ∉ spL := by simp [spL, e0, e1, e2, e3, e4, e5, e6, e7, e8, e9, e10, e11, e12, e13]
  have hn' : decide (r ∈ spL) = false := by simpa using hn
  rcases Decidable.em ((8192 : Int) ≤ r) with a | a
  · simp [a]
    refine REr_by _ _ .refl ?_
    exact ⟨rfl, by simp [spB, hn', a]⟩
  · simp [a]
    refine REr_by _ _ .refl ?_
    exact ⟨rfl, by simp [spB, hn', a]⟩

end Go.Proofs.YtdgnjngbheecnaaDoor
