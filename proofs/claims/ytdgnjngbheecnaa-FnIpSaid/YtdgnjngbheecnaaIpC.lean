/- Addresses: is a sign within a text. -/
import Derived.Test.YtdgnjngbheecnaaIpB
set_option linter.unusedVariables false
set_option linter.unusedSimpArgs false
set_option maxRecDepth 100000
namespace Go.Proofs.Ytdgnjngbheecnaa
open Go Go.Den Go.Proofs

def hasB (l : List UInt8) (c : UInt8) : Bool := l.any fun x => decide (x = c)
theorem ok40 {G : Nat → DV} (h : List Blk) (l : List UInt8) (c : UInt8) (hl : l.length ≤ 2147483647) : Ok Try.prog G 40 [.p (.string (txt l)), .p (.string (txt [c]))] h (.p (.bool (hasB l c))) h := by
  refine Ok_by Try.func40 c40_ok r40_ok 22 rfl ?_
  simp [c40, r40]
  refine VV_fam (fun i : Nat => ⟨fr 24 [(0, .p (.string (txt l))), (1, .p (.string (txt [c]))), (5, .p (.int .i64 i))], h⟩)
    (fun i => i ≤ l.length ∧ hasB (l.take i) c = false) (l.length - ·) 0 (by simp [hasB]) (Wk.fits (by simp)) ?_
  rintro i ⟨hi, hall⟩ B hb he hr
  have hw : IntKind.i64.wrap ((i : Int) + 1) = ((i + 1 : Nat) : Int) := by simp [IntKind.wrap, IntKind.bits, IntKind.signed]; omega
  simp [hw]
  refine CC_by (fun h1 => ?_) (fun h1 => ?_)
  · have hi' : i < l.length := by
      have h3 : (i : Int) + 1 ≤ (l.length : Int) := by simpa [hw] using h1
      omega
    have hs : List.drop i (List.take (i + 1) l) = [l[i]] := by
      rw [List.take_succ_eq_append_getElem hi', List.drop_append]
      simp [show i - min i l.length = 0 by omega]
    simp [hw, hs]
    refine ⟨hi', ?_⟩
    refine CC_by (fun h2 => ?_) (fun h2 => ?_)
    · simp
      refine hr _ ?_
      have : hasB l c = true := by
        simp only [hasB, List.any_eq_true]
        exact ⟨l[i], List.getElem_mem hi', h2⟩
      simp [this]
    · simp [hw]
      refine hb _ (i + 1) (Wk.fits (by simp)) ⟨hi', ?_⟩ (by omega)
      rw [List.take_succ_eq_append_getElem hi', hasB, List.any_append, ← hasB, hall]
      simpa using h2
  · have : i = l.length := by
      have h3 : ¬ ((i : Int) + 1 ≤ (l.length : Int)) := by simpa [hw] using h1
      omega
    subst this
    rw [List.take_length] at hall
    simp
    refine he _ _ ?_
    simp [hall]
end Go.Proofs.Ytdgnjngbheecnaa
