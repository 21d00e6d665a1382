/- Addresses: the reference. -/
import Derived.Test.YtdgnjngbheecnaaIpG
set_option linter.unusedVariables false
set_option linter.unusedSimpArgs false
set_option maxRecDepth 100000
namespace Go.Proofs.Ytdgnjngbheecnaa
open Go Go.Den Go.Proofs

/-- Two signs, as they stand at i. -/
def cc (l : List UInt8) (i : Nat) : Bool := decide ((l.take (i + 2)).drop i = [58, 58])
/-- From i on: where the first two colons stand. -/
def refFrom (l : List UInt8) : Nat → Nat → Bool × Bool
  | 0, _ => (decide ((grp true l).1 = 8), (grp true l).2)
  | f + 1, i => if i + 2 ≤ l.length then (if cc l i = true then (decide (0 ≤ (grp false (l.take i)).1) && decide (0 ≤ (grp true (l.drop (i + 2))).1) && decide ((grp false (l.take i)).1 + (grp true (l.drop (i + 2))).1 < 8), (grp false (l.take i)).2 && (grp true (l.drop (i + 2))).2) else refFrom l f (i + 1)) else (decide ((grp true l).1 = 8), (grp true l).2)
def ipRef (l : List UInt8) : Bool × Bool := if hasB l 58 = true then refFrom l (l.length + 1) 0 else four4 l
theorem grpL_le (last : Bool) : ∀ (P : List (List UInt8)) (n : Nat), (grpL last P n).1 ≤ n + P.length + 1
  | [], n => by simp [grpL] <;> omega
  | x :: r, n => by
    have := grpL_le last r (n + 1)
    simp only [grpL, List.length_cons]
    split
    · split
      · simp; omega
      · simp; omega
    · split
      · omega
      · simp; omega
theorem grpL_ge (last : Bool) : ∀ (P : List (List UInt8)) (n : Nat), -1 ≤ (grpL last P n).1
  | [], n => by simp [grpL] <;> omega
  | x :: r, n => by
    have := grpL_ge last r (n + 1)
    simp only [grpL]
    split
    · split
      · simp; omega
      · simp
    · split
      · omega
      · simp
theorem grp_le (last : Bool) (l : List UInt8) : (grp last l).1 ≤ l.length + 2 ∧ -1 ≤ (grp last l).1 := by
  unfold grp
  split
  · simp; omega
  · have h1 := grpL_le last (parts 58 l) 0
    have h2 := grpL_ge last (parts 58 l) 0
    have h3 := parts_len 58 l
    exact ⟨by omega, h2⟩
theorem ok16 {G : Nat → DV} (h : List Blk) (l : List UInt8) (hl : l.length ≤ 2147483647) : Ok Try.prog G 16 [.p (.string (txt l))] h (.tup [.p (.bool (ipRef l).1), .p (.bool (ipRef l).2)]) h := by
  refine Ok_by Try.func16 c16_ok r16_ok 68 rfl ?_
  simp [c16, r16]
  refine FF_by (ok40 _ l 58 (by omega)) ?_
  cases h0 : hasB l 58
  · simp
    refine FF_by (ok41' _ l hl) ?_
    simp [ipRef, h0]
  simp
  rw [ipRef, if_pos h0]
  obtain ⟨res, hres⟩ : ∃ res, res = refFrom l (l.length + 1) 0 := ⟨_, rfl⟩
  rw [← hres]
  refine VV_fam (fun i : Nat => ⟨fr 69 [(0, .p (.string (txt l))), (4, .p (.int .i64 i))], h⟩)
    (fun i => i ≤ l.length ∧ res = refFrom l (l.length + 1 - i) i) (fun i => l.length - i) 0 ⟨by simp, by simpa using hres⟩ (Wk.fits (by simp)) ?_
  rintro i ⟨hi, hf⟩ B hb he hr
  have hw : IntKind.i64.wrap ((i : Int) + 1) = ((i + 1 : Nat) : Int) := by simp [IntKind.wrap, IntKind.bits, IntKind.signed]; omega
  have hw2 : IntKind.i64.wrap ((i : Int) + 2) = ((i + 2 : Nat) : Int) := by simp [IntKind.wrap, IntKind.bits, IntKind.signed]; omega
  obtain ⟨f, hfu⟩ : ∃ f, l.length + 1 - i = f + 1 := ⟨l.length - i, by omega⟩
  rw [hfu, refFrom] at hf
  simp [hw2]
  refine CC_by (fun h2 => ?_) (fun h2 => ?_)
  · have h2' : i + 2 ≤ l.length := by simp at h2; omega
    rw [if_pos h2'] at hf
    simp [hw2, show (i : Int) ≤ (i : Int) + 2 by omega]
    refine ⟨by omega, ?_⟩
    have hcc : decide (List.drop i (List.take ((i : Int) + 2).toNat l) = [58, 58]) = cc l i := by rw [cc, show ((i : Int) + 2).toNat = i + 2 by omega]
    rw [hcc]
    cases h3 : cc l i
    · rw [h3] at hf
      simp [KON_blk_ext, hw]
      refine hb _ (i + 1) (Wk.fits (by simp)) ⟨by omega, ?_⟩ (by omega)
      rw [show l.length + 1 - (i + 1) = f by omega]
      simpa using hf
    · rw [h3, if_pos rfl] at hf
      have a1 := grp_le false (l.take i)
      have a2 := grp_le true (l.drop (i + 2))
      simp at a1 a2
      simp [hw2]
      refine ⟨hi, ?_⟩
      refine FF_by (ok42' _ (l.take i) false (by simp; omega)) ?_
      have hd2 : List.drop ((i : Int) + 2).toNat (List.take l.length l) = l.drop (i + 2) := by rw [List.take_length, show ((i : Int) + 2).toNat = i + 2 by omega]
      simp [hw2, hd2, show ((i : Int) + 2).toNat = i + 2 by omega]
      refine ⟨by omega, by omega, ?_⟩
      refine FF_by (ok42' _ (l.drop (i + 2)) true (by simp; omega)) ?_
      generalize grp false (l.take i) = A at hf a1 ⊢
      generalize grp true (l.drop (i + 2)) = C at hf a2 ⊢
      obtain ⟨A1, A2⟩ := A
      obtain ⟨C1, C2⟩ := C
      simp only at hf a1 a2
      have wsum : IntKind.i64.wrap (A1 + C1) = A1 + C1 := by simp [IntKind.wrap, IntKind.bits, IntKind.signed]; omega
      subst hf
      cases h5 : decide (0 ≤ A1) <;> cases h6 : decide (0 ≤ C1) <;> cases A2
      all_goals
        simp [h5, h6, wsum]
        refine hr _ ?_
        rw [h5, h6]
        simp
  · have h2' : ¬ i + 2 ≤ l.length := by simp at h2; omega
    rw [if_neg h2'] at hf
    simp
    refine he _ _ ?_
    simp
    refine FF_by (ok42' _ l true hl) ?_
    have e8 : ((grp true l).1 == 8) = decide ((grp true l).1 = 8) := by rw [Bool.eq_iff_iff]; simp
    simp [hf, e8]
end Go.Proofs.Ytdgnjngbheecnaa
