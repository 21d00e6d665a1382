/- Addresses: the reference's small functions. -/
import Derived.Test.YtdgnjngbheecnaaIpA
import Derived.Test.YtdgnjngbheecnaaLibE
set_option linter.unusedVariables false
set_option linter.unusedSimpArgs false
set_option maxRecDepth 100000
namespace Go.Proofs.Ytdgnjngbheecnaa
open Go Go.Den Go.Proofs

def dgB (c : UInt8) : Bool := decide (48 ≤ c.toNat) && decide (c.toNat ≤ 57)
def digitsB (l : List UInt8) : Bool := l.all dgB && !decide (l = [])
theorem ok102 {G : Nat → DV} (h : List Blk) (l : List UInt8) (hl : l.length ≤ maxLen) : Ok Try.prog G 102 [.p (.string (txt l))] h (.p (.bool (digitsB l))) h := by
  refine Ok_by Try.func102 c102_ok r102_ok 21 rfl ?_
  simp [c102, r102]
  refine VV_fam (fun i : Nat => ⟨fr 22 [(0, .p (.string (txt l))), (5, .p (.int .i64 l.length)), (6, .p (.int .i64 i))], h⟩)
    (fun i => i ≤ l.length ∧ (l.take i).all dgB = true) (l.length - ·) 0 (by simp) (Wk.fits (by simp)) ?_
  rintro i ⟨hi, hall⟩ B hb he hr
  simp
  refine CC_by (fun h1 => ?_) (fun h1 => ?_)
  · have hi' : i < l.length := by simpa using h1
    simp [hi', byteD]
    have hdB : dgB l[i] = (decide (48 ≤ (l[i]).toNat) && decide ((l[i]).toNat ≤ 57)) := rfl
    have hbad : dgB l[i] = false → digitsB l = false := fun h => by
      simp only [digitsB, Bool.and_eq_false_iff]
      left
      rw [List.all_eq_false]
      exact ⟨l[i], List.getElem_mem hi', by simp [h]⟩
    cases h2 : decide (((l[i]).toNat : Int) < 48)
    · simp [hi', byteD]
      refine CC_by (fun h3 => ?_) (fun h3 => ?_)
      · simp
        refine hr _ ?_
        rw [hbad (by rw [hdB]; simp at h3 ⊢; omega)]
        simp
      · simp [wrap_succ hi' hl]
        refine hb _ (i + 1) (Wk.fits (by simp)) ⟨hi', ?_⟩ (by omega)
        rw [List.take_succ_eq_append_getElem hi', List.all_append, hall]
        simp at h2 h3
        simp [dgB]
        omega
    · simp
      refine hr _ ?_
      rw [hbad (by rw [hdB]; simp at h2 ⊢; omega)]
      simp
  · have : i = l.length := by simp at h1; omega
    subst this
    rw [List.take_length] at hall
    simp
    refine he _ _ ?_
    simp [digitsB, hall]
def hxB (c : UInt8) : Bool := (decide (48 ≤ c.toNat) && decide (c.toNat ≤ 57)) || ((decide (97 ≤ c.toNat) && decide (c.toNat ≤ 102)) || (decide (65 ≤ c.toNat) && decide (c.toNat ≤ 70)))
def hexesB (l : List UInt8) : Bool := l.all hxB && (decide (1 ≤ l.length) && decide (l.length ≤ 4))
theorem ok103 {G : Nat → DV} (h : List Blk) (l : List UInt8) (hl : l.length ≤ maxLen) : Ok Try.prog G 103 [.p (.string (txt l))] h (.p (.bool (hexesB l))) h := by
  refine Ok_by Try.func103 c103_ok r103_ok 44 rfl ?_
  simp [c103, r103]
  refine VV_fam (fun i : Nat => ⟨fr 45 [(0, .p (.string (txt l))), (6, .p (.int .i64 l.length)), (7, .p (.int .i64 i))], h⟩)
    (fun i => i ≤ l.length ∧ (l.take i).all hxB = true) (l.length - ·) 0 (by simp) (Wk.fits (by simp)) ?_
  rintro i ⟨hi, hall⟩ B hb he hr
  simp
  refine CC_by (fun h1 => ?_) (fun h1 => ?_)
  · have hi' : i < l.length := by simpa using h1
    have hbad : hxB l[i] = false → hexesB l = false := fun h => by
      simp only [hexesB, Bool.and_eq_false_iff]
      left
      rw [List.all_eq_false]
      exact ⟨l[i], List.getElem_mem hi', by simp [h]⟩
    have hgood : hxB l[i] = true → (l.take (i + 1)).all hxB = true := fun h => by
      rw [List.take_succ_eq_append_getElem hi', List.all_append, hall]
      simp [h]
    simp [hi', byteD]
    have hc256 := (l[i]).toNat_lt
    generalize l[i] = c at hbad hgood hc256 ⊢
    rcases (show (0 ≤ c.toNat ∧ c.toNat ≤ 47) ∨ (48 ≤ c.toNat ∧ c.toNat ≤ 57) ∨ (58 ≤ c.toNat ∧ c.toNat ≤ 64) ∨ (65 ≤ c.toNat ∧ c.toNat ≤ 70) ∨ (71 ≤ c.toNat ∧ c.toNat ≤ 96) ∨ (97 ≤ c.toNat ∧ c.toNat ≤ 102) ∨ (103 ≤ c.toNat ∧ c.toNat ≤ 255) by omega) with ⟨g1, g2⟩ | ⟨g1, g2⟩ | ⟨g1, g2⟩ | ⟨g1, g2⟩ | ⟨g1, g2⟩ | ⟨g1, g2⟩ | ⟨g1, g2⟩
    · have q0 : ((48 : Int) ≤ (c.toNat : Int)) = False := by simp; omega
      have q1 : ((c.toNat : Int) ≤ 57) = True := by simp; omega
      have q2 : ((97 : Int) ≤ (c.toNat : Int)) = False := by simp; omega
      have q3 : ((c.toNat : Int) ≤ 102) = True := by simp; omega
      have q4 : ((65 : Int) ≤ (c.toNat : Int)) = False := by simp; omega
      have q5 : ((c.toNat : Int) ≤ 70) = True := by simp; omega
      have hx : hxB c = false := by simp [hxB]; omega
      simp [q0, q1, q2, q3, q4, q5]
      refine hr _ ?_
      rw [hbad hx]
      simp
    · have q0 : ((48 : Int) ≤ (c.toNat : Int)) = True := by simp; omega
      have q1 : ((c.toNat : Int) ≤ 57) = True := by simp; omega
      have q2 : ((97 : Int) ≤ (c.toNat : Int)) = False := by simp; omega
      have q3 : ((c.toNat : Int) ≤ 102) = True := by simp; omega
      have q4 : ((65 : Int) ≤ (c.toNat : Int)) = False := by simp; omega
      have q5 : ((c.toNat : Int) ≤ 70) = True := by simp; omega
      have hx : hxB c = true := by simp [hxB]; omega
      simp [q0, q1, q2, q3, q4, q5, wrap_succ hi' hl]
      refine hb _ (i + 1) (Wk.fits (by simp)) ⟨hi', hgood hx⟩ (by omega)
    · have q0 : ((48 : Int) ≤ (c.toNat : Int)) = True := by simp; omega
      have q1 : ((c.toNat : Int) ≤ 57) = False := by simp; omega
      have q2 : ((97 : Int) ≤ (c.toNat : Int)) = False := by simp; omega
      have q3 : ((c.toNat : Int) ≤ 102) = True := by simp; omega
      have q4 : ((65 : Int) ≤ (c.toNat : Int)) = False := by simp; omega
      have q5 : ((c.toNat : Int) ≤ 70) = True := by simp; omega
      have hx : hxB c = false := by simp [hxB]; omega
      simp [q0, q1, q2, q3, q4, q5]
      refine hr _ ?_
      rw [hbad hx]
      simp
    · have q0 : ((48 : Int) ≤ (c.toNat : Int)) = True := by simp; omega
      have q1 : ((c.toNat : Int) ≤ 57) = False := by simp; omega
      have q2 : ((97 : Int) ≤ (c.toNat : Int)) = False := by simp; omega
      have q3 : ((c.toNat : Int) ≤ 102) = True := by simp; omega
      have q4 : ((65 : Int) ≤ (c.toNat : Int)) = True := by simp; omega
      have q5 : ((c.toNat : Int) ≤ 70) = True := by simp; omega
      have hx : hxB c = true := by simp [hxB]; omega
      simp [q0, q1, q2, q3, q4, q5, wrap_succ hi' hl]
      refine hb _ (i + 1) (Wk.fits (by simp)) ⟨hi', hgood hx⟩ (by omega)
    · have q0 : ((48 : Int) ≤ (c.toNat : Int)) = True := by simp; omega
      have q1 : ((c.toNat : Int) ≤ 57) = False := by simp; omega
      have q2 : ((97 : Int) ≤ (c.toNat : Int)) = False := by simp; omega
      have q3 : ((c.toNat : Int) ≤ 102) = True := by simp; omega
      have q4 : ((65 : Int) ≤ (c.toNat : Int)) = True := by simp; omega
      have q5 : ((c.toNat : Int) ≤ 70) = False := by simp; omega
      have hx : hxB c = false := by simp [hxB]; omega
      simp [q0, q1, q2, q3, q4, q5]
      refine hr _ ?_
      rw [hbad hx]
      simp
    · have q0 : ((48 : Int) ≤ (c.toNat : Int)) = True := by simp; omega
      have q1 : ((c.toNat : Int) ≤ 57) = False := by simp; omega
      have q2 : ((97 : Int) ≤ (c.toNat : Int)) = True := by simp; omega
      have q3 : ((c.toNat : Int) ≤ 102) = True := by simp; omega
      have q4 : ((65 : Int) ≤ (c.toNat : Int)) = True := by simp; omega
      have q5 : ((c.toNat : Int) ≤ 70) = False := by simp; omega
      have hx : hxB c = true := by simp [hxB]; omega
      simp [q0, q1, q2, q3, q4, q5, wrap_succ hi' hl]
      refine hb _ (i + 1) (Wk.fits (by simp)) ⟨hi', hgood hx⟩ (by omega)
    · have q0 : ((48 : Int) ≤ (c.toNat : Int)) = True := by simp; omega
      have q1 : ((c.toNat : Int) ≤ 57) = False := by simp; omega
      have q2 : ((97 : Int) ≤ (c.toNat : Int)) = True := by simp; omega
      have q3 : ((c.toNat : Int) ≤ 102) = False := by simp; omega
      have q4 : ((65 : Int) ≤ (c.toNat : Int)) = True := by simp; omega
      have q5 : ((c.toNat : Int) ≤ 70) = False := by simp; omega
      have hx : hxB c = false := by simp [hxB]; omega
      simp [q0, q1, q2, q3, q4, q5]
      refine hr _ ?_
      rw [hbad hx]
      simp
  · have : i = l.length := by simp at h1; omega
    subst this
    rw [List.take_length] at hall
    simp
    refine he _ _ ?_
    simp
    cases h2 : decide ((1 : Int) ≤ (l.length : Int))
    · simp
      have h3 : l = [] := List.eq_nil_of_length_eq_zero (by have := of_decide_eq_false h2; omega)
      have : hexesB l = false := by rw [h3]; rfl
      simp [this]
    · simp
      have : hexesB l = decide ((l.length : Int) ≤ 4) := by
        have h3 : 1 ≤ l.length := by simp at h2; omega
        simp [hexesB, hall, h3]
        omega
      simp [this]
end Go.Proofs.Ytdgnjngbheecnaa
