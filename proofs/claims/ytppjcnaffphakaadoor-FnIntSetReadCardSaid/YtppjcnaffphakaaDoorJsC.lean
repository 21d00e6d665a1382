/- JSON: numbers as they are written. -/
import Derived.Test.YtppjcnaffphakaaDoorJsB
set_option linter.unusedVariables false
set_option linter.unusedSimpArgs false
set_option maxRecDepth 100000
set_option maxHeartbeats 4000000
namespace Go.Proofs.YtppjcnaffphakaaDoor
open Go Go.Den Go.Proofs

theorem rd_set {h : List Blk} {rb : Nat} {x : Blk} (hb : h[rb]? = some x) (y : Blk) : (h.set rb y)[rb]? = some y := by
  have := (List.getElem?_eq_some_iff.1 hb).1
  simp [this]
theorem ok40n {G : Nat → DV} (h : List Blk) (rb a d : Nat) (l : List UInt8) (c : UInt8) (hb : h[rb]? = some (rdB l a d)) (ha : a ≤ l.length) (hl : l.length ≤ 140737488351232) (hc : (l.drop a).head? ≠ some c) :
    Ok Tryd.prog G 40 [.ptr rb 0 0 1, .p (.string (txt [c]))] h (.p (.bool false)) h := by
  have := ok40 (G := G) h rb a d l c hb ha hl
  rw [if_neg hc, rd_same hb, decide_eq_false hc] at this
  exact this
theorem ok40y {G : Nat → DV} (h : List Blk) (rb a d : Nat) (l : List UInt8) (c : UInt8) (hb : h[rb]? = some (rdB l a d)) (ha : a ≤ l.length) (hl : l.length ≤ 140737488351232) (hc : (l.drop a).head? = some c) :
    Ok Tryd.prog G 40 [.ptr rb 0 0 1, .p (.string (txt [c]))] h (.p (.bool true)) (h.set rb (rdB l (a + 1) d)) := by
  have := ok40 (G := G) h rb a d l c hb ha hl
  rw [if_pos hc, decide_eq_true hc] at this
  exact this
def numV (r : List UInt8) : DV := match numK r with
  | some k => .tup [.p (.string (txt (r.take k))), .p (.bool true)]
  | none => .tup [.p (.string ⟨#[]⟩), .p (.bool false)]
theorem ok41 {G : Nat → DV} (h : List Blk) (rb a d : Nat) (l : List UInt8) (hb : h[rb]? = some (rdB l a d)) (ha : a ≤ l.length) (hl : l.length ≤ 140737488351232) (hn : numT (l.drop a)) :
    Ok Tryd.prog G 41 [.ptr rb 0 0 1] h (numV (l.drop a)) (h.set rb (rdB l (a + numA (l.drop a)) d)) := by
  refine Ok_by Tryd.func41 c41_ok r41_ok 50 rfl ?_
  have e46 : ∀ c, numB c = true → c ≠ 46 ∧ c ≠ 101 ∧ c ≠ 69 := fun c hc => by
    refine ⟨fun h => ?_, fun h => ?_, fun h => ?_⟩ <;> (subst h; revert hc; decide)
  generalize hT : h.set rb (rdB l (a + numA (l.drop a)) d) = T
  generalize hV : numV (l.drop a) = V
  simp [c41, r41, hb, rdB]
  refine FF_by (ok40 h rb a d l 45 hb ha hl) ?_
  obtain ⟨s, hs, hsd⟩ : ∃ s, (if (l.drop a).head? = some 45 then 1 else 0) = s ∧ (if (l.drop a).head? = some 45 then a + 1 else a) = a + s := by
    split
    · exact ⟨1, rfl, rfl⟩
    · exact ⟨0, rfl, rfl⟩
  have hsl : a + s ≤ l.length := by
    rw [← hs]
    split
    · rename_i h1
      have : (l.drop a) ≠ [] := fun h2 => by rw [h2] at h1; cases h1
      have := List.length_pos_iff.2 this
      simp at this
      omega
    · omega
  rw [hsd]
  have hK : numK (l.drop a) = if (l.drop (a + s)).head? = some 48 then some (s + 1) else if ndg (l.drop (a + s)) = 0 then none else some (s + ndg (l.drop (a + s))) := by
    unfold numK
    rw [hs]
    simp only [List.drop_drop]
  have hb1 := rd_set hb (rdB l (a + s) d)
  simp
  refine FF_by (ok40 _ rb (a + s) d l 48 hb1 hsl hl) ?_
  rw [set_set']
  have hb2 : ∀ p, ((h.set rb (rdB l (a + s) d)).set rb (rdB l p d))[rb]? = some (rdB l p d) := fun p => rd_set hb1 _
  have hnw : ∀ p, a ≤ p → ∀ c, c = 46 ∨ c = 101 ∨ c = 69 → (l.drop p).head? ≠ some c := fun p hp c hc hh => by
    have h1 : numT (l.drop p) := by
      have := hn.drop (p - a)
      rwa [List.drop_drop, show a + (p - a) = p by omega] at this
    have h2 := e46 c (h1.head hh)
    rcases hc with rfl | rfl | rfl
    · exact h2.1 rfl
    · exact h2.2.1 rfl
    · exact h2.2.2 rfl
  by_cases h48 : (l.drop (a + s)).head? = some 48
  · have hlt : a + s + 1 ≤ l.length := by
      have : (l.drop (a + s)) ≠ [] := fun h2 => by rw [h2] at h48; cases h48
      have := List.length_pos_iff.2 this
      simp at this
      omega
    rw [if_pos h48] at hK
    have hA : numA (l.drop a) = s + 1 := by rw [numA, hK]
    rw [if_pos h48, decide_eq_true h48]
    obtain ⟨p, hp⟩ : ∃ p, p = a + s + 1 := ⟨_, rfl⟩
    rw [← hp]
    rw [hA, show a + (s + 1) = p by omega] at hT
    rw [numV, hK] at hV
    subst hT hV
    simp
    refine FF_by (ok40n _ rb p d l 46 (rd_set hb _) (by omega) hl (hnw _ (by omega) _ (by simp))) ?_
    simp
    refine FF_by (ok40n _ rb p d l 101 (rd_set hb _) (by omega) hl (hnw _ (by omega) _ (by simp))) ?_
    simp
    refine FF_by (ok40n _ rb p d l 69 (rd_set hb _) (by omega) hl (hnw _ (by omega) _ (by simp))) ?_
    simp [rd_set hb, rdB]
    rw [show p - a = s + 1 by omega]
    exact ⟨by omega, by omega, WkV.refl⟩
  · rw [if_neg h48] at hK
    rw [if_neg h48, decide_eq_false h48]
    simp
    refine FF_by (ok49 _ rb (a + s) d l (rd_set hb _) hsl hl) ?_
    rw [set_set']
    have hdl := ndg_le (l.drop (a + s))
    simp at hdl
    by_cases h0 : ndg (l.drop (a + s)) = 0
    · rw [if_pos h0] at hK
      have hA : numA (l.drop a) = s := by rw [numA, hK]; exact hs
      rw [hA] at hT
      rw [numV, hK] at hV
      subst hT hV
      rw [h0]
      simp
      exact WkV.refl
    · rw [if_neg h0] at hK
      have hA : numA (l.drop a) = s + ndg (l.drop (a + s)) := by rw [numA, hK]
      have h1 : 0 < ndg (l.drop (a + s)) := by omega
      rw [hA] at hT
      rw [numV, hK] at hV
      generalize ndg (l.drop (a + s)) = m at h0 h1 hdl hT hV ⊢
      obtain ⟨p, hp⟩ : ∃ p, p = a + s + m := ⟨_, rfl⟩
      rw [← hp]
      rw [show a + (s + m) = p by omega] at hT
      subst hT hV
      simp [h1]
      refine FF_by (ok40n _ rb p d l 46 (rd_set hb _) (by omega) hl (hnw _ (by omega) _ (by simp))) ?_
      simp
      refine FF_by (ok40n _ rb p d l 101 (rd_set hb _) (by omega) hl (hnw _ (by omega) _ (by simp))) ?_
      simp
      refine FF_by (ok40n _ rb p d l 69 (rd_set hb _) (by omega) hl (hnw _ (by omega) _ (by simp))) ?_
      simp [rd_set hb, rdB]
      rw [show p - a = s + m by omega]
      exact ⟨by omega, by omega, WkV.refl⟩
end Go.Proofs.YtppjcnaffphakaaDoor
