/- JSON: a value that is a number. -/
import Derived.Test.YtppjcnaffphakaaDoorJsC
set_option linter.unusedVariables false
set_option linter.unusedSimpArgs false
set_option maxRecDepth 100000
set_option maxHeartbeats 4000000
namespace Go.Proofs.YtppjcnaffphakaaDoor
open Go Go.Den Go.Proofs

def numD' (x : List UInt8) : List DV := [.p (.int .u8 48), .p (.bool false), .p (.string (txt x)), .p (.slice none 0 0), .p (.slice none 0 0)]
def nilD : List DV := [.p (.int .u8 0), .p (.bool false), .p (.string ⟨#[]⟩), .p (.slice none 0 0), .p (.slice none 0 0)]
/-- What a value's reader leaves at a number. -/
def ValO (h : List Blk) (rb a d : Nat) (l : List UInt8) (v : DV) (h' : List Blk) : Prop :=
  match numK ((l.drop a).drop (nb (l.drop a))) with
  | some k => v = .tup [.agg (numD' (((l.drop a).drop (nb (l.drop a))).take k)), .p (.bool true)] ∧ h' = h.set rb (rdB l (a + nb (l.drop a) + k) d)
  | none => ∃ (k : Int) (p : Nat), p ≤ l.length ∧ v = .tup [.agg [.p (.int .u8 k), .p (.bool false), .p (.string ⟨#[]⟩), .p (.slice none 0 0), .p (.slice none 0 0)], .p (.bool false)] ∧ h' = h.set rb (rdB l p d)
theorem wf_rdB {B : Nat → Prop} {l : List UInt8} {a d : Nat} : (rdB l a d).wf B := fun j hj => by
  simp at hj
  subst hj
  simp
  exact WF_plain bts_plain
theorem ok27n {G : Nat → DV} (h : List Blk) (rb a d : Nat) (l : List UInt8) (hb : h[rb]? = some (rdB l a d)) (ha : a ≤ l.length) (hl : l.length ≤ 140737488351232) (hn : numT (l.drop a)) :
    OkR Tryd.prog G 27 [.ptr rb 0 0 1] h (ValO h rb a d l) := by
  refine OkR_by Tryd.func27 c27_ok r27_ok 106 rfl ?_
  have hbl : rb < h.length := (List.getElem?_eq_some_iff.1 hb).1
  have hsa : ∀ t x, (h ++ t).set rb x = h.set rb x ++ t := fun t x => List.set_append_left _ _ hbl
  have hga : ∀ x t, (h.set rb x ++ t)[rb]? = some x := fun x t => get_pre (rd_set hb x) t
  have hgv : ∀ x t, (h.set rb x ++ t)[h.length]? = t[0]? := fun x t => by
    have := get_app0 (h := h.set rb x) (l := t)
    rwa [List.length_set] at this
  have hsv : ∀ x t y, (h.set rb x ++ t).set h.length y = h.set rb x ++ t.set 0 y := fun x t y => by
    have := set_app0 (h := h.set rb x) (l := t) (z := y)
    rwa [List.length_set] at this
  have hss : ∀ x y t, (h.set rb x ++ t).set rb y = h.set rb y ++ t := fun x y t => by rw [List.set_append_left _ _ (by simpa using hbl), set_set']
  have hwd : ∀ p, HWF h → HWF (h.set rb (rdB l p d)) := fun p hh => hh.set wf_rdB
  generalize hR : ValO h rb a d l = R
  simp [c27, r27]
  refine FF_by (ok28 (h ++ [.cells 5 [.agg nilD]]) rb a d l (get_pre hb _) ha hl) ?_
  rw [hsa]
  have hnl := nb_le (l.drop a)
  simp at hnl
  obtain ⟨p, hp⟩ : ∃ p, p = a + nb (l.drop a) := ⟨_, rfl⟩
  have hdd : (l.drop a).drop (nb (l.drop a)) = l.drop p := by rw [List.drop_drop, hp]
  rw [← hp]
  have hnp : numT (l.drop p) := by rw [← hdd]; exact hn.drop _
  by_cases hlt : p < l.length
  · have hd : l.drop p = l[p] :: l.drop (p + 1) := List.drop_eq_getElem_cons hlt
    have hc := hnp.head (c := l[p]) (by rw [hd]; rfl)
    have hlI : ¬ (l.length : Int) ≤ (p : Int) := by omega
    have f : ∀ k : UInt8, numB k = false → ((l[p].toNat : Int) == (k.toNat : Int)) = false := fun k hk => by
      have : l[p] ≠ k := fun h => by rw [h, hk] at hc; cases hc
      have h2 : l[p].toNat ≠ k.toNat := fun h => this (UInt8.toNat_inj.1 h)
      simp; omega
    have f1 : ((l[p].toNat : Int) == 123) = false := f 123 rfl
    have f2 : ((l[p].toNat : Int) == 91) = false := f 91 rfl
    have f3 : ((l[p].toNat : Int) == 34) = false := f 34 rfl
    have f4 : ((l[p].toNat : Int) == 116) = false := f 116 rfl
    have f5 : ((l[p].toNat : Int) == 102) = false := f 102 rfl
    have f6 : ((l[p].toNat : Int) == 110) = false := f 110 rfl
    simp [hga, hgv, hsv, rdB, hlI, hlt, f1, f2, f3, f4, f5, f6, nilD]
    refine FF_by (ok41 _ rb p d l (hga _ _) (by omega) hl hnp) ?_
    rw [hss]
    subst hR
    cases hK : numK (l.drop p) with
    | none =>
      rw [numV, hK, numA, hK]
      dsimp only
      generalize hq : p + (if (l.drop p).head? = some 45 then 1 else 0) = q
      have hql : q ≤ l.length := by rw [← hq]; split <;> omega
      simp [hga, hgv, hsv, nilD]
      refine REr_by (.tup [.agg [.p (.int .u8 48), .p (.bool false), .p (.string ⟨#[]⟩), .p (.slice none 0 0), .p (.slice none 0 0)], .p (.bool false)]) (h.set rb (rdB l q d)) (WkV.drop (by simp) (hwd q) (by simp)) ?_
      unfold ValO
      rw [hdd, hK]
      exact ⟨_, q, hql, rfl, rfl⟩
    | some k =>
      rw [numV, hK, numA, hK]
      dsimp only
      generalize hq : p + k = q
      simp [hga, hgv, hsv, nilD]
      refine REr_by (.tup [.agg (numD' ((l.drop p).take k)), .p (.bool true)]) (h.set rb (rdB l q d)) (WkV.drop (by simp) (hwd q) (by simp [numD'])) ?_
      unfold ValO
      rw [hdd, hK]
      exact ⟨rfl, by rw [← hp, hq]⟩
  · have hpl : p = l.length := by omega
    have hlI : (l.length : Int) ≤ (p : Int) := by omega
    simp [hga, hgv, hsv, rdB, hlI, hlt, nilD]
    subst hR
    have hK : numK (l.drop p) = none := by rw [List.drop_of_length_le (by omega)]; rfl
    refine REr_by (.tup [.agg [.p (.int .u8 0), .p (.bool false), .p (.string ⟨#[]⟩), .p (.slice none 0 0), .p (.slice none 0 0)], .p (.bool false)]) (h.set rb (rdB l p d)) (WkV.drop (by simp) (hwd p) (by simp)) ?_
    unfold ValO
    rw [hdd, hK]
    exact ⟨_, p, by omega, rfl, rfl⟩
end Go.Proofs.YtppjcnaffphakaaDoor
