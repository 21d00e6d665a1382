/- JSON: a value that is a text. -/
import Derived.Test.YtppjcnaffphakaaGreatDoorJtC
set_option linter.unusedVariables false
set_option linter.unusedSimpArgs false
set_option maxRecDepth 100000
set_option maxHeartbeats 4000000
namespace Go.Proofs.YtppjcnaffphakaaGreatDoor
open Go Go.Den Go.Proofs

def txD (b : Bool) (x : List UInt8) : List DV := [.p (.int .u8 34), .p (.bool b), .p (.string (txt x)), .p (.slice none 0 0), .p (.slice none 0 0)]
def nilD : List DV := [.p (.int .u8 0), .p (.bool false), .p (.string ⟨#[]⟩), .p (.slice none 0 0), .p (.slice none 0 0)]
/-- What a value's reader makes of the bytes. -/
def ValT (r : List UInt8) (o : Option (List UInt8 × List UInt8)) : Prop := (r.drop (nb r) = [] ∧ o = none) ∨ ∃ r2, r.drop (nb r) = 34 :: r2 ∧ JT r2 o
/-- What a value's reader leaves. -/
def VaO (h : List Blk) (rb d : Nat) (l : List UInt8) (o : Option (List UInt8 × List UInt8)) (v : DV) (h' : List Blk) : Prop :=
  match o with
  | some (x, t) => ∃ b, v = .tup [.agg (txD b x), .p (.bool true)] ∧ h' = h.set rb (rdB l (l.length - t.length) d)
  | none => ∃ (k : Int) (b : Bool) (q : Nat), q ≤ l.length ∧ v = .tup [.agg [.p (.int .u8 k), .p (.bool b), .p (.string ⟨#[]⟩), .p (.slice none 0 0), .p (.slice none 0 0)], .p (.bool false)] ∧ h' = h.set rb (rdB l q d)

theorem ok65 {G : Nat → DV} (h : List Blk) (rb a d : Nat) (l : List UInt8) (o : Option (List UInt8 × List UInt8)) (hb : h[rb]? = some (rdB l a d)) (ha : a ≤ l.length) (hl : l.length ≤ 1000000000) (hv0 : ValT (l.drop a) o) :
    OkR Tryz.prog G 65 [.ptr rb 0 0 1] h (VaO h rb d l o) := by
  refine OkR.wf fun hw => ?_
  refine OkR_by Tryz.func65 c65_ok r65_ok 106 rfl ?_
  have hbl : rb < h.length := (List.getElem?_eq_some_iff.1 hb).1
  have hsa : ∀ t x, (h ++ t).set rb x = h.set rb x ++ t := fun t x => List.set_append_left _ _ hbl
  have hga : ∀ x t, (h.set rb x ++ t)[rb]? = some x := fun x t => get_pre (rd_set hb x) t
  have hgv : ∀ x t, (h.set rb x ++ t)[h.length]? = t[0]? := fun x t => by
    have := get_app0 (h := h.set rb x) (l := t)
    rwa [List.length_set] at this
  have hsv : ∀ x t y, (h.set rb x ++ t).set h.length y = h.set rb x ++ t.set 0 y := fun x t y => by
    have := set_app0 (h := h.set rb x) (l := t) (z := y)
    rwa [List.length_set] at this
  have hss : ∀ x y t, (h.set rb x ++ t).set rb y = h.set rb y ++ t := fun x y t => by rw [List.set_append_left _ _ (by simpa using hbl), set_set']
  have hwd : ∀ p, HWF h → HWF (h.set rb (rdB l p d)) := fun p hh => hh.set wf_rdB
  generalize hR : VaO h rb d l o = R
  simp [c65, r65]
  refine FF_by (ok66 (h ++ [.cells 5 [.agg nilD]]) rb a d l (get_pre hb _) ha (by omega)) ?_
  rw [hsa]
  have hnl := nb_le (l.drop a)
  simp at hnl
  obtain ⟨p, hp⟩ : ∃ p, p = a + nb (l.drop a) := ⟨_, rfl⟩
  have hdd : (l.drop a).drop (nb (l.drop a)) = l.drop p := by rw [List.drop_drop, hp]
  rw [← hp]
  rw [ValT, hdd] at hv0
  rcases hv0 with ⟨hnil, rfl⟩ | ⟨r2, h34, hJ⟩
  · have hpl : p = l.length := by
      have := congrArg List.length hnil
      simp at this
      omega
    have hlI : (l.length : Int) ≤ (p : Int) := by omega
    simp [hga, hgv, hsv, rdB, hlI, nilD]
    subst hR
    refine REr_by (.tup [.agg [.p (.int .u8 0), .p (.bool false), .p (.string ⟨#[]⟩), .p (.slice none 0 0), .p (.slice none 0 0)], .p (.bool false)]) (h.set rb (rdB l p d)) (WkV.drop (by simp) (hwd p) (by simp)) ?_
    exact ⟨_, _, p, by omega, rfl, rfl⟩
  · obtain ⟨hlt, _, hc, ht⟩ := drop_cons h34
    have hlI : ¬ (l.length : Int) ≤ (p : Int) := by omega
    have e5 : l[p].toNat = 34 := by rw [hc]; rfl
    simp [hga, hgv, hsv, rdB, hlI, hlt, e5, nilD]
    rw [← rdB]
    refine FF_byR (ok79 _ rb p d l o (hga _ _) hlt hl (by rw [ht]; exact hJ)) ?_
    intro v h1 hv
    obtain ⟨x, ok, q, hpq, hql, rfl, rfl, hfin⟩ : ∃ (x : List UInt8) (ok : Bool) (q : Nat), p ≤ q ∧ q ≤ l.length ∧ v = .tup [.p (.string (txt x)), .p (.bool ok)] ∧ h1 = (h.set rb (rdB l p d) ++ [Blk.cells 5 [.agg [.p (.int .u8 34), .p (.bool true), .p (.string ⟨#[]⟩), .p (.slice none 0 0), .p (.slice none 0 0)]]]).set rb (rdB l q d)
        ∧ ∀ b, VaO h rb d l o (.tup [.agg (txD b x), .p (.bool ok)]) (h.set rb (rdB l q d)) := by
      cases o with
      | none =>
        obtain ⟨q, hpq, hql, rfl, rfl⟩ := hv
        exact ⟨[], false, q, hpq, hql, rfl, rfl, fun b => ⟨_, b, q, hql, rfl, rfl⟩⟩
      | some o =>
        obtain ⟨x, t⟩ := o
        obtain ⟨rfl, rfl⟩ := hv
        have := (hJ.suffix x t rfl).1.length_le
        have hr2 : r2.length + p + 1 = l.length := by rw [← ht]; simp; omega
        exact ⟨x, true, l.length - t.length, by omega, by omega, rfl, rfl, fun b => ⟨b, rfl, rfl⟩⟩
    rw [hss]
    generalize hm : (l.drop p).take (q - p) = m
    have hml : m.length ≤ l.length := by rw [← hm]; simp; omega
    have hqI : ¬ (q : Int) < (p : Int) := by omega
    have hqI2 : ¬ (l.length : Int) < (q : Int) := by omega
    simp [hga, hgv, hsv, rdB, hm]
    refine ⟨hpq, hql, ?_⟩
    rw [← rdB]
    refine VV_fam (fun q2 : Nat × Bool => ⟨fr 107 [(0, .ptr rb 0 0 1), (2, .ptr h.length 0 0 1), (3, .p (.bool ok)), (67, .fz 1 (bts m)), (68, .p (.int .i64 m.length)), (69, .p (.int .i64 q2.1))], h.set rb (rdB l q d) ++ [.cells 5 [.agg (txD q2.2 x)]]⟩)
      (fun q2 => q2.1 ≤ m.length) (fun q2 => m.length - q2.1) (0, true) (by simp) (Wk.fits (by simp [txD])) ?_
    rintro ⟨i, b⟩ hi B hbk he hr
    simp only at hi
    by_cases hlt2 : i < m.length
    · have hltI : (i : Int) < (m.length : Int) := by omega
      have e6 : (bts m)[i]?.getD .any = .p (.int .u8 m[i].toNat) := bts_get hlt2
      have e4 : IntKind.i64.wrap ((i : Int) + 1) = ((i + 1 : Nat) : Int) := wrap_succ hlt2 (by omega)
      cases b with
      | false =>
        simp [hltI, hlt2, e6, e4, hgv, hsv, txD]
        refine hbk _ (i + 1, false) (Wk.fits (by simp [txD])) hlt2 (by dsimp only; omega)
      | true =>
        simp [hltI, hlt2, e6, e4, hgv, hsv, txD]
        refine hbk _ (i + 1, (m[i].toNat : Int) != 92) (Wk.fits (by simp [txD])) hlt2 (by dsimp only; omega)
    · have : i = m.length := by omega
      subst this
      simp
      refine he _ _ ?_
      simp [hgv, hsv, txD]
      subst hR
      refine REr_by _ _ ?_ (hfin b)
      exact WkV.drop (by simp) (hwd q) (by simp [txD])
end Go.Proofs.YtppjcnaffphakaaGreatDoor
