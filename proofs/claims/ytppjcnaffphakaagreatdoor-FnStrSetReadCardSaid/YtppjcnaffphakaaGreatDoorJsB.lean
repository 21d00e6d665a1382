/- JSON: the reader's small functions. (turned from another seat by mkpu.py) -/
import Derived.Test.YtppjcnaffphakaaGreatDoorCodB
import Derived.Test.YtppjcnaffphakaaGreatDoorJsA
import Derived.Test.YtppjcnaffphakaaGreatDoorLibE
set_option linter.unusedVariables false
set_option linter.unusedSimpArgs false
set_option maxRecDepth 100000
set_option maxHeartbeats 4000000
namespace Go.Proofs.YtppjcnaffphakaaGreatDoor
open Go Go.Den Go.Proofs

/-- The reader: its bytes, its place, how deep it is. -/
def rdB (l : List UInt8) (a d : Nat) : Blk := .cells 3 [.agg [.fz 1 (bts l), .p (.int .i64 a), .p (.int .i64 d)]]

theorem isB_cases (c : UInt8) : c.toNat = 32 ∨ c.toNat = 9 ∨ c.toNat = 10 ∨ c.toNat = 13 ∨ (c.toNat ≠ 32 ∧ c.toNat ≠ 9 ∧ c.toNat ≠ 10 ∧ c.toNat ≠ 13) := by omega

theorem isB_eq (c : UInt8) : isB c = (decide (c.toNat = 32) || decide (c.toNat = 9) || decide (c.toNat = 10) || decide (c.toNat = 13)) := by
  have h : ∀ k : UInt8, (c == k) = decide (c.toNat = k.toNat) := fun k => by
    by_cases hk : c = k
    · subst hk; simp
    · have : ¬ c.toNat = k.toNat := fun h => hk (UInt8.toNat_inj.1 h)
      simp [hk, this]
  simp only [isB, h]
  rfl

theorem nb_cons (c : UInt8) (r : List UInt8) : nb (c :: r) = if isB c = true then nb r + 1 else 0 := by
  simp only [nb, List.takeWhile_cons]
  split <;> simp

theorem set_set' {h : List Blk} {b : Nat} {x y : Blk} : (h.set b x).set b y = h.set b y := by simp

theorem ok66 {G : Nat → DV} (h : List Blk) (rb a d : Nat) (l : List UInt8) (hb : h[rb]? = some (rdB l a d)) (ha : a ≤ l.length) (hl : l.length ≤ 140737488351232) :
    Ok Tryz.prog G 66 [.ptr rb 0 0 1] h (.tup []) (h.set rb (rdB l (a + nb (l.drop a)) d)) := by
  refine Ok_by Tryz.func66 c66_ok r66_ok 70 rfl ?_
  have hbl : rb < h.length := (List.getElem?_eq_some_iff.1 hb).1
  simp [c66, r66]
  refine VV_fam (fun i : Nat => ⟨fr 71 [(0, .ptr rb 0 0 1)], h.set rb (rdB l i d)⟩)
    (fun i => a ≤ i ∧ i ≤ l.length ∧ i + nb (l.drop i) = a + nb (l.drop a)) (fun i => l.length - i) a ⟨Nat.le_refl _, ha, rfl⟩ ?_ ?_
  · rw [show h.set rb (rdB l a d) = h from ?_]
    · exact Wk.fits (by simp)
    · obtain ⟨h1, h2⟩ := List.getElem?_eq_some_iff.1 hb
      rw [← h2]; exact List.set_getElem_self h1
  rintro i ⟨hai, hil, heq⟩ B hbk he hr
  have hg : (h.set rb (rdB l i d))[rb]? = some (rdB l i d) := by simp [hbl]
  by_cases hlt : i < l.length
  · have hd : l.drop i = l[i] :: l.drop (i + 1) := List.drop_eq_getElem_cons hlt
    have e5 : (bts l)[i]?.getD .any = .p (.int .u8 l[i].toNat) := bts_get hlt
    have hltI : (i : Int) < (l.length : Int) := by omega
    have e4 : IntKind.i64.wrap ((i : Int) + 1) = ((i + 1 : Nat) : Int) := wrap_succ hlt (by omega)
    have hnb := nb_cons l[i] (l.drop (i + 1))
    rw [← hd, isB_eq] at hnb
    rcases isB_cases l[i] with hc | hc | hc | hc | ⟨c1, c2, c3, c4⟩
    · simp [hg, rdB, e5, hc, hltI, hlt, hbl, e4]
      simp [hc] at hnb
      exact hbk _ (i + 1) (Wk.fits (by simp)) ⟨by omega, by omega, by omega⟩ (by omega)
    · simp [hg, rdB, e5, hc, hltI, hlt, hbl, e4]
      simp [hc] at hnb
      exact hbk _ (i + 1) (Wk.fits (by simp)) ⟨by omega, by omega, by omega⟩ (by omega)
    · simp [hg, rdB, e5, hc, hltI, hlt, hbl, e4]
      simp [hc] at hnb
      exact hbk _ (i + 1) (Wk.fits (by simp)) ⟨by omega, by omega, by omega⟩ (by omega)
    · simp [hg, rdB, e5, hc, hltI, hlt, hbl, e4]
      simp [hc] at hnb
      exact hbk _ (i + 1) (Wk.fits (by simp)) ⟨by omega, by omega, by omega⟩ (by omega)
    · have f1 : ((l[i].toNat : Int) == 32) = false := by simp; omega
      have f2 : ((l[i].toNat : Int) == 9) = false := by simp; omega
      have f3 : ((l[i].toNat : Int) == 10) = false := by simp; omega
      have f4 : ((l[i].toNat : Int) == 13) = false := by simp; omega
      simp [hg, rdB, e5, f1, f2, f3, f4, hltI, hlt, hbl]
      simp [c1, c2, c3, c4] at hnb
      refine he _ _ ?_
      simp
      rw [hnb] at heq
      rw [show i = a + nb (l.drop a) by omega]
      exact WkV.refl
  · have hi : i = l.length := by omega
    have hltI : ¬ (i : Int) < (l.length : Int) := by omega
    simp [hg, rdB, hltI, hlt, hbl]
    refine he _ _ ?_
    simp
    have h0 : nb (l.drop i) = 0 := by rw [hi]; simp [nb]
    rw [h0] at heq
    rw [show i = a + nb (l.drop a) by omega]
    exact WkV.refl
theorem rd_same {h : List Blk} {rb : Nat} {x : Blk} (hb : h[rb]? = some x) : h.set rb x = h := by
  obtain ⟨h1, h2⟩ := List.getElem?_eq_some_iff.1 hb
  rw [← h2]; exact List.set_getElem_self h1

theorem ok80 {G : Nat → DV} (h : List Blk) (rb a d : Nat) (l : List UInt8) (c : UInt8) (hb : h[rb]? = some (rdB l a d)) (ha : a ≤ l.length) (hl : l.length ≤ 140737488351232) :
    Ok Tryz.prog G 80 [.ptr rb 0 0 1, .p (.string (txt [c]))] h (.p (.bool (decide ((l.drop a).head? = some c)))) (h.set rb (rdB l (if (l.drop a).head? = some c then a + 1 else a) d)) := by
  refine Ok_by Tryz.func80 c80_ok r80_ok 46 rfl ?_
  have hbl : rb < h.length := (List.getElem?_eq_some_iff.1 hb).1
  have hgs : ∀ x, (h.set rb x)[rb]? = some x := fun x => by simp [hbl]
  by_cases hlt : a < l.length
  · have hd : l.drop a = l[a] :: l.drop (a + 1) := List.drop_eq_getElem_cons hlt
    have e4 : IntKind.i64.wrap ((a : Int) + 1) = ((a + 1 : Nat) : Int) := wrap_succ hlt (by omega)
    have f1 : ¬ (l.length : Int) < (a : Int) + 1 := by omega
    have e6 : (l.drop a).take 1 = [l[a]] := by rw [hd]; rfl
    have e7 : (l.take (a + 1)).drop a = [l[a]] := by
      rw [List.take_succ_eq_append_getElem hlt, List.drop_append_of_le_length (by simp; omega), List.drop_of_length_le (by simp)]
      rfl
    have e8 : (l.drop a).head? = some l[a] := by rw [hd]; rfl
    rw [e8]
    by_cases hc : l[a] = c
    · have e9 : ((⟨((l.drop a).take 1).toArray⟩ : ByteArray) = txt [c]) = True := by rw [e6, hc]; simp [txt]
      simp [c80, r80, hb, rdB, e4, f1, e9, hc, hgs]
      exact ⟨by omega, WkV.refl⟩
    · have e9 : ((⟨((l.drop a).take 1).toArray⟩ : ByteArray) = txt [c]) = False := by rw [e6]; simp [txt, hc]
      simp [c80, r80, hb, rdB, e4, f1, e9, hc, hgs]
      rw [← rdB, rd_same hb]
      exact ⟨by omega, WkV.refl⟩
  · have ha2 : a = l.length := by omega
    have e4 : IntKind.i64.wrap ((a : Int) + 1) = ((a + 1 : Nat) : Int) := by simp [IntKind.wrap, IntKind.bits, IntKind.signed]; omega
    have f1 : (l.length : Int) < (a : Int) + 1 := by omega
    have e8 : (l.drop a).head? = none := by rw [List.drop_of_length_le (by omega)]; rfl
    rw [e8]
    simp [c80, r80, hb, rdB, e4, f1]
    rw [← rdB, rd_same hb]
    exact WkV.refl
theorem rd_set {h : List Blk} {rb : Nat} {x : Blk} (hb : h[rb]? = some x) (y : Blk) : (h.set rb y)[rb]? = some y := by
  have := (List.getElem?_eq_some_iff.1 hb).1
  simp [this]

theorem ok40n {G : Nat → DV} (h : List Blk) (rb a d : Nat) (l : List UInt8) (c : UInt8) (hb : h[rb]? = some (rdB l a d)) (ha : a ≤ l.length) (hl : l.length ≤ 140737488351232) (hc : (l.drop a).head? ≠ some c) :
    Ok Tryz.prog G 80 [.ptr rb 0 0 1, .p (.string (txt [c]))] h (.p (.bool false)) h := by
  have := ok80 (G := G) h rb a d l c hb ha hl
  rw [if_neg hc, rd_same hb, decide_eq_false hc] at this
  exact this

theorem ok40y {G : Nat → DV} (h : List Blk) (rb a d : Nat) (l : List UInt8) (c : UInt8) (hb : h[rb]? = some (rdB l a d)) (ha : a ≤ l.length) (hl : l.length ≤ 140737488351232) (hc : (l.drop a).head? = some c) :
    Ok Tryz.prog G 80 [.ptr rb 0 0 1, .p (.string (txt [c]))] h (.p (.bool true)) (h.set rb (rdB l (a + 1) d)) := by
  have := ok80 (G := G) h rb a d l c hb ha hl
  rw [if_pos hc, decide_eq_true hc] at this
  exact this

theorem wf_rdB {B : Nat → Prop} {l : List UInt8} {a d : Nat} : (rdB l a d).wf B := fun j hj => by
  simp at hj
  subst hj
  simp
  exact WF_plain bts_plain

end Go.Proofs.YtppjcnaffphakaaGreatDoor
