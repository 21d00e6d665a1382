/- Parameters: names and values as bytes. -/
import Derived.Test.YtbbafeocmchlnaaCodM
set_option linter.unusedVariables false
set_option linter.unusedSimpArgs false
set_option maxRecDepth 100000
namespace Go.Proofs.Ytbbafeocmchlnaa
open Go Go.Den Go.Proofs

abbrev Par := List UInt8 × List UInt8
def parD (x : Par) : DV := .agg [.p (.string (txt x.1)), .p (.string (txt x.2))]
def pars (l : List Par) : List DV := l.map parD
@[simp] theorem pars_length (l : List Par) : (pars l).length = l.length := by simp [pars]
@[simp] theorem pars_getElem {l : List Par} {i : Nat} (h : i < (pars l).length) : (pars l)[i] = parD (l[i]'(by simpa using h)) := by simp [pars]
theorem pars_get {l : List Par} {i : Nat} (h : i < l.length) : (pars l)[i]? = some (parD l[i]) := by simp [pars, h]
theorem pars_plain (l : List Par) : plainL (pars l) := plainL.mapP fun x => rfl
@[simp] theorem pars_WF {B : Nat → Prop} {sz : Nat} (l : List Par) : WF B (.fz sz (pars l)) = True := eq_true (WF_plain (pars_plain l))
theorem pars_push (l : List Par) (x : Par) : pars (l ++ [x]) = pars l ++ [parD x] := by simp [pars]

theorem shaped_par {d : DV} (h : Shaped (.st [(1, .str), (1, .str)]) d) : ∃ x : Par, d = parD x ∧ x.1.length ≤ maxLen ∧ x.2.length ≤ maxLen := by
  cases h with
  | @st _ ds hl h hc =>
    match ds, hl with
    | [a, b], _ =>
      have h0 := h 0 (by simp) (by simp)
      have h1 := h 1 (by simp) (by simp)
      cases h0 with
      | @str s hs =>
        cases h1 with
        | @str t ht => 
          refine ⟨(s.data.toList, t.data.toList), ?_, by simpa using hs, by simpa using ht⟩
          have e1 := txt_of s
          have e2 := txt_of t
          simp only [parD, ← e1, ← e2]
          rfl
theorem shaped_pars {d : DV} (h : Shaped (.sl 2 (.st [(1, .str), (1, .str)])) d) : ∃ l : List Par, d = .fz 2 (pars l) ∧ l.length ≤ maxLen ∧ ∀ x, x ∈ l → x.1.length ≤ maxLen ∧ x.2.length ≤ maxLen := by
  cases h with
  | @sl _ _ l hl h =>
    have : ∃ l' : List Par, l = pars l' ∧ ∀ x, x ∈ l' → x.1.length ≤ maxLen ∧ x.2.length ≤ maxLen := by
      clear hl
      induction l with
      | nil => exact ⟨[], rfl, by simp⟩
      | cons d l ih =>
        obtain ⟨l', h1, h2⟩ := ih fun d hd => h d (by simp [hd])
        obtain ⟨x, rfl, h3⟩ := shaped_par (h d (by simp))
        exact ⟨x :: l', by simp [pars, h1], fun y hy => by
          rcases List.mem_cons.1 hy with rfl | hy
          · exact h3
          · exact h2 y hy⟩
    obtain ⟨l', rfl, h2⟩ := this
    exact ⟨l', rfl, by simpa using hl, h2⟩

/-! Sizes. -/
def fit2 (x : Par) : Bool := decide (x.1.length ≤ 2147483647) && decide (x.2.length ≤ 2147483647)
theorem ok55 {G : Nat → DV} (h : List Blk) (x : Par) : Ok Try.prog G 55 [parD x] h (.p (.bool (fit2 x))) h := by
  refine Ok_by Try.func55 c55_ok r55_ok 12 rfl ?_
  simp [c55, r55, parD]
  refine VV_fam (fun i : Nat => ⟨fr 13 [(0, parD x), (1, .ptr h.length 0 0 1), (5, parD x), (6, .p (.int .i64 i))], h ++ [.cells 2 [parD x]]⟩)
    (fun i => i ≤ 2 ∧ (1 ≤ i → x.1.length ≤ 2147483647) ∧ (2 ≤ i → x.2.length ≤ 2147483647)) (fun i => 2 - i) 0 ⟨by simp, by simp, by simp⟩ (Wk.fits (by simp [parD])) ?_
  rintro i ⟨h1, h2, h3⟩ B hb he hr
  simp [parD]
  refine CC_by (fun hc => ?_) (fun hc => ?_)
  · have hc : i < 2 := by simp at hc; omega
    obtain rfl | rfl : i = 0 ∨ i = 1 := by omega
    · simp
      refine CC_by (fun hd => ?_) (fun hd => ?_)
      · have hd : ¬ x.1.length ≤ 2147483647 := by simp at hd; omega
        simp
        refine hr _ ?_
        simp [fit2, hd]
      · have hd : x.1.length ≤ 2147483647 := by simp at hd; omega
        simp [show IntKind.i64.wrap 1 = 1 from by decide]
        exact hb _ 1 (Wk.fits (by simp [parD])) ⟨by simp, by simpa using hd, by simp⟩ (by simp)
    · simp
      refine CC_by (fun hd => ?_) (fun hd => ?_)
      · have hd : ¬ x.2.length ≤ 2147483647 := by simp at hd; omega
        simp
        refine hr _ ?_
        simp [fit2, hd]
      · have hd : x.2.length ≤ 2147483647 := by simp at hd; omega
        simp [show IntKind.i64.wrap (1 + 1) = 2 from by decide]
        exact hb _ 2 (Wk.fits (by simp [parD, show IntKind.i64.wrap 2 = 2 from by decide])) ⟨by simp, fun _ => h2 (by simp), fun _ => hd⟩ (by simp)
  · have hc : i = 2 := by simp at hc; omega
    subst hc
    simp
    refine he _ _ ?_
    have e1 := h2 (by simp)
    have e2 := h3 (by simp)
    simp [fit2, e1, e2]

theorem ok18 {G : Nat → DV} (h : List Blk) (l : List Par) (hl : l.length ≤ maxLen) : Ok Try.prog G 18 [.fz 2 (pars l)] h (.p (.bool (decide (l.length ≤ 2147483647) && l.all fit2))) h := by
  refine Ok_by Try.func18 c18_ok r18_ok 17 rfl ?_
  simp [c18, r18]
  refine CC_by (fun hc => ?_) (fun hc => ?_)
  · have hc : ¬ l.length ≤ 2147483647 := by simp at hc; omega
    simp [hc]
  · have hc : l.length ≤ 2147483647 := by simp at hc; omega
    simp
    refine VV_fam (fun x : Nat × List Blk => ⟨fr 18 [(8, .fz 2 (pars l)), (9, .p (.int .i64 l.length)), (10, .p (.int .i64 x.1))], x.2⟩)
      (fun x => x.1 ≤ l.length ∧ (l.take x.1).all fit2 = true ∧ HPre h x.2) (fun x => l.length - x.1) (0, h) ⟨Nat.zero_le _, by simp, HPre.refl h⟩ (Wk.fits (by simp)) ?_
    rintro ⟨i, h'⟩ ⟨hi, hal, hp⟩ B hb he hr
    simp only at hi hal hp
    simp
    refine CC_by (fun h1 => ?_) (fun h1 => ?_)
    · have h1 : i < l.length := by simpa using h1
      have htk : l.take (i + 1) = l.take i ++ [l[i]] := by rw [List.take_add_one, List.getElem?_eq_getElem h1]; rfl
      have hw : IntKind.i64.wrap ((i : Int) + 1) = ((i + 1 : Nat) : Int) := wrap_succ (n := l.length) h1 (by omega)
      simp [h1, pars_get h1, parD]
      refine FF_by (ok55 _ l[i]) ?_
      simp
      cases hf : fit2 l[i]
      · simp
        refine hr _ ?_
        have : l.all fit2 = false := by
          rw [List.all_eq_false]
          exact ⟨l[i], List.getElem_mem _, by simp [hf]⟩
        simp [this]
        exact WkV.ofPure (hp.trans (by simp)) rfl
      · simp [hw]
        refine hb _ (i + 1, _) (Wk.fits (by simp)) ⟨h1, ?_, hp.trans (HPre.append _ _)⟩ (by simp; omega)
        show (l.take (i + 1)).all fit2 = true
        rw [htk, List.all_append, hal, List.all_cons, hf]; rfl
    · have h1 : i = l.length := by simp at h1; omega
      subst h1
      rw [List.take_length] at hal
      simp
      refine he _ _ ?_
      simp [hal, hc]
      exact WkV.ofPure hp rfl

end Go.Proofs.Ytbbafeocmchlnaa
