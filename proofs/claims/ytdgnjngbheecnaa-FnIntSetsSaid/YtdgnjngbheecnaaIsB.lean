/- Sets of ints. -/
import Derived.Test.YtdgnjngbheecnaaIsA
set_option linter.unusedVariables false
set_option linter.unusedSimpArgs false
set_option maxRecDepth 100000
set_option maxHeartbeats 4000000
namespace Go.Proofs.Ytdgnjngbheecnaa
open Go Go.Den Go.Proofs

/-- A set of texts, as a map's entries. -/
def smap (ks : List Int) : List (Value × DV) := ks.map fun k => (.int .i64 k, .agg [])
@[simp] theorem smap_length {ks : List Int} : (smap ks).length = ks.length := by simp [smap]
@[simp] theorem smap_nil : smap [] = [] := rfl
theorem mfind_smap (s : Int) : ∀ (ks : List Int) (i : Nat), ∃ r, mfind .int (.int .i64 s) (smap ks) i = some r ∧ (r = none → setHas ks s = false) ∧ ∀ j, r = some j → setHas ks s = true ∧ i ≤ j ∧ ∃ hj : j - i < ks.length, ks[j - i] = s
  | [], i => ⟨none, rfl, fun _ => rfl, fun j h => by cases h⟩
  | k :: ks, i => by
    obtain ⟨r, h1, h2, h3⟩ := mfind_smap s ks (i + 1)
    by_cases hk : s = k
    · subst hk
      refine ⟨some i, by simp [smap, mfind, keyEq], fun h => (by cases h), fun j h => ?_⟩
      cases h
      exact ⟨by simp [setHas], Nat.le_refl _, by simp, by simp⟩
    · have hk' : ¬ k = s := fun h => hk h.symm
      refine ⟨r, by simpa [smap, mfind, keyEq, show (s == k) = false by simpa using hk] using h1, fun h => by have := h2 h; simpa [setHas, hk'] using this, fun j h => ?_⟩
      obtain ⟨g1, g2, g3, g4⟩ := h3 j h
      refine ⟨by simp [setHas] at g1 ⊢; exact .inr g1, by omega, by simp; omega, ?_⟩
      have : j - i = (j - (i + 1)) + 1 := by omega
      simp only [this, List.getElem_cons_succ]
      exact g4
theorem mput_smap {s : Int} {ks : List Int} {r : Option Nat} (h : mfind .int (.int .i64 s) (smap ks) 0 = some r) : mput (smap ks) (.int .i64 s) (.agg []) r = smap (addNew ks s) := by
  obtain ⟨r', h1, h2, h3⟩ := mfind_smap s ks 0
  rw [h1] at h
  cases h
  cases r with
  | none => simp [mput, addNew, h2 rfl, smap]
  | some j =>
    obtain ⟨g1, g2, g3, g4⟩ := h3 j rfl
    simp only [Nat.sub_zero] at g3 g4
    simp only [mput, addNew, g1, if_true]
    apply List.ext_getElem (by simp)
    intro i hi hi'
    rw [List.getElem_set]
    split
    · subst_vars
      simp [smap]
    · rfl

theorem ok139 {G : Nat → DV} (h : List Blk) : Ok Try.prog G 139 [] h (.mp h.length) (h ++ [.map (smap [])]) := by
  refine Ok_by Try.func139 c139_ok r139_ok 2 rfl ?_
  simp [c139, r139]
  exact .refl
theorem ok113 {G : Nat → DV} (h : List Blk) (b : Nat) (ks : List Int) (s : Int) (hb : h[b]? = some (.map (smap ks))) (hn : noIter h b) : Ok Try.prog G 113 [.mp b, .p (.int .i64 s)] h (.tup []) (h.set b (.map (smap (addNew ks s)))) := by
  refine Ok_by Try.func113 c113_ok r113_ok 5 rfl ?_
  obtain ⟨r, h1, _, _⟩ := mfind_smap s ks 0
  simp [c113, r113, hb, h1, hn, mput_smap h1]
  exact .refl
theorem ok52 {G : Nat → DV} (h : List Blk) (b : Nat) (ks : List Int) (s : Int) (hb : h[b]? = some (.map (smap ks))) (hn : noIter h b) : Ok Try.prog G 52 [.mp b, .p (.int .i64 s)] h (.tup []) (h.set b (.map (smap (addNew ks s)))) := by
  refine Ok_by Try.func52 c52_ok r52_ok 5 rfl ?_
  simp [c52, r52]
  refine FF_by (ok113 h b ks s hb hn) ?_
  simp
  exact .refl
theorem ok123 {G : Nat → DV} (h : List Blk) (b : Nat) (ks : List Int) (hb : h[b]? = some (.map (smap ks))) : Ok Try.prog G 123 [.mp b] h (.p (.bool (decide (ks = [])))) h := by
  refine Ok_by Try.func123 c123_ok r123_ok 5 rfl ?_
  simp [c123, r123, hb]
  cases ks <;> simp
  exact .refl
theorem ok64 {G : Nat → DV} (h : List Blk) (b : Nat) (ks : List Int) (hb : h[b]? = some (.map (smap ks))) : Ok Try.prog G 64 [.mp b] h (.p (.bool (decide (ks = [])))) h := by
  refine Ok_by Try.func64 c64_ok r64_ok 4 rfl ?_
  simp [c64, r64]
  refine FF_by (ok123 h b ks hb) ?_
  simp


theorem smap_get {ks : List Int} {j : Nat} (hj : j < ks.length) : (smap ks)[j]?.getD default = (.int .i64 ks[j], .agg []) := by simp [smap, hj]
theorem smap_wf {B : Nat → Prop} {ks : List Int} : (Blk.map (smap ks)).wf B := by
  intro j hj
  simp [smap]
theorem mem_addNew {ks : List Int} {s y : Int} : y ∈ addNew ks s ↔ y ∈ ks ∨ y = s := by
  unfold addNew
  split
  · rename_i h
    simp [setHas] at h
    constructor
    · exact .inl
    · rintro (h1 | rfl)
      · exact h1
      · exact h
  · simp
/-- One list has nothing that the other one hasn't, and they are of one length. -/
def evEq (a b : List Int) : Bool := decide (a.length = b.length) && a.all fun x => setHas b x

theorem mem_foldl {ks y} : ∀ {L : List Int} , y ∈ L.foldl addNew ks ↔ y ∈ ks ∨ y ∈ L := by
  intro L
  induction L generalizing ks with
  | nil => simp
  | cons s L ih => simp [List.foldl_cons, ih, mem_addNew, or_assoc]


end Go.Proofs.Ytdgnjngbheecnaa
