/- Lists of ints. -/
import Derived.Test.YtdgnjngbheecnaaCodY
set_option linter.unusedVariables false
set_option linter.unusedSimpArgs false
set_option maxRecDepth 100000
set_option maxHeartbeats 4000000
namespace Go.Proofs.Ytdgnjngbheecnaa
open Go Go.Den Go.Proofs

/-- Ints, as values. -/
def ints (l : List Int) : List DV := l.map fun s => .p (.int .i64 s)
@[simp] theorem ints_length {l : List Int} : (ints l).length = l.length := by simp [ints]
@[simp] theorem ints_nil : ints [] = [] := rfl
theorem ints_push {a : List Int} {s : Int} : ints a ++ [DV.p (.int .i64 s)] = ints (a ++ [s]) := by simp [ints]
@[simp] theorem ints_getElem {l : List Int} {i : Nat} (h : i < (ints l).length) : (ints l)[i] = .p (.int .i64 (l[i]'(by simpa using h))) := by simp [ints]
theorem ints_get {l : List Int} {i : Nat} (h : i < l.length) : (ints l)[i]?.getD .any = .p (.int .i64 l[i]) := by simp [ints, h]
@[simp] theorem ints_take {l : List Int} {n : Nat} : (ints l).take n = ints (l.take n) := by simp [ints]
@[simp] theorem ints_drop {l : List Int} {n : Nat} : (ints l).drop n = ints (l.drop n) := by simp [ints]
@[simp] theorem ints_plain {l : List Int} : plainL (ints l) := plainL.map
@[simp] theorem ints_eq_nil {l : List Int} : ints l = [] ↔ l = [] := by simp [ints]
@[simp] theorem WF_ints {B : Nat → Prop} {sz : Nat} {l : List Int} : WF B (.fz sz (ints l)) = True := eq_true (WF_plain ints_plain)
theorem shaped_ints {d : DV} (h : Shaped (.sl 1 (.int .i64)) d) : ∃ l : List Int, d = .fz 1 (ints l) ∧ l.length ≤ maxLen := by
  cases h with
  | @sl _ _ l hl h =>
    have : ∃ l' : List Int, l = ints l' := by
      clear hl
      induction l with
      | nil => exact ⟨[], rfl⟩
      | cons d l ih =>
        obtain ⟨l', h1⟩ := ih fun d hd => h d (by simp [hd])
        have h3 := h d (by simp)
        cases h3 with
        | @int _ s hs => exact ⟨s :: l', by simp [ints, h1]⟩
    obtain ⟨l', rfl⟩ := this
    exact ⟨l', rfl, by simpa using hl⟩
def setHas (l : List Int) (s : Int) : Bool := l.any fun x => decide (x = s)

theorem ok25 {G : Nat → DV} (h : List Blk) (l : List Int) (s : Int) (hl : l.length ≤ maxLen) : Ok Try.prog G 25 [.fz 1 (ints l), .p (.int .i64 s)] h (.p (.bool (setHas l s))) h := by
  refine Ok_by Try.func25 c25_ok r25_ok 15 rfl ?_
  simp [c25, r25]
  refine VV_fam (fun i : Nat => ⟨fr 17 [(0, .fz 1 (ints l)), (1, .p (.int .i64 s)), (7, .fz 1 (ints l)), (8, .p (.int .i64 l.length)), (9, .p (.int .i64 i))], h⟩)
    (fun i => i ≤ l.length ∧ setHas (l.take i) s = false) (l.length - ·) 0 (by simp [setHas]) (Wk.fits (by simp)) ?_
  intro i hi B hb he hr
  obtain ⟨hi, hall⟩ := hi
  simp
  refine CC_by (fun h2 => ?_) (fun h2 => ?_)
  · have hi' : i < l.length := by simpa using h2
    simp [hi']
    refine CC_by (fun h3 => ?_) (fun h3 => ?_)
    · simp
      refine hr _ ?_
      simp
      have : setHas l s = true := by
        simp [setHas]
        simp at h3
        rw [← h3]
        exact List.getElem_mem _
      simp [this]
    · simp [wrap_succ hi' hl]
      refine hb _ (i + 1) (Wk.fits (by simp)) ⟨hi', ?_⟩ (by omega)
      rw [List.take_succ_eq_append_getElem hi', setHas, List.any_append, ← setHas, hall]
      simpa using h3
  · have : i = l.length := by simp at h2; omega
    subst this
    simp
    refine he _ _ ?_
    simp at hall
    simp [hall]

def addNew (out : List Int) (s : Int) : List Int := if setHas out s = true then out else out ++ [s]
theorem addNew_length (L : List Int) : (L.foldl addNew []).length ≤ L.length := by
  have : ∀ (L out : List Int), (L.foldl addNew out).length ≤ out.length + L.length := by
    intro L
    induction L with
    | nil => intro out; simp
    | cons s L ih =>
      intro out
      have := ih (addNew out s)
      have h2 : (addNew out s).length ≤ out.length + 1 := by unfold addNew; split <;> simp
      simp only [List.foldl_cons, List.length_cons]
      omega
  simpa using this L []


end Go.Proofs.Ytdgnjngbheecnaa
