/- Lists of ints. (turned from another seat by mkpu.py) -/
import Derived.Test.YtppjcnaffphakaaGreatDoorCodA
import Derived.Test.YtppjcnaffphakaaGreatDoorLibE
set_option linter.unusedVariables false
set_option linter.unusedSimpArgs false
set_option maxRecDepth 100000
set_option maxHeartbeats 4000000
namespace Go.Proofs.YtppjcnaffphakaaGreatDoor
open Go Go.Den Go.Proofs

/-- Ints, as values. -/
def ints (l : List Int) : List DV := l.map fun s => .p (.int .i64 s)
@[simp] theorem ints_length {l : List Int} : (ints l).length = l.length := by simp [ints]
@[simp] theorem ints_nil : ints [] = [] := rfl
theorem ints_push {a : List Int} {s : Int} : ints a ++ [DV.p (.int .i64 s)] = ints (a ++ [s]) := by simp [ints]
@[simp] theorem ints_getElem {l : List Int} {i : Nat} (h : i < (ints l).length) : (ints l)[i] = .p (.int .i64 (l[i]'(by simpa using h))) := by simp [ints]
theorem ints_get {l : List Int} {i : Nat} (h : i < l.length) : (ints l)[i]?.getD .any = .p (.int .i64 l[i]) := by simp [ints, h]
@[simp] theorem ints_take {l : List Int} {n : Nat} : (ints l).take n = ints (l.take n) := by simp [ints]
@[simp] theorem ints_drop {l : List Int} {n : Nat} : (ints l).drop n = ints (l.drop n) := by simp [ints]
@[simp] theorem ints_plain {l : List Int} : plainL (ints l) := plainL.map
@[simp] theorem ints_eq_nil {l : List Int} : ints l = [] ↔ l = [] := by simp [ints]
@[simp] theorem WF_ints {B : Nat → Prop} {sz : Nat} {l : List Int} : WF B (.fz sz (ints l)) = True := eq_true (WF_plain ints_plain)
theorem shaped_ints {d : DV} (h : Shaped (.sl 1 (.int .i64)) d) : ∃ l : List Int, d = .fz 1 (ints l) ∧ l.length ≤ maxLen := by
  cases h with
  | @sl _ _ l hl h =>
    have : ∃ l' : List Int, l = ints l' := by
      clear hl
      induction l with
      | nil => exact ⟨[], rfl⟩
      | cons d l ih =>
        obtain ⟨l', h1⟩ := ih fun d hd => h d (by simp [hd])
        have h3 := h d (by simp)
        cases h3 with
        | @int _ s hs => exact ⟨s :: l', by simp [ints, h1]⟩
    obtain ⟨l', rfl⟩ := this
    exact ⟨l', rfl, by simpa using hl⟩
def setHas (l : List Int) (s : Int) : Bool := l.any fun x => decide (x = s)

def addNew (out : List Int) (s : Int) : List Int := if setHas out s = true then out else out ++ [s]
theorem addNew_length (L : List Int) : (L.foldl addNew []).length ≤ L.length := by
  have : ∀ (L out : List Int), (L.foldl addNew out).length ≤ out.length + L.length := by
    intro L
    induction L with
    | nil => intro out; simp
    | cons s L ih =>
      intro out
      have := ih (addNew out s)
      have h2 : (addNew out s).length ≤ out.length + 1 := by unfold addNew; split <;> simp
      simp only [List.foldl_cons, List.length_cons]
      omega
  simpa using this L []

/-- A set of texts, as a map's entries. -/
def smap (ks : List Int) : List (Value × DV) := ks.map fun k => (.int .i64 k, .agg [])
@[simp] theorem smap_length {ks : List Int} : (smap ks).length = ks.length := by simp [smap]
@[simp] theorem smap_nil : smap [] = [] := rfl
theorem mfind_smap (s : Int) : ∀ (ks : List Int) (i : Nat), ∃ r, mfind .int (.int .i64 s) (smap ks) i = some r ∧ (r = none → setHas ks s = false) ∧ ∀ j, r = some j → setHas ks s = true ∧ i ≤ j ∧ ∃ hj : j - i < ks.length, ks[j - i] = s
  | [], i => ⟨none, rfl, fun _ => rfl, fun j h => by cases h⟩
  | k :: ks, i => by
    obtain ⟨r, h1, h2, h3⟩ := mfind_smap s ks (i + 1)
    by_cases hk : s = k
    · subst hk
      refine ⟨some i, by simp [smap, mfind, keyEq], fun h => (by cases h), fun j h => ?_⟩
      cases h
      exact ⟨by simp [setHas], Nat.le_refl _, by simp, by simp⟩
    · have hk' : ¬ k = s := fun h => hk h.symm
      refine ⟨r, by simpa [smap, mfind, keyEq, show (s == k) = false by simpa using hk] using h1, fun h => by have := h2 h; simpa [setHas, hk'] using this, fun j h => ?_⟩
      obtain ⟨g1, g2, g3, g4⟩ := h3 j h
      refine ⟨by simp [setHas] at g1 ⊢; exact .inr g1, by omega, by simp; omega, ?_⟩
      have : j - i = (j - (i + 1)) + 1 := by omega
      simp only [this, List.getElem_cons_succ]
      exact g4
theorem mput_smap {s : Int} {ks : List Int} {r : Option Nat} (h : mfind .int (.int .i64 s) (smap ks) 0 = some r) : mput (smap ks) (.int .i64 s) (.agg []) r = smap (addNew ks s) := by
  obtain ⟨r', h1, h2, h3⟩ := mfind_smap s ks 0
  rw [h1] at h
  cases h
  cases r with
  | none => simp [mput, addNew, h2 rfl, smap]
  | some j =>
    obtain ⟨g1, g2, g3, g4⟩ := h3 j rfl
    simp only [Nat.sub_zero] at g3 g4
    simp only [mput, addNew, g1, if_true]
    apply List.ext_getElem (by simp)
    intro i hi hi'
    rw [List.getElem_set]
    split
    · subst_vars
      simp [smap]
    · rfl

theorem ok70 {G : Nat → DV} (h : List Blk) (b : Nat) (ks : List Int) (s : Int) (hb : h[b]? = some (.map (smap ks))) (hn : noIter h b) : Ok Tryz.prog G 70 [.mp b, .p (.int .i64 s)] h (.tup []) (h.set b (.map (smap (addNew ks s)))) := by
  refine Ok_by Tryz.func70 c70_ok r70_ok 5 rfl ?_
  obtain ⟨r, h1, _, _⟩ := mfind_smap s ks 0
  simp [c70, r70, hb, h1, hn, mput_smap h1]
  exact .refl
theorem ok59 {G : Nat → DV} (h : List Blk) (b : Nat) (ks : List Int) (s : Int) (hb : h[b]? = some (.map (smap ks))) (hn : noIter h b) : Ok Tryz.prog G 59 [.mp b, .p (.int .i64 s)] h (.tup []) (h.set b (.map (smap (addNew ks s)))) := by
  refine Ok_by Tryz.func59 c59_ok r59_ok 5 rfl ?_
  simp [c59, r59]
  refine FF_by (ok70 h b ks s hb hn) ?_
  simp
  exact .refl
theorem smap_get {ks : List Int} {j : Nat} (hj : j < ks.length) : (smap ks)[j]?.getD default = (.int .i64 ks[j], .agg []) := by simp [smap, hj]
theorem smap_wf {B : Nat → Prop} {ks : List Int} : (Blk.map (smap ks)).wf B := by
  intro j hj
  simp [smap]
theorem mem_addNew {ks : List Int} {s y : Int} : y ∈ addNew ks s ↔ y ∈ ks ∨ y = s := by
  unfold addNew
  split
  · rename_i h
    simp [setHas] at h
    constructor
    · exact .inl
    · rintro (h1 | rfl)
      · exact h1
      · exact h
  · simp
/-- One list has nothing that the other one hasn't, and they are of one length. -/
def evEq (a b : List Int) : Bool := decide (a.length = b.length) && a.all fun x => setHas b x

theorem mem_foldl {ks y} : ∀ {L : List Int} , y ∈ L.foldl addNew ks ↔ y ∈ ks ∨ y ∈ L := by
  intro L
  induction L generalizing ks with
  | nil => simp
  | cons s L ih => simp [List.foldl_cons, ih, mem_addNew, or_assoc]

def less (x s : Int) : Bool := decide (x < s)
/-- Put in where it belongs. -/
def insT (s : Int) : List Int → List Int
  | [] => [s]
  | x :: xs => if less x s = true then x :: insT s xs else if x = s then x :: xs else s :: x :: xs
def setOf (l : List Int) : List Int := l.foldl (fun out s => insT s out) []

theorem insT_at (s : Int) : ∀ (out : List Int) (i : Nat), i ≤ out.length → (∀ x, x ∈ out.take i → less x s = true) → (∀ hi : i < out.length, less out[i] s = false) →
    insT s out = if h : i < out.length then (if out[i] = s then out else out.take i ++ s :: out.drop i) else out ++ [s]
  | [], i, hi, h1, h2 => by simp [insT]
  | x :: xs, 0, hi, h1, h2 => by
    have := h2 (by simp)
    simp at this
    simp [insT, this]
  | x :: xs, i + 1, hi, h1, h2 => by
    have hx : less x s = true := h1 x (by simp)
    have ih := insT_at s xs i (by simpa using hi) (fun y hy => h1 y (by simp [hy])) (fun hi => by
      have := h2 (by simpa using hi)
      rw [List.getElem_cons_succ] at this
      exact this)
    simp only [insT, hx, if_true, ih, List.length_cons, Nat.add_lt_add_iff_right, List.getElem_cons_succ, List.take_succ_cons, List.drop_succ_cons]
    split
    · split <;> simp
    · simp

theorem insT_length (s : Int) : ∀ out : List Int, (insT s out).length ≤ out.length + 1
  | [] => by simp [insT]
  | x :: xs => by
    have := insT_length s xs
    simp only [insT]
    split
    · simp; omega
    · split <;> simp

theorem setOf_length (L : List Int) : (setOf L).length ≤ L.length := by
  have : ∀ (L out : List Int), (L.foldl (fun out s => insT s out) out).length ≤ out.length + L.length := by
    intro L
    induction L with
    | nil => intro out; simp
    | cons s L ih =>
      intro out
      have := ih (insT s out)
      have h2 := insT_length s out
      simp only [List.foldl_cons, List.length_cons]
      omega
  have := this L []
  rw [List.length_nil, Nat.zero_add] at this
  exact this

theorem ok15 {G : Nat → DV} (h : List Blk) (L : List Int) (hL : L.length ≤ 1000) : Ok Tryz.prog G 15 [.fz 1 (ints L)] h (.fz 1 (ints (setOf L))) h := by
  refine Ok_by Tryz.func15 c15_ok r15_ok 50 rfl ?_
  simp [c15, r15]
  refine VV_fam (fun x : Nat × DV × List Blk => ⟨fr 51 [(3, x.2.1), (7, .fz 1 (ints L)), (8, .p (.int .i64 L.length)), (9, .p (.int .i64 x.1))], x.2.2⟩)
    (fun x => x.1 ≤ L.length ∧ Own h 1 x.2.2 x.2.1 (ints (setOf (L.take x.1)))) (fun x => L.length - x.1) (0, .p (.slice none 0 0), h) ⟨by simp, by simpa [setOf] using Own.nil⟩ (Wk.fits (by simp)) ?_
  rintro ⟨i, d, h'⟩ ⟨hi, ho⟩ B hb he hr
  simp only at hi ho
  simp
  refine CC_by (fun h2 => ?_) (fun h2 => ?_)
  · have hi' : i < L.length := by simpa using h2
    have hlen := setOf_length (L.take i)
    have hnext : setOf (L.take (i + 1)) = insT L[i] (setOf (L.take i)) := by rw [setOf, List.take_succ_eq_append_getElem hi', List.foldl_append]; rfl
    have hadd : IntKind.i64.wrap ((i : Int) + 1) = ((i + 1 : Nat) : Int) := wrap_succ hi' (by omega)
    simp at hlen
    simp [hi']
    generalize hO : setOf (L.take i) = O at ho hlen hnext
    generalize hs : L[i] = s at hnext
    rcases ho with ⟨hp, ⟨rfl, hO2⟩ | ⟨b, rfl, hbl, hbc⟩⟩
    · have hO3 : O = [] := by simpa using hO2
      subst hO3
      refine VV_fam (fun _ : Unit => ⟨fr 51 [(3, .p (.slice none 0 0)), (5, .p (.int .i64 s)), (6, .p (.int .i64 0)), (7, .fz 1 (ints L)), (8, .p (.int .i64 L.length)), (9, .p (.int .i64 i))], h'⟩)
        (fun _ => True) (fun _ => 0) () trivial (Wk.fits (by simp)) ?_
      rintro ⟨⟩ _ B' hb' he' hr'
      simp
      refine he' _ _ ?_
      simp [hadd, DA_raw]
      refine hb _ (i + 1, .sl (h'.length + 1) 0 1 1, _) (Wk.fits (by simp)) ⟨hi', ?_⟩ (by simp; omega)
      rw [hnext]
      exact ⟨hp.trans (HPre.append _ _), .inr ⟨h'.length + 1, by simp [insT], by have := hp.length; omega, by simp [insT, ints]⟩⟩
    · simp only [ints_length] at *
      refine VV_fam (fun j : Nat => ⟨fr 51 [(3, .sl b 0 O.length O.length), (5, .p (.int .i64 s)), (6, .p (.int .i64 j)), (7, .fz 1 (ints L)), (8, .p (.int .i64 L.length)), (9, .p (.int .i64 i))], h'⟩)
        (fun j => j ≤ O.length ∧ ∀ x, x ∈ O.take j → less x s = true) (fun j => O.length - j) 0 ⟨by simp, by simp⟩ (Wk.fits (by simp)) ?_
      rintro j ⟨hj, hjl⟩ B' hb' he' hr'
      rcases Nat.lt_or_ge j O.length with hjo | hjo
      · have hjo' : (j : Int) < O.length := by omega
        simp [hbc, hjo]
        refine CC_by (fun hl => ?_) (fun hl => ?_)
        · simp
          have hj1 : IntKind.i64.wrap ((j : Int) + 1) = ((j + 1 : Nat) : Int) := wrap_succ hjo (by omega)
          simp [hj1]
          refine hb' _ (j + 1) (Wk.fits (by simp)) ⟨hjo, fun x hx => ?_⟩ (by omega)
          rw [List.take_succ_eq_append_getElem hjo, List.mem_append, List.mem_singleton] at hx
          rcases hx with hx | rfl
          · exact hjl x hx
          · exact hl
        · have hins := insT_at s O j hj hjl (fun _ => hl)
          rw [dif_pos hjo] at hins
          simp
          refine he' _ _ ?_
          have hne : ((j : Int) == (O.length : Int)) = false := by simp; omega
          simp [hne, hbc, hjo]
          refine CC_by (fun hq => ?_) (fun hq => ?_)
          · have hq' : ¬ O[j] = s := by simpa using hq
            rw [if_neg hq'] at hins
            have e1 : 1 + (O.length - j) = O.length - j + 1 := by omega
            have e2 : List.take (O.length - j) (O.drop j) = O.drop j := List.take_of_length_le (by simp)
            have e3 : List.take (O.length - j + 1) (DV.p (Value.int .i64 s) :: ints (O.drop j)) = DV.p (Value.int .i64 s) :: ints (O.drop j) := List.take_of_length_le (by simp)
            have e4 : j ≠ O.length := by omega
            have e5 : O.length < j + (O.length - j + 1) := by omega
            simp [hbc, get_pre hbc, hadd, hj, e1, e2, e3, e4, e5, DA_raw]
            refine ⟨by omega, by omega, ?_⟩
            refine hb _ (i + 1, .sl b 0 (j + (O.length - j + 1)) (j + (O.length - j + 1)), _) (Wk.fits (by simp)) ⟨hi', ?_⟩ (by simp; omega)
            rw [hnext, hins]
            have hblt : b < (h' ++ [Blk.cells 1 (DV.p (Value.int .i64 s) :: ints (List.drop j O))]).length := by have := (List.getElem?_eq_some_iff.1 hbc).1; simp; omega
            have hl : (ints (O.take j ++ s :: O.drop j)).length = j + (O.length - j + 1) := by simp; omega
            refine ⟨HPre_set (hp.trans (HPre.append _ _)) hbl, .inr ⟨b, by rw [hl], hbl, ?_⟩⟩
            rw [List.getElem?_set_self hblt]; simp [ints]
          · have hq' : O[j] = s := by simpa using hq
            rw [if_pos hq'] at hins
            simp [hadd]
            refine hb _ (i + 1, .sl b 0 O.length O.length, _) (Wk.fits (by simp)) ⟨hi', ?_⟩ (by simp; omega)
            rw [hnext, hins]
            exact ⟨hp, .inr ⟨b, by simp, hbl, hbc⟩⟩
      · obtain rfl : j = O.length := by omega
        simp [hbc]
        refine he' _ _ ?_
        have hins := insT_at s O O.length (Nat.le_refl _) hjl (fun h => absurd h (Nat.lt_irrefl _))
        rw [dif_neg (Nat.lt_irrefl _)] at hins
        simp [hbc, get_pre hbc, hadd, DA_raw]
        refine ⟨by omega, ?_⟩
        refine hb _ (i + 1, .sl b 0 (O.length + 1) (O.length + 1), _) (Wk.fits (by simp)) ⟨hi', ?_⟩ (by simp; omega)
        rw [hnext, hins]
        have hblt : b < (h' ++ [Blk.cells 1 [DV.p (Value.int .i64 s)]]).length := by have := (List.getElem?_eq_some_iff.1 hbc).1; simp; omega
        refine ⟨HPre_set (hp.trans (HPre.append _ _)) hbl, .inr ⟨b, by simp, hbl, ?_⟩⟩
        simp [List.getElem?_set_self hblt, ints]
  · have : i = L.length := by simp at h2; omega
    subst this
    simp
    refine he _ _ ?_
    simp
    rw [List.take_length] at ho
    exact ho.wk ints_plain

theorem ok18 {G : Nat → DV} (h : List Blk) (a b : List Int) (ha : a.length ≤ maxLen) : Ok Tryz.prog G 18 [.fz 1 (ints a), .fz 1 (ints b)] h (.p (.bool (decide (a = b)))) h := by
  refine Ok_by Tryz.func18 c18_ok r18_ok 24 rfl ?_
  simp [c18, r18]
  refine CC_by (fun h1 => ?_) (fun h1 => ?_)
  · have : ¬ a = b := fun h => by subst h; simp at h1
    simp [this]
  have hab : a.length = b.length := by simp at h1; omega
  simp
  refine VV_fam (fun i : Nat => ⟨fr 26 [(0, .fz 1 (ints a)), (1, .fz 1 (ints b)), (12, .fz 1 (ints a)), (13, .p (.int .i64 a.length)), (14, .p (.int .i64 i))], h⟩)
    (fun i => i ≤ a.length ∧ a.take i = b.take i) (a.length - ·) 0 (by simp) (Wk.fits (by simp)) ?_
  intro i hi B hb he hr
  obtain ⟨hi, hall⟩ := hi
  simp
  refine CC_by (fun h2 => ?_) (fun h2 => ?_)
  · have hi' : i < a.length := by simpa using h2
    have hi2 : i < b.length := by omega
    simp [hi', hi2]
    refine CC_by (fun h3 => ?_) (fun h3 => ?_)
    · simp
      refine hr _ ?_
      simp at h3
      have : ¬ a = b := fun h => by subst h; exact h3 rfl
      simp [this]
    · simp [wrap_succ hi' ha]
      simp at h3
      refine hb _ (i + 1) (Wk.fits (by simp)) ⟨hi', ?_⟩ (by omega)
      rw [List.take_succ_eq_append_getElem hi', List.take_succ_eq_append_getElem hi2, hall, h3]
  · have : i = a.length := by simp at h2; omega
    subst this
    simp
    refine he _ _ ?_
    have : a = b := by rw [List.take_length] at hall; rw [hall, hab, List.take_length]
    simp [this]

end Go.Proofs.YtppjcnaffphakaaGreatDoor
