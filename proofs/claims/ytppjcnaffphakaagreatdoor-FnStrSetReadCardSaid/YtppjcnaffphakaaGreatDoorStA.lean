/- Lists of texts; sets of texts. (turned from another seat by mkpu.py) -/
import Derived.Test.YtppjcnaffphakaaGreatDoorCodB
import Derived.Test.YtppjcnaffphakaaGreatDoorLibE
set_option linter.unusedVariables false
set_option linter.unusedSimpArgs false
set_option maxRecDepth 100000
set_option maxHeartbeats 4000000
namespace Go.Proofs.YtppjcnaffphakaaGreatDoor
open Go Go.Den Go.Proofs

def fits8 (l : List ByteArray) : Bool := decide (l.length ≤ 2147483647) && l.all fun s => decide (s.size ≤ 2147483647)
theorem ok6 {G : Nat → DV} (h : List Blk) (l : List ByteArray) (hl : l.length ≤ maxLen) : Ok Tryz.prog G 6 [.fz 1 (strs l)] h (.p (.bool (fits8 l))) h := by
  refine Ok_by Tryz.func6 c6_ok r6_ok 17 rfl ?_
  simp [c6, r6]
  refine CC_by (fun h1 => ?_) (fun h1 => ?_)
  · have : ¬ l.length ≤ 2147483647 := by simp at h1; omega
    simp [fits8, this]
  have h1' : l.length ≤ 2147483647 := by simp at h1; omega
  simp
  refine VV_fam (fun i : Nat => ⟨[.fz 1 (strs l), .any, .any, .any, .any, .any, .any, .any, .fz 1 (strs l), .p (.int .i64 l.length), .p (.int .i64 i), .any, .any, .any, .any, .any, .any, .any], h⟩)
    (fun i => i ≤ l.length ∧ (l.take i).all (fun s => decide (s.size ≤ 2147483647)) = true) (l.length - ·) 0 (by simp) (Wk.fits (by simp)) ?_
  intro i hi B hb he hr
  obtain ⟨hi, hall⟩ := hi
  simp
  refine CC_by (fun h2 => ?_) (fun h2 => ?_)
  · have hi' : i < l.length := by simpa using h2
    simp [hi', strs_get]
    refine CC_by (fun h3 => ?_) (fun h3 => ?_)
    · have : ¬ (l[i]).size ≤ 2147483647 := by simp at h3; omega
      simp
      refine hr _ ?_
      simp
      have : fits8 l = false := by
        simp [fits8]
        exact fun _ => ⟨l[i], List.getElem_mem _, by omega⟩
      simp [this]
    · have h3' : (l[i]).size ≤ 2147483647 := by simp at h3; omega
      simp [wrap_succ hi' hl]
      refine hb _ (i + 1) (Wk.fits (by simp)) ⟨hi', ?_⟩ (by omega)
      rw [List.take_succ_eq_append_getElem hi', List.all_append, hall]
      simpa using h3'
  · have : i = l.length := by simp at h2; omega
    subst this
    simp
    refine he _ _ ?_
    simp at hall
    have : fits8 l = true := by simp [fits8]; exact ⟨h1', fun s hs => hall s hs⟩
    simp [this]
def setHas (l : List ByteArray) (s : ByteArray) : Bool := l.any fun x => decide (x = s)
/-- The first 20 bytes of the first 10 texts. -/
def cut20 (s : ByteArray) : ByteArray := s.extract 0 (min s.size 20)

def setTexts (l : List ByteArray) : List ByteArray := (l.take (min l.length 10)).map cut20
theorem ok22 {G : Nat → DV} (h : List Blk) (l : List ByteArray) : Ok Tryz.prog G 22 [.fz 1 (strs l)] h (.fz 1 (strs (setTexts l))) h := by
  refine Ok_by Tryz.func22 c22_ok r22_ok 25 rfl ?_
  simp [c22, r22]
  obtain ⟨L, hL⟩ : ∃ L, L = l.take (min l.length 10) := ⟨_, rfl⟩
  have hm : min l.length 10 = L.length := by rw [hL]; simp
  have hL10 : L.length ≤ 10 := by omega
  rw [setTexts, ← hL, hm]
  clear hm hL
  refine VV_fam (fun x : Nat × DV × List Blk => ⟨fr 26 [(3, x.2.1), (10, .fz 1 (strs L)), (11, .p (.int .i64 L.length)), (12, .p (.int .i64 x.1))], x.2.2⟩)
    (fun x => x.1 ≤ L.length ∧ Own h 1 x.2.2 x.2.1 (strs ((L.take x.1).map cut20))) (fun x => L.length - x.1) (0, .p (.slice none 0 0), h) ⟨by simp, by simpa using Own.nil⟩ (Wk.fits (by simp)) ?_
  rintro ⟨i, d, h'⟩ ⟨hi, ho⟩ B hb he hr
  simp only at hi ho
  simp
  refine CC_by (fun h2 => ?_) (fun h2 => ?_)
  · have hi' : i < L.length := by simpa using h2
    simp [hi']
    refine AA_lit1 ho (by simp; omega) ?_
    intro d2 h2 ho2 _ _
    simp [wrap_succ hi' (by omega)]
    refine hb _ (i + 1, d2, h2) (Wk.fits (by simp)) ⟨hi', ?_⟩ (by simp; omega)
    rw [List.take_succ_eq_append_getElem hi', List.map_append, List.map_singleton, ← strs_push]
    exact ho2
  · have : i = L.length := by simp at h2; omega
    subst this
    simp
    refine he _ _ ?_
    simp
    rw [List.take_length] at ho
    exact ho.wk strs_plain
def plainB (b : UInt8) : Bool := decide (32 ≤ b.toNat) && decide (b.toNat ≤ 126)

def plainOf (s : ByteArray) : ByteArray := ⟨(s.data.toList.filter plainB).toArray⟩

/-- Such texts of signs from blank to tilde. -/
def setPlain (l : List ByteArray) : List ByteArray := (setTexts l).map plainOf
theorem setTexts_size (l : List ByteArray) : ∀ s, s ∈ setTexts l → s.size ≤ 20 := by
  intro s hs
  obtain ⟨x, _, rfl⟩ := List.mem_map.1 hs
  simp [cut20, ByteArray.size_extract]

theorem setTexts_length (l : List ByteArray) : (setTexts l).length ≤ 10 := by simp [setTexts]
theorem ok34g {G : Nat → DV} (h : List Blk) (d0 : DV) (l : List ByteArray) (hf : Ok Tryz.prog G 22 [d0] h (.fz 1 (strs (setTexts l))) h) : Ok Tryz.prog G 7 [d0] h (.fz 1 (strs (setPlain l))) h := by
  refine Ok_by Tryz.func7 c7_ok r7_ok 40 rfl ?_
  simp [c7, r7]
  refine FF_by hf ?_
  have hL10 := setTexts_length l
  have hL20 := setTexts_size l
  rw [setPlain]
  generalize setTexts l = L at hL10 hL20 ⊢
  simp
  refine VV_fam (fun x : Nat × DV × List Blk => ⟨fr 41 [(3, x.2.1), (10, .fz 1 (strs L)), (11, .p (.int .i64 L.length)), (12, .p (.int .i64 x.1))], x.2.2⟩)
    (fun x => x.1 ≤ L.length ∧ Own h 1 x.2.2 x.2.1 (strs ((L.take x.1).map plainOf))) (fun x => L.length - x.1) (0, .p (.slice none 0 0), h) ⟨by simp, by simpa using Own.nil⟩ (Wk.fits (by simp)) ?_
  rintro ⟨i, d, h'⟩ ⟨hi, ho⟩ B hb he hr
  simp only at hi ho
  simp
  refine CC_by (fun h2 => ?_) (fun h2 => ?_)
  · have hi' : i < L.length := by simpa using h2
    simp [hi']
    have hs20 := hL20 L[i] (List.getElem_mem _)
    generalize hs : L[i] = s at hs20
    have hslen : s.data.toList.length = s.size := by simp
    refine VV_fam (fun x : Nat × DV × List Blk => ⟨fr 41 [(3, d), (6, x.2.1), (10, .fz 1 (strs L)), (11, .p (.int .i64 L.length)), (12, .p (.int .i64 i)), (17, .fz 1 (bts s.data.toList)), (18, .p (.int .i64 s.size)), (19, .p (.int .i64 x.1))], x.2.2⟩)
      (fun x => x.1 ≤ s.size ∧ Own h' 1 x.2.2 x.2.1 (bts ((s.data.toList.take x.1).filter plainB))) (fun x => s.size - x.1) (0, .p (.slice none 0 0), h') ⟨by simp, by simpa using Own.nil⟩ (Wk.fits (by simp)) ?_
    rintro ⟨j, d6, h6⟩ ⟨hj, ho6⟩ B' hb' he' hr'
    simp only at hj ho6
    have hlen6 : ((s.data.toList.take j).filter plainB).length ≤ j := Nat.le_trans (List.length_filter_le _ _) (by simp)
    simp
    refine CC_by (fun h3 => ?_) (fun h3 => ?_)
    · have hj' : j < s.size := by simpa using h3
      simp [hj']
      have hadd : IntKind.i64.wrap ((j : Int) + 1) = ((j + 1 : Nat) : Int) := wrap_succ hj' (by omega)
      have hnext : (s.data.toList.take (j + 1)).filter plainB = (s.data.toList.take j).filter plainB ++ if plainB s.data[j] = true then [s.data[j]] else [] := by
        rw [List.take_succ_eq_append_getElem (by simpa using hj'), List.filter_append]
        simp [List.filter_cons]
      have hp : plainB s.data[j] = (decide ((32:Int) ≤ s.data[j].toNat) && decide ((s.data[j].toNat:Int) ≤ 126)) := by
        rw [plainB]; congr 1 <;> simp <;> omega
      cases hq1 : decide ((32:Int) ≤ s.data[j].toNat)
      · rw [hp, hq1] at hnext
        simp at hnext
        simp [hadd]
        refine hb' _ (j + 1, d6, h6) (Wk.fits (by simp)) ⟨hj', by rw [hnext]; exact ho6⟩ (by simp; omega)
      · simp
        refine CC_by (fun hq2 => ?_) (fun hq2 => ?_)
        · rw [hp, hq1, hq2] at hnext
          simp at hnext
          simp
          refine AA_lit1 ho6 (by simp; omega) ?_
          intro d2 h2 ho2 _ _
          simp [hadd]
          refine hb' _ (j + 1, d2, h2) (Wk.fits (by simp)) ⟨hj', by rw [hnext, ← bts_push]; exact ho2⟩ (by simp; omega)
        · rw [hp, hq1, hq2] at hnext
          simp at hnext
          simp [hadd]
          refine hb' _ (j + 1, d6, h6) (Wk.fits (by simp)) ⟨hj', by rw [hnext]; exact ho6⟩ (by simp; omega)
    · have : j = s.size := by simp at h3; omega
      subst this
      simp
      refine he' _ _ ?_
      rw [← hslen, List.take_length] at ho6
      simp [ho6.slice]
      have hoo : Own h 1 h6 d (strs ((L.take i).map plainOf)) := ho.mono ho6.pre
      refine AA_lit1 hoo (by simp; omega) ?_
      intro d2 h2 ho2 _ _
      simp [wrap_succ hi' (by omega)]
      refine hb _ (i + 1, d2, h2) (Wk.fits (by simp)) ⟨hi', ?_⟩ (by simp; omega)
      rw [List.take_succ_eq_append_getElem hi', List.map_append, List.map_singleton, ← strs_push, hs]
      exact ho2
  · have : i = L.length := by simp at h2; omega
    subst this
    simp
    refine he _ _ ?_
    simp
    rw [List.take_length] at ho
    exact ho.wk strs_plain

theorem ok7 {G : Nat → DV} (h : List Blk) (l : List ByteArray) : Ok Tryz.prog G 7 [.fz 1 (strs l)] h (.fz 1 (strs (setPlain l))) h := ok34g h _ l (ok22 h l)
def addNew (out : List ByteArray) (s : ByteArray) : List ByteArray := if setHas out s = true then out else out ++ [s]

theorem setPlain_length (l : List ByteArray) : (setPlain l).length = min l.length 10 := by simp [setPlain, setTexts]

theorem addNew_length (L : List ByteArray) : (L.foldl addNew []).length ≤ L.length := by
  have : ∀ (L out : List ByteArray), (L.foldl addNew out).length ≤ out.length + L.length := by
    intro L
    induction L with
    | nil => intro out; simp
    | cons s L ih =>
      intro out
      have := ih (addNew out s)
      have h2 : (addNew out s).length ≤ out.length + 1 := by unfold addNew; split <;> simp
      simp only [List.foldl_cons, List.length_cons]
      omega
  simpa using this L []
/-- A set of texts, as a map's entries. -/
def smap (ks : List ByteArray) : List (Value × DV) := ks.map fun k => (.string k, .agg [])

@[simp] theorem smap_length {ks : List ByteArray} : (smap ks).length = ks.length := by simp [smap]

@[simp] theorem smap_nil : smap [] = [] := rfl

theorem mfind_smap (s : ByteArray) : ∀ (ks : List ByteArray) (i : Nat), ∃ r, mfind .str (.string s) (smap ks) i = some r ∧ (r = none → setHas ks s = false) ∧ ∀ j, r = some j → setHas ks s = true ∧ i ≤ j ∧ ∃ hj : j - i < ks.length, ks[j - i] = s
  | [], i => ⟨none, rfl, fun _ => rfl, fun j h => by cases h⟩
  | k :: ks, i => by
    obtain ⟨r, h1, h2, h3⟩ := mfind_smap s ks (i + 1)
    by_cases hk : s = k
    · subst hk
      refine ⟨some i, by simp [smap, mfind, keyEq], fun h => (by cases h), fun j h => ?_⟩
      cases h
      exact ⟨by simp [setHas], Nat.le_refl _, by simp, by simp⟩
    · have hk' : ¬ k = s := fun h => hk h.symm
      refine ⟨r, by simpa [smap, mfind, keyEq, hk] using h1, fun h => by have := h2 h; simpa [setHas, hk'] using this, fun j h => ?_⟩
      obtain ⟨g1, g2, g3, g4⟩ := h3 j h
      refine ⟨by simp [setHas] at g1 ⊢; exact .inr g1, by omega, by simp; omega, ?_⟩
      have : j - i = (j - (i + 1)) + 1 := by omega
      simp only [this, List.getElem_cons_succ]
      exact g4

theorem mput_smap {s : ByteArray} {ks : List ByteArray} {r : Option Nat} (h : mfind .str (.string s) (smap ks) 0 = some r) : mput (smap ks) (.string s) (.agg []) r = smap (addNew ks s) := by
  obtain ⟨r', h1, h2, h3⟩ := mfind_smap s ks 0
  rw [h1] at h
  cases h
  cases r with
  | none => simp [mput, addNew, h2 rfl, smap]
  | some j =>
    obtain ⟨g1, g2, g3, g4⟩ := h3 j rfl
    simp only [Nat.sub_zero] at g3 g4
    simp only [mput, addNew, g1, if_true]
    apply List.ext_getElem (by simp)
    intro i hi hi'
    rw [List.getElem_set]
    split
    · subst_vars
      simp [smap]
    · rfl
theorem ok67 {G : Nat → DV} (h : List Blk) (b : Nat) (ks : List ByteArray) (s : ByteArray) (hb : h[b]? = some (.map (smap ks))) (hn : noIter h b) : Ok Tryz.prog G 67 [.mp b, .p (.string s)] h (.tup []) (h.set b (.map (smap (addNew ks s)))) := by
  refine Ok_by Tryz.func67 c67_ok r67_ok 5 rfl ?_
  obtain ⟨r, h1, _, _⟩ := mfind_smap s ks 0
  simp [c67, r67, hb, h1, hn, mput_smap h1]
  exact .refl

theorem ok46 {G : Nat → DV} (h : List Blk) (b : Nat) (ks : List ByteArray) (s : ByteArray) (hb : h[b]? = some (.map (smap ks))) (hn : noIter h b) : Ok Tryz.prog G 46 [.mp b, .p (.string s)] h (.tup []) (h.set b (.map (smap (addNew ks s)))) := by
  refine Ok_by Tryz.func46 c46_ok r46_ok 5 rfl ?_
  simp [c46, r46]
  refine FF_by (ok67 h b ks s hb hn) ?_
  simp
  exact .refl

theorem smap_get {ks : List ByteArray} {j : Nat} (hj : j < ks.length) : (smap ks)[j]?.getD default = (.string ks[j], .agg []) := by simp [smap, hj]

theorem smap_wf {B : Nat → Prop} {ks : List ByteArray} : (Blk.map (smap ks)).wf B := by
  intro j hj
  simp [smap]

theorem mem_addNew {ks : List ByteArray} {s y : ByteArray} : y ∈ addNew ks s ↔ y ∈ ks ∨ y = s := by
  unfold addNew
  split
  · rename_i h
    simp [setHas] at h
    constructor
    · exact .inl
    · rintro (h1 | rfl)
      · exact h1
      · exact h
  · simp

/-- One list has nothing that the other one hasn't, and they are of one length. -/
def evEq (a b : List ByteArray) : Bool := decide (a.length = b.length) && a.all fun x => setHas b x
theorem mem_foldl {ks y} : ∀ {L : List ByteArray} , y ∈ L.foldl addNew ks ↔ y ∈ ks ∨ y ∈ L := by
  intro L
  induction L generalizing ks with
  | nil => simp
  | cons s L ih => simp [List.foldl_cons, ih, mem_addNew, or_assoc]
def less (x s : ByteArray) : Bool := Op.bytesLess x.data.toList s.data.toList

/-- Put in where it belongs. -/
def insT (s : ByteArray) : List ByteArray → List ByteArray
  | [] => [s]
  | x :: xs => if less x s = true then x :: insT s xs else if x = s then x :: xs else s :: x :: xs

def setOf (l : List ByteArray) : List ByteArray := l.foldl (fun out s => insT s out) []
theorem insT_at (s : ByteArray) : ∀ (out : List ByteArray) (i : Nat), i ≤ out.length → (∀ x, x ∈ out.take i → less x s = true) → (∀ hi : i < out.length, less out[i] s = false) →
    insT s out = if h : i < out.length then (if out[i] = s then out else out.take i ++ s :: out.drop i) else out ++ [s]
  | [], i, hi, h1, h2 => by simp [insT]
  | x :: xs, 0, hi, h1, h2 => by
    have := h2 (by simp)
    simp at this
    simp [insT, this]
  | x :: xs, i + 1, hi, h1, h2 => by
    have hx : less x s = true := h1 x (by simp)
    have ih := insT_at s xs i (by simpa using hi) (fun y hy => h1 y (by simp [hy])) (fun hi => by
      have := h2 (by simpa using hi)
      rw [List.getElem_cons_succ] at this
      exact this)
    simp only [insT, hx, if_true, ih, List.length_cons, Nat.add_lt_add_iff_right, List.getElem_cons_succ, List.take_succ_cons, List.drop_succ_cons]
    split
    · split <;> simp
    · simp
theorem insT_length (s : ByteArray) : ∀ out : List ByteArray, (insT s out).length ≤ out.length + 1
  | [] => by simp [insT]
  | x :: xs => by
    have := insT_length s xs
    simp only [insT]
    split
    · simp; omega
    · split <;> simp
theorem setOf_length (L : List ByteArray) : (setOf L).length ≤ L.length := by
  have : ∀ (L out : List ByteArray), (L.foldl (fun out s => insT s out) out).length ≤ out.length + L.length := by
    intro L
    induction L with
    | nil => intro out; simp
    | cons s L ih =>
      intro out
      have := ih (insT s out)
      have h2 := insT_length s out
      simp only [List.foldl_cons, List.length_cons]
      omega
  have := this L []
  rw [List.length_nil, Nat.zero_add] at this
  exact this
theorem ok11 {G : Nat → DV} (h : List Blk) (L : List ByteArray) (hL : L.length ≤ 1000) : Ok Tryz.prog G 11 [.fz 1 (strs L)] h (.fz 1 (strs (setOf L))) h := by
  refine Ok_by Tryz.func11 c11_ok r11_ok 50 rfl ?_
  simp [c11, r11]
  refine VV_fam (fun x : Nat × DV × List Blk => ⟨fr 51 [(3, x.2.1), (7, .fz 1 (strs L)), (8, .p (.int .i64 L.length)), (9, .p (.int .i64 x.1))], x.2.2⟩)
    (fun x => x.1 ≤ L.length ∧ Own h 1 x.2.2 x.2.1 (strs (setOf (L.take x.1)))) (fun x => L.length - x.1) (0, .p (.slice none 0 0), h) ⟨by simp, by simpa [setOf] using Own.nil⟩ (Wk.fits (by simp)) ?_
  rintro ⟨i, d, h'⟩ ⟨hi, ho⟩ B hb he hr
  simp only at hi ho
  simp
  refine CC_by (fun h2 => ?_) (fun h2 => ?_)
  · have hi' : i < L.length := by simpa using h2
    have hlen := setOf_length (L.take i)
    have hnext : setOf (L.take (i + 1)) = insT L[i] (setOf (L.take i)) := by rw [setOf, List.take_succ_eq_append_getElem hi', List.foldl_append]; rfl
    have hadd : IntKind.i64.wrap ((i : Int) + 1) = ((i + 1 : Nat) : Int) := wrap_succ hi' (by omega)
    simp at hlen
    simp [hi']
    generalize hO : setOf (L.take i) = O at ho hlen hnext
    generalize hs : L[i] = s at hnext
    rcases ho with ⟨hp, ⟨rfl, hO2⟩ | ⟨b, rfl, hbl, hbc⟩⟩
    · have hO3 : O = [] := by simpa using hO2
      subst hO3
      refine VV_fam (fun _ : Unit => ⟨fr 51 [(3, .p (.slice none 0 0)), (5, .p (.string s)), (6, .p (.int .i64 0)), (7, .fz 1 (strs L)), (8, .p (.int .i64 L.length)), (9, .p (.int .i64 i))], h'⟩)
        (fun _ => True) (fun _ => 0) () trivial (Wk.fits (by simp)) ?_
      rintro ⟨⟩ _ B' hb' he' hr'
      simp
      refine he' _ _ ?_
      simp [hadd, DA_raw]
      refine hb _ (i + 1, .sl (h'.length + 1) 0 1 1, _) (Wk.fits (by simp)) ⟨hi', ?_⟩ (by simp; omega)
      rw [hnext]
      exact ⟨hp.trans (HPre.append _ _), .inr ⟨h'.length + 1, by simp [insT], by have := hp.length; omega, by simp [insT, strs]⟩⟩
    · simp only [strs_length] at *
      refine VV_fam (fun j : Nat => ⟨fr 51 [(3, .sl b 0 O.length O.length), (5, .p (.string s)), (6, .p (.int .i64 j)), (7, .fz 1 (strs L)), (8, .p (.int .i64 L.length)), (9, .p (.int .i64 i))], h'⟩)
        (fun j => j ≤ O.length ∧ ∀ x, x ∈ O.take j → less x s = true) (fun j => O.length - j) 0 ⟨by simp, by simp⟩ (Wk.fits (by simp)) ?_
      rintro j ⟨hj, hjl⟩ B' hb' he' hr'
      rcases Nat.lt_or_ge j O.length with hjo | hjo
      · have hjo' : (j : Int) < O.length := by omega
        simp [hbc, hjo]
        refine CC_by (fun hl => ?_) (fun hl => ?_)
        · simp
          have hj1 : IntKind.i64.wrap ((j : Int) + 1) = ((j + 1 : Nat) : Int) := wrap_succ hjo (by omega)
          simp [hj1]
          refine hb' _ (j + 1) (Wk.fits (by simp)) ⟨hjo, fun x hx => ?_⟩ (by omega)
          rw [List.take_succ_eq_append_getElem hjo, List.mem_append, List.mem_singleton] at hx
          rcases hx with hx | rfl
          · exact hjl x hx
          · exact hl
        · have hins := insT_at s O j hj hjl (fun _ => hl)
          rw [dif_pos hjo] at hins
          simp
          refine he' _ _ ?_
          have hne : ((j : Int) == (O.length : Int)) = false := by simp; omega
          simp [hne, hbc, hjo]
          refine CC_by (fun hq => ?_) (fun hq => ?_)
          · have hq' : ¬ O[j] = s := by simpa using hq
            rw [if_neg hq'] at hins
            have e1 : 1 + (O.length - j) = O.length - j + 1 := by omega
            have e2 : List.take (O.length - j) (O.drop j) = O.drop j := List.take_of_length_le (by simp)
            have e3 : List.take (O.length - j + 1) (DV.p (Value.string s) :: strs (O.drop j)) = DV.p (Value.string s) :: strs (O.drop j) := List.take_of_length_le (by simp)
            have e4 : j ≠ O.length := by omega
            have e5 : O.length < j + (O.length - j + 1) := by omega
            simp [hbc, get_pre hbc, hadd, hj, e1, e2, e3, e4, e5, DA_raw]
            refine ⟨by omega, by omega, ?_⟩
            refine hb _ (i + 1, .sl b 0 (j + (O.length - j + 1)) (j + (O.length - j + 1)), _) (Wk.fits (by simp)) ⟨hi', ?_⟩ (by simp; omega)
            rw [hnext, hins]
            have hblt : b < (h' ++ [Blk.cells 1 (DV.p (Value.string s) :: strs (List.drop j O))]).length := by have := (List.getElem?_eq_some_iff.1 hbc).1; simp; omega
            have hl : (strs (O.take j ++ s :: O.drop j)).length = j + (O.length - j + 1) := by simp; omega
            refine ⟨HPre_set (hp.trans (HPre.append _ _)) hbl, .inr ⟨b, by rw [hl], hbl, ?_⟩⟩
            rw [List.getElem?_set_self hblt]; simp [strs]
          · have hq' : O[j] = s := by simpa using hq
            rw [if_pos hq'] at hins
            simp [hadd]
            refine hb _ (i + 1, .sl b 0 O.length O.length, _) (Wk.fits (by simp)) ⟨hi', ?_⟩ (by simp; omega)
            rw [hnext, hins]
            exact ⟨hp, .inr ⟨b, by simp, hbl, hbc⟩⟩
      · obtain rfl : j = O.length := by omega
        simp [hbc]
        refine he' _ _ ?_
        have hins := insT_at s O O.length (Nat.le_refl _) hjl (fun h => absurd h (Nat.lt_irrefl _))
        rw [dif_neg (Nat.lt_irrefl _)] at hins
        simp [hbc, get_pre hbc, hadd, DA_raw]
        refine ⟨by omega, ?_⟩
        refine hb _ (i + 1, .sl b 0 (O.length + 1) (O.length + 1), _) (Wk.fits (by simp)) ⟨hi', ?_⟩ (by simp; omega)
        rw [hnext, hins]
        have hblt : b < (h' ++ [Blk.cells 1 [DV.p (Value.string s)]]).length := by have := (List.getElem?_eq_some_iff.1 hbc).1; simp; omega
        refine ⟨HPre_set (hp.trans (HPre.append _ _)) hbl, .inr ⟨b, by simp, hbl, ?_⟩⟩
        simp [List.getElem?_set_self hblt, strs]
  · have : i = L.length := by simp at h2; omega
    subst this
    simp
    refine he _ _ ?_
    simp
    rw [List.take_length] at ho
    exact ho.wk strs_plain
theorem ok10 {G : Nat → DV} (h : List Blk) (a b : List ByteArray) (ha : a.length ≤ maxLen) : Ok Tryz.prog G 10 [.fz 1 (strs a), .fz 1 (strs b)] h (.p (.bool (decide (a = b)))) h := by
  refine Ok_by Tryz.func10 c10_ok r10_ok 24 rfl ?_
  simp [c10, r10]
  refine CC_by (fun h1 => ?_) (fun h1 => ?_)
  · have : ¬ a = b := fun h => by subst h; simp at h1
    simp [this]
  have hab : a.length = b.length := by simp at h1; omega
  simp
  refine VV_fam (fun i : Nat => ⟨fr 26 [(0, .fz 1 (strs a)), (1, .fz 1 (strs b)), (12, .fz 1 (strs a)), (13, .p (.int .i64 a.length)), (14, .p (.int .i64 i))], h⟩)
    (fun i => i ≤ a.length ∧ a.take i = b.take i) (a.length - ·) 0 (by simp) (Wk.fits (by simp)) ?_
  intro i hi B hb he hr
  obtain ⟨hi, hall⟩ := hi
  simp
  refine CC_by (fun h2 => ?_) (fun h2 => ?_)
  · have hi' : i < a.length := by simpa using h2
    have hi2 : i < b.length := by omega
    simp [hi', hi2]
    refine CC_by (fun h3 => ?_) (fun h3 => ?_)
    · simp
      refine hr _ ?_
      simp at h3
      have : ¬ a = b := fun h => by subst h; exact h3 rfl
      simp [this]
    · simp [wrap_succ hi' ha]
      simp at h3
      refine hb _ (i + 1) (Wk.fits (by simp)) ⟨hi', ?_⟩ (by omega)
      rw [List.take_succ_eq_append_getElem hi', List.take_succ_eq_append_getElem hi2, hall, h3]
  · have : i = a.length := by simp at h2; omega
    subst this
    simp
    refine he _ _ ?_
    have : a = b := by rw [List.take_length] at hall; rw [hall, hab, List.take_length]
    simp [this]


end Go.Proofs.YtppjcnaffphakaaGreatDoor
