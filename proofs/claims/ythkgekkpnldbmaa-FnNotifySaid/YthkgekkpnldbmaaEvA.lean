/- Contracts of the functions of lists of texts. -/
import Derived.Test.YthkgekkpnldbmaaCodP
set_option linter.unusedVariables false
set_option linter.unusedSimpArgs false
set_option maxRecDepth 100000
namespace Go.Proofs.Ythkgekkpnldbmaa
open Go Go.Den Go.Proofs


def fits8 (l : List ByteArray) : Bool := decide (l.length ≤ 2147483647) && l.all fun s => decide (s.size ≤ 2147483647)

theorem ok35 {G : Nat → DV} (h : List Blk) (l : List ByteArray) (hl : l.length ≤ maxLen) : Ok Try.prog G 35 [.fz 1 (strs l)] h (.p (.bool (fits8 l))) h := by
  refine Ok_by Try.func35 c35_ok r35_ok 17 rfl ?_
  simp [c35, r35]
  refine CC_by (fun h1 => ?_) (fun h1 => ?_)
  · have : ¬ l.length ≤ 2147483647 := by simp at h1; omega
    simp [fits8, this]
  have h1' : l.length ≤ 2147483647 := by simp at h1; omega
  simp
  refine VV_fam (fun i : Nat => ⟨[.fz 1 (strs l), .any, .any, .any, .any, .any, .any, .any, .fz 1 (strs l), .p (.int .i64 l.length), .p (.int .i64 i), .any, .any, .any, .any, .any, .any, .any], h⟩)
    (fun i => i ≤ l.length ∧ (l.take i).all (fun s => decide (s.size ≤ 2147483647)) = true) (l.length - ·) 0 (by simp) (Wk.fits (by simp)) ?_
  intro i hi B hb he hr
  obtain ⟨hi, hall⟩ := hi
  simp
  refine CC_by (fun h2 => ?_) (fun h2 => ?_)
  · have hi' : i < l.length := by simpa using h2
    simp [hi', strs_get]
    refine CC_by (fun h3 => ?_) (fun h3 => ?_)
    · have : ¬ (l[i]).size ≤ 2147483647 := by simp at h3; omega
      simp
      refine hr _ ?_
      simp
      have : fits8 l = false := by
        simp [fits8]
        exact fun _ => ⟨l[i], List.getElem_mem _, by omega⟩
      simp [this]
    · have h3' : (l[i]).size ≤ 2147483647 := by simp at h3; omega
      simp [wrap_succ hi' hl]
      refine hb _ (i + 1) (Wk.fits (by simp)) ⟨hi', ?_⟩ (by omega)
      rw [List.take_succ_eq_append_getElem hi', List.all_append, hall]
      simpa using h3'
  · have : i = l.length := by simp at h2; omega
    subst this
    simp
    refine he _ _ ?_
    simp at hall
    have : fits8 l = true := by simp [fits8]; exact ⟨h1', fun s hs => hall s hs⟩
    simp [this]


def setHas (l : List ByteArray) (s : ByteArray) : Bool := l.any fun x => decide (x = s)

theorem ok22 {G : Nat → DV} (h : List Blk) (l : List ByteArray) (s : ByteArray) (hl : l.length ≤ maxLen) : Ok Try.prog G 22 [.fz 1 (strs l), .p (.string s)] h (.p (.bool (setHas l s))) h := by
  refine Ok_by Try.func22 c22_ok r22_ok 15 rfl ?_
  simp [c22, r22]
  refine VV_fam (fun i : Nat => ⟨fr 17 [(0, .fz 1 (strs l)), (1, .p (.string s)), (7, .fz 1 (strs l)), (8, .p (.int .i64 l.length)), (9, .p (.int .i64 i))], h⟩)
    (fun i => i ≤ l.length ∧ setHas (l.take i) s = false) (l.length - ·) 0 (by simp [setHas]) (Wk.fits (by simp)) ?_
  intro i hi B hb he hr
  obtain ⟨hi, hall⟩ := hi
  simp
  refine CC_by (fun h2 => ?_) (fun h2 => ?_)
  · have hi' : i < l.length := by simpa using h2
    simp [hi']
    refine CC_by (fun h3 => ?_) (fun h3 => ?_)
    · simp
      refine hr _ ?_
      simp
      have : setHas l s = true := by
        simp [setHas]
        simp at h3
        rw [← h3]
        exact List.getElem_mem _
      simp [this]
    · simp [wrap_succ hi' hl]
      refine hb _ (i + 1) (Wk.fits (by simp)) ⟨hi', ?_⟩ (by omega)
      rw [List.take_succ_eq_append_getElem hi', setHas, List.any_append, ← setHas, hall]
      simpa using h3
  · have : i = l.length := by simp at h2; omega
    subst this
    simp
    refine he _ _ ?_
    simp at hall
    simp [hall]

/-- The first 20 bytes of the first 10 texts. -/
def cut20 (s : ByteArray) : ByteArray := s.extract 0 (min s.size 20)
def setTexts (l : List ByteArray) : List ByteArray := (l.take (min l.length 10)).map cut20

theorem ok36 {G : Nat → DV} (h : List Blk) (l : List ByteArray) : Ok Try.prog G 36 [.fz 1 (strs l)] h (.fz 1 (strs (setTexts l))) h := by
  refine Ok_by Try.func36 c36_ok r36_ok 25 rfl ?_
  simp [c36, r36]
  obtain ⟨L, hL⟩ : ∃ L, L = l.take (min l.length 10) := ⟨_, rfl⟩
  have hm : min l.length 10 = L.length := by rw [hL]; simp
  have hL10 : L.length ≤ 10 := by omega
  rw [setTexts, ← hL, hm]
  clear hm hL
  refine VV_fam (fun x : Nat × DV × List Blk => ⟨fr 26 [(3, x.2.1), (10, .fz 1 (strs L)), (11, .p (.int .i64 L.length)), (12, .p (.int .i64 x.1))], x.2.2⟩)
    (fun x => x.1 ≤ L.length ∧ Own h 1 x.2.2 x.2.1 (strs ((L.take x.1).map cut20))) (fun x => L.length - x.1) (0, .p (.slice none 0 0), h) ⟨by simp, by simpa using Own.nil⟩ (Wk.fits (by simp)) ?_
  rintro ⟨i, d, h'⟩ ⟨hi, ho⟩ B hb he hr
  simp only at hi ho
  simp
  refine CC_by (fun h2 => ?_) (fun h2 => ?_)
  · have hi' : i < L.length := by simpa using h2
    simp [hi']
    refine AA_lit1 ho (by simp; omega) ?_
    intro d2 h2 ho2 _ _
    simp [wrap_succ hi' (by omega)]
    refine hb _ (i + 1, d2, h2) (Wk.fits (by simp)) ⟨hi', ?_⟩ (by simp; omega)
    rw [List.take_succ_eq_append_getElem hi', List.map_append, List.map_singleton, ← strs_push]
    exact ho2
  · have : i = L.length := by simp at h2; omega
    subst this
    simp
    refine he _ _ ?_
    simp
    rw [List.take_length] at ho
    exact ho.wk strs_plain


def plainB (b : UInt8) : Bool := decide (32 ≤ b.toNat) && decide (b.toNat ≤ 126)
def plainOf (s : ByteArray) : ByteArray := ⟨(s.data.toList.filter plainB).toArray⟩
/-- Such texts of signs from blank to tilde. -/
def setPlain (l : List ByteArray) : List ByteArray := (setTexts l).map plainOf

theorem setTexts_size (l : List ByteArray) : ∀ s, s ∈ setTexts l → s.size ≤ 20 := by
  intro s hs
  obtain ⟨x, _, rfl⟩ := List.mem_map.1 hs
  simp [cut20, ByteArray.size_extract]
theorem setTexts_length (l : List ByteArray) : (setTexts l).length ≤ 10 := by simp [setTexts]

theorem ok34g {G : Nat → DV} (h : List Blk) (d0 : DV) (l : List ByteArray) (hf : Ok Try.prog G 36 [d0] h (.fz 1 (strs (setTexts l))) h) : Ok Try.prog G 21 [d0] h (.fz 1 (strs (setPlain l))) h := by
  refine Ok_by Try.func21 c21_ok r21_ok 40 rfl ?_
  simp [c21, r21]
  refine FF_by hf ?_
  have hL10 := setTexts_length l
  have hL20 := setTexts_size l
  rw [setPlain]
  generalize setTexts l = L at hL10 hL20 ⊢
  simp
  refine VV_fam (fun x : Nat × DV × List Blk => ⟨fr 41 [(3, x.2.1), (10, .fz 1 (strs L)), (11, .p (.int .i64 L.length)), (12, .p (.int .i64 x.1))], x.2.2⟩)
    (fun x => x.1 ≤ L.length ∧ Own h 1 x.2.2 x.2.1 (strs ((L.take x.1).map plainOf))) (fun x => L.length - x.1) (0, .p (.slice none 0 0), h) ⟨by simp, by simpa using Own.nil⟩ (Wk.fits (by simp)) ?_
  rintro ⟨i, d, h'⟩ ⟨hi, ho⟩ B hb he hr
  simp only at hi ho
  simp
  refine CC_by (fun h2 => ?_) (fun h2 => ?_)
  · have hi' : i < L.length := by simpa using h2
    simp [hi']
    have hs20 := hL20 L[i] (List.getElem_mem _)
    generalize hs : L[i] = s at hs20
    have hslen : s.data.toList.length = s.size := by simp
    refine VV_fam (fun x : Nat × DV × List Blk => ⟨fr 41 [(3, d), (6, x.2.1), (10, .fz 1 (strs L)), (11, .p (.int .i64 L.length)), (12, .p (.int .i64 i)), (17, .fz 1 (bts s.data.toList)), (18, .p (.int .i64 s.size)), (19, .p (.int .i64 x.1))], x.2.2⟩)
      (fun x => x.1 ≤ s.size ∧ Own h' 1 x.2.2 x.2.1 (bts ((s.data.toList.take x.1).filter plainB))) (fun x => s.size - x.1) (0, .p (.slice none 0 0), h') ⟨by simp, by simpa using Own.nil⟩ (Wk.fits (by simp)) ?_
    rintro ⟨j, d6, h6⟩ ⟨hj, ho6⟩ B' hb' he' hr'
    simp only at hj ho6
    have hlen6 : ((s.data.toList.take j).filter plainB).length ≤ j := Nat.le_trans (List.length_filter_le _ _) (by simp)
    simp
    refine CC_by (fun h3 => ?_) (fun h3 => ?_)
    · have hj' : j < s.size := by simpa using h3
      simp [hj']
      have hadd : IntKind.i64.wrap ((j : Int) + 1) = ((j + 1 : Nat) : Int) := wrap_succ hj' (by omega)
      have hnext : (s.data.toList.take (j + 1)).filter plainB = (s.data.toList.take j).filter plainB ++ if plainB s.data[j] = true then [s.data[j]] else [] := by
        rw [List.take_succ_eq_append_getElem (by simpa using hj'), List.filter_append]
        simp [List.filter_cons]
      have hp : plainB s.data[j] = (decide ((32:Int) ≤ s.data[j].toNat) && decide ((s.data[j].toNat:Int) ≤ 126)) := by
        rw [plainB]; congr 1 <;> simp <;> omega
      cases hq1 : decide ((32:Int) ≤ s.data[j].toNat)
      · rw [hp, hq1] at hnext
        simp at hnext
        simp [hadd]
        refine hb' _ (j + 1, d6, h6) (Wk.fits (by simp)) ⟨hj', by rw [hnext]; exact ho6⟩ (by simp; omega)
      · simp
        refine CC_by (fun hq2 => ?_) (fun hq2 => ?_)
        · rw [hp, hq1, hq2] at hnext
          simp at hnext
          simp
          refine AA_lit1 ho6 (by simp; omega) ?_
          intro d2 h2 ho2 _ _
          simp [hadd]
          refine hb' _ (j + 1, d2, h2) (Wk.fits (by simp)) ⟨hj', by rw [hnext, ← bts_push]; exact ho2⟩ (by simp; omega)
        · rw [hp, hq1, hq2] at hnext
          simp at hnext
          simp [hadd]
          refine hb' _ (j + 1, d6, h6) (Wk.fits (by simp)) ⟨hj', by rw [hnext]; exact ho6⟩ (by simp; omega)
    · have : j = s.size := by simp at h3; omega
      subst this
      simp
      refine he' _ _ ?_
      rw [← hslen, List.take_length] at ho6
      simp [ho6.slice]
      have hoo : Own h 1 h6 d (strs ((L.take i).map plainOf)) := ho.mono ho6.pre
      refine AA_lit1 hoo (by simp; omega) ?_
      intro d2 h2 ho2 _ _
      simp [wrap_succ hi' (by omega)]
      refine hb _ (i + 1, d2, h2) (Wk.fits (by simp)) ⟨hi', ?_⟩ (by simp; omega)
      rw [List.take_succ_eq_append_getElem hi', List.map_append, List.map_singleton, ← strs_push, hs]
      exact ho2
  · have : i = L.length := by simp at h2; omega
    subst this
    simp
    refine he _ _ ?_
    simp
    rw [List.take_length] at ho
    exact ho.wk strs_plain
theorem ok21 {G : Nat → DV} (h : List Blk) (l : List ByteArray) : Ok Try.prog G 21 [.fz 1 (strs l)] h (.fz 1 (strs (setPlain l))) h := ok34g h _ l (ok36 h l)



def addNew (out : List ByteArray) (s : ByteArray) : List ByteArray := if setHas out s = true then out else out ++ [s]
/-- At most four of them, each once. -/
def ntEvents (l : List ByteArray) : List ByteArray := ((setPlain l).take (min l.length 4)).foldl addNew []

theorem setPlain_length (l : List ByteArray) : (setPlain l).length = min l.length 10 := by simp [setPlain, setTexts]
theorem addNew_length (L : List ByteArray) : (L.foldl addNew []).length ≤ L.length := by
  have : ∀ (L out : List ByteArray), (L.foldl addNew out).length ≤ out.length + L.length := by
    intro L
    induction L with
    | nil => intro out; simp
    | cons s L ih =>
      intro out
      have := ih (addNew out s)
      have h2 : (addNew out s).length ≤ out.length + 1 := by unfold addNew; split <;> simp
      simp only [List.foldl_cons, List.length_cons]
      omega
  simpa using this L []

theorem ok11 {G : Nat → DV} (hG : GZ G) (h : List Blk) (l : List ByteArray) : Ok Try.prog G 11 [.fz 1 (strs l)] h (.fz 1 (strs (ntEvents l))) h := by
  refine Ok_by Try.func11 c11_ok r11_ok 26 rfl ?_
  simp [c11, r11]
  refine FF_by (ok21 h l) ?_
  have hpl := setPlain_length l
  simp
  refine ⟨by omega, ?_⟩
  rw [ntEvents]
  generalize hL : (setPlain l).take (min l.length 4) = L
  have hm : min l.length (min 4 (setPlain l).length) = L.length := by rw [← hL]; simp
  rw [hm]
  have hL4 : L.length ≤ 4 := by omega
  refine VV_fam (fun x : Nat × DV × List Blk => ⟨fr 27 [(3, x.2.1), (11, .fz 1 (strs L)), (12, .p (.int .i64 L.length)), (13, .p (.int .i64 x.1))], x.2.2⟩)
    (fun x => x.1 ≤ L.length ∧ Own h 1 x.2.2 x.2.1 (strs ((L.take x.1).foldl addNew []))) (fun x => L.length - x.1) (0, .p (.slice none 0 0), h) ⟨by simp, by simpa using Own.nil⟩ (Wk.fits (by simp)) ?_
  rintro ⟨i, d, h'⟩ ⟨hi, ho⟩ B hb he hr
  simp only at hi ho
  simp
  refine CC_by (fun h2 => ?_) (fun h2 => ?_)
  · have hi' : i < L.length := by simpa using h2
    have hadd : IntKind.i64.wrap ((i : Int) + 1) = ((i + 1 : Nat) : Int) := wrap_succ hi' (by omega)
    have hlen := addNew_length (L.take i)
    have hnext : (L.take (i + 1)).foldl addNew [] = addNew ((L.take i).foldl addNew []) L[i] := by rw [List.take_succ_eq_append_getElem hi', List.foldl_append]; rfl
    simp [hi']
    refine FF_by (Ok.lend hG (ok22 [] ((L.take i).foldl addNew []) L[i] (by simp at hlen; rw [maxLen_eq]; omega)) (.cons (ho.frzR strs_plain) (.cons .p .nil)) rfl) ?_
    simp
    refine CC_by (fun h3 => ?_) (fun h3 => ?_)
    · simp at h3
      simp at hlen
      simp
      refine AA_lit1 ho (by simp; omega) ?_
      intro d2 h2 ho2 _ _
      simp [hadd]
      refine hb _ (i + 1, d2, h2) (Wk.fits (by simp)) ⟨hi', ?_⟩ (by simp; omega)
      rw [hnext, addNew, if_neg (by simp [h3]), ← strs_push]
      exact ho2
    · simp at h3
      simp [hadd]
      refine hb _ (i + 1, d, h') (Wk.fits (by simp)) ⟨hi', ?_⟩ (by simp; omega)
      rw [hnext, addNew, if_pos h3]
      exact ho
  · have : i = L.length := by simp at h2; omega
    subst this
    simp
    refine he _ _ ?_
    simp
    rw [List.take_length] at ho
    exact ho.wk strs_plain

theorem ok40 {G : Nat → DV} (h : List Blk) (L : List ByteArray) (hL : L.length ≤ 1000) : Ok Try.prog G 40 [.fz 1 (strs L)] h (.fz 1 (strs L)) h := by
  refine Ok_by Try.func40 c40_ok r40_ok 16 rfl ?_
  simp [c40, r40]
  refine VV_fam (fun x : Nat × DV × List Blk => ⟨fr 17 [(2, x.2.1), (5, .fz 1 (strs L)), (6, .p (.int .i64 L.length)), (7, .p (.int .i64 x.1))], x.2.2⟩)
    (fun x => x.1 ≤ L.length ∧ Own h 1 x.2.2 x.2.1 (strs (L.take x.1))) (fun x => L.length - x.1) (0, .p (.slice none 0 0), h) ⟨by simp, by simpa using Own.nil⟩ (Wk.fits (by simp)) ?_
  rintro ⟨i, d, h'⟩ ⟨hi, ho⟩ B hb he hr
  simp only at hi ho
  simp
  refine CC_by (fun h2 => ?_) (fun h2 => ?_)
  · have hi' : i < L.length := by simpa using h2
    simp [hi']
    refine AA_lit1 ho (by simp; omega) ?_
    intro d2 h2 ho2 _ _
    simp [wrap_succ hi' (by omega)]
    refine hb _ (i + 1, d2, h2) (Wk.fits (by simp)) ⟨hi', ?_⟩ (by simp; omega)
    rw [List.take_succ_eq_append_getElem hi', ← strs_push]
    exact ho2
  · have : i = L.length := by simp at h2; omega
    subst this
    simp
    refine he _ _ ?_
    simp
    rw [List.take_length] at ho
    exact ho.wk strs_plain


end Go.Proofs.Ythkgekkpnldbmaa
