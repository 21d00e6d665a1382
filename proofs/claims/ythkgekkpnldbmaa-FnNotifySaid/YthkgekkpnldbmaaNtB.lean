/- Notices: lists that are alive; rules. -/
import Derived.Test.YthkgekkpnldbmaaNtA
import Derived.Test.YthkgekkpnldbmaaLibE
set_option linter.unusedVariables false
set_option linter.unusedSimpArgs false
set_option maxRecDepth 100000
namespace Go.Proofs.Ythkgekkpnldbmaa
open Go Go.Den Go.Proofs


theorem ok37l {G : Nat → DV} (h : List Blk) (L : List ByteArray) (hL : L.length ≤ 1000) (b : Nat) (hb0 : h[b]? = some (.cells 1 (strs L))) : Ok Try.prog G 40 [.sl b 0 L.length L.length] h (.fz 1 (strs L)) h := by
  refine Ok_by Try.func40 c40_ok r40_ok 16 rfl ?_
  simp [c40, r40]
  refine VV_fam (fun x : Nat × DV × List Blk => ⟨fr 17 [(2, x.2.1), (5, .sl b 0 L.length L.length), (6, .p (.int .i64 L.length)), (7, .p (.int .i64 x.1))], x.2.2⟩)
    (fun x => x.1 ≤ L.length ∧ Own h 1 x.2.2 x.2.1 (strs (L.take x.1))) (fun x => L.length - x.1) (0, .p (.slice none 0 0), h) ⟨by simp, by simpa using Own.nil⟩ (Wk.fits (by simp)) ?_
  rintro ⟨i, d, h'⟩ ⟨hi, ho⟩ B hb he hr
  simp only at hi ho
  have hbk := ho.pre _ _ hb0
  simp
  refine CC_by (fun h2 => ?_) (fun h2 => ?_)
  · have hi' : i < L.length := by simpa using h2
    simp [hi', hbk]
    refine AA_lit1 ho (by simp; omega) ?_
    intro d2 h2 ho2 _ _
    simp [wrap_succ hi' (by omega)]
    refine hb _ (i + 1, d2, h2) (Wk.fits (by simp)) ⟨hi', ?_⟩ (by simp; omega)
    rw [List.take_succ_eq_append_getElem hi', ← strs_push]
    exact ho2
  · have : i = L.length := by simp at h2; omega
    subst this
    simp
    refine he _ _ ?_
    simp
    rw [List.take_length] at ho
    exact ho.wk strs_plain

theorem ok26l {G : Nat → DV} (h : List Blk) (x : ByteArray) (b : Nat) (hb0 : h[b]? = some (.cells 1 [.p (.string x)])) : Ok Try.prog G 36 [.sl b 0 1 1] h (.fz 1 (strs (setTexts [x]))) h := by
  refine Ok_by Try.func36 c36_ok r36_ok 25 rfl ?_
  simp [c36, r36, hb0]
  refine VV_fam (fun y : Nat × DV × List Blk => ⟨fr 26 [(3, y.2.1), (10, .sl b 0 1 1), (11, .p (.int .i64 1)), (12, .p (.int .i64 y.1))], y.2.2⟩)
    (fun y => y.1 ≤ 1 ∧ Own h 1 y.2.2 y.2.1 (strs ([x].take y.1 |>.map cut20))) (fun y => 1 - y.1) (0, .p (.slice none 0 0), h) ⟨by simp, by simpa using Own.nil⟩ (Wk.fits (by simp)) ?_
  rintro ⟨i, d, h'⟩ ⟨hi, ho⟩ B hb he hr
  simp only at hi ho
  have hbk := ho.pre _ _ hb0
  rcases i with _ | i
  · simp [hbk]
    refine AA_lit1 ho (by simp) ?_
    intro d2 h2 ho2 _ _
    simp [show IntKind.i64.wrap 1 = 1 from by decide]
    refine hb _ (1, d2, h2) (Wk.fits (by simp)) ⟨by simp, ?_⟩ (by simp)
    simpa [strs, cut20] using ho2
  · obtain rfl : i = 0 := by omega
    simp
    refine he _ _ ?_
    simp
    have := ho.wk strs_plain
    simpa [setTexts] using this
theorem ok34l {G : Nat → DV} (h : List Blk) (x : ByteArray) (b : Nat) (hb0 : h[b]? = some (.cells 1 [.p (.string x)])) : Ok Try.prog G 21 [.sl b 0 1 1] h (.fz 1 (strs (setPlain [x]))) h := ok34g h _ [x] (ok26l h x b hb0)

/-- The first one of a list, if it isn't empty. -/
def ntOne (l : List ByteArray) : List ByteArray := match setPlain (l.take 1) with
  | [] => []
  | s :: r => if s = ⟨#[]⟩ then [] else s :: r
theorem ntOne_length (l : List ByteArray) : (ntOne l).length ≤ 1 := by
  have h := setPlain_length (l.take 1)
  unfold ntOne
  split
  · simp
  · rename_i s r hs
    rw [hs] at h
    have h2 : (l.take 1).length ≤ 1 := by simp
    split
    · simp
    · simp only [List.length_cons] at h ⊢
      omega
theorem ntOne_ne (l : List ByteArray) : ∀ s ∈ ntOne l, s ≠ ⟨#[]⟩ := by
  have h := setPlain_length (l.take 1)
  intro s hs
  unfold ntOne at hs
  split at hs
  · simp at hs
  · rename_i s' r he
    split at hs
    · simp at hs
    · rename_i hne
      rw [he] at h
      have : r = [] := by
        have h2 : (l.take 1).length ≤ 1 := by simp
        simp only [List.length_cons] at h
        exact List.eq_nil_of_length_eq_zero (by omega)
      subst this
      have : s = s' := by simpa using hs
      rw [this]
      exact hne
theorem ntOne_size (l : List ByteArray) : ∀ s ∈ ntOne l, s.size ≤ 20 := by
  intro s hs
  have : s ∈ setPlain (l.take 1) := by
    unfold ntOne at hs
    split at hs
    · simp at hs
    · rename_i s' r he
      split at hs
      · simp at hs
      · rw [he]; exact hs
  unfold setPlain at this
  obtain ⟨t, ht, rfl⟩ := List.mem_map.1 this
  have h20 := setTexts_size _ t ht
  have := List.length_filter_le plainB t.data.toList
  simp only [plainOf, size_mk, List.size_toArray]
  simp at this
  omega
theorem ok12_rest {G : Nat → DV} (h : List Blk) (d : DV) (l : List ByteArray) (hd : d = .fz 1 (strs l) ∨ ∃ x b, l = [x] ∧ d = .sl b 0 1 1 ∧ h[b]? = some (.cells 1 [.p (.string x)])) : Ok Try.prog G 12 [d] h (.fz 1 (strs (ntOne l))) h := by
  refine Ok_by Try.func12 c12_ok r12_ok 19 rfl ?_
  have hlen := setPlain_length (l.take 1)
  have h1 : l.take (min l.length 1) = l.take 1 := by rcases l with _ | ⟨a, l⟩ <;> simp
  have rest : ∀ (L : List ByteArray), L = setPlain (l.take 1) → L = [] ∨ ∃ s, L = [s] := fun L hL => by
    rcases L with _ | ⟨s, r⟩
    · exact .inl rfl
    · refine .inr ⟨s, ?_⟩
      have h2 : (l.take 1).length ≤ 1 := by simp
      rw [← hL] at hlen
      simp only [List.length_cons] at hlen
      rw [List.eq_nil_of_length_eq_zero (l := r) (by omega)]
  have fin0 : setPlain (l.take 1) = [] → ntOne l = [] := fun e => by unfold ntOne; rw [e]
  have fin1 : ∀ s, setPlain (l.take 1) = [s] → ntOne l = if s = ⟨#[]⟩ then [] else [s] := fun s e => by unfold ntOne; rw [e]
  have hcall : ∃ d', True := ⟨d, trivial⟩
  rcases hd with rfl | ⟨x, b, rfl, rfl, hb0⟩
  · simp [c12, r12, h1]
    refine FF_by (ok21 h (l.take 1)) ?_
    rcases rest _ rfl with e | ⟨s, e⟩
    · rw [e, fin0 e]
      simp
      exact WkV.nilfz (HPre.refl _)
    · rw [e, fin1 s e]
      by_cases hs : s = ⟨#[]⟩
      · subst hs
        simp
        exact WkV.nilfz (HPre.refl _)
      · simp [strs, hs]
  · simp [c12, r12, hb0]
    refine FF_by (ok34l h x b hb0) ?_
    rcases rest _ rfl with e | ⟨s, e⟩
    · simp at e
      rw [e, fin0 (by simpa using e)]
      simp
      exact WkV.nilfz (HPre.refl _)
    · simp at e
      rw [e, fin1 s (by simpa using e)]
      by_cases hs : s = ⟨#[]⟩
      · subst hs
        simp
        exact WkV.nilfz (HPre.refl _)
      · simp [strs, hs]

end Go.Proofs.Ythkgekkpnldbmaa
