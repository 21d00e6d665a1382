/- Contracts of the package's sets of texts. -/
import Derived.Test.YthkgekkpnldbmaaEvA
set_option linter.unusedVariables false
set_option linter.unusedSimpArgs false
set_option maxRecDepth 100000
namespace Go.Proofs.Ythkgekkpnldbmaa
open Go Go.Den Go.Proofs


/-- A set of texts, as a map's entries. -/
def smap (ks : List ByteArray) : List (Value × DV) := ks.map fun k => (.string k, .agg [])
@[simp] theorem smap_length {ks : List ByteArray} : (smap ks).length = ks.length := by simp [smap]
@[simp] theorem smap_nil : smap [] = [] := rfl
theorem mfind_smap (s : ByteArray) : ∀ (ks : List ByteArray) (i : Nat), ∃ r, mfind .str (.string s) (smap ks) i = some r ∧ (r = none → setHas ks s = false) ∧ ∀ j, r = some j → setHas ks s = true ∧ i ≤ j ∧ ∃ hj : j - i < ks.length, ks[j - i] = s
  | [], i => ⟨none, rfl, fun _ => rfl, fun j h => by cases h⟩
  | k :: ks, i => by
    obtain ⟨r, h1, h2, h3⟩ := mfind_smap s ks (i + 1)
    by_cases hk : s = k
    · subst hk
      refine ⟨some i, by simp [smap, mfind, keyEq], fun h => (by cases h), fun j h => ?_⟩
      cases h
      exact ⟨by simp [setHas], Nat.le_refl _, by simp, by simp⟩
    · have hk' : ¬ k = s := fun h => hk h.symm
      refine ⟨r, by simpa [smap, mfind, keyEq, hk] using h1, fun h => by have := h2 h; simpa [setHas, hk'] using this, fun j h => ?_⟩
      obtain ⟨g1, g2, g3, g4⟩ := h3 j h
      refine ⟨by simp [setHas] at g1 ⊢; exact .inr g1, by omega, by simp; omega, ?_⟩
      have : j - i = (j - (i + 1)) + 1 := by omega
      simp only [this, List.getElem_cons_succ]
      exact g4
theorem mput_smap {s : ByteArray} {ks : List ByteArray} {r : Option Nat} (h : mfind .str (.string s) (smap ks) 0 = some r) : mput (smap ks) (.string s) (.agg []) r = smap (addNew ks s) := by
  obtain ⟨r', h1, h2, h3⟩ := mfind_smap s ks 0
  rw [h1] at h
  cases h
  cases r with
  | none => simp [mput, addNew, h2 rfl, smap]
  | some j =>
    obtain ⟨g1, g2, g3, g4⟩ := h3 j rfl
    simp only [Nat.sub_zero] at g3 g4
    simp only [mput, addNew, g1, if_true]
    apply List.ext_getElem (by simp)
    intro i hi hi'
    rw [List.getElem_set]
    split
    · subst_vars
      simp [smap]
    · rfl

theorem ok53 {G : Nat → DV} (h : List Blk) : Ok Try.prog G 53 [] h (.mp h.length) (h ++ [.map (smap [])]) := by
  refine Ok_by Try.func53 c53_ok r53_ok 2 rfl ?_
  simp [c53, r53]
  exact .refl
theorem ok44 {G : Nat → DV} (h : List Blk) : Ok Try.prog G 44 [] h (.mp h.length) (h ++ [.map (smap [])]) := by
  refine Ok_by Try.func44 c44_ok r44_ok 2 rfl ?_
  simp [c44, r44]
  refine FF_by (ok53 h) ?_
  simp
  exact .refl

theorem ok54 {G : Nat → DV} (h : List Blk) (b : Nat) (ks : List ByteArray) (s : ByteArray) (hb : h[b]? = some (.map (smap ks))) (hn : noIter h b) : Ok Try.prog G 54 [.mp b, .p (.string s)] h (.tup []) (h.set b (.map (smap (addNew ks s)))) := by
  refine Ok_by Try.func54 c54_ok r54_ok 5 rfl ?_
  obtain ⟨r, h1, _, _⟩ := mfind_smap s ks 0
  simp [c54, r54, hb, h1, hn, mput_smap h1]
  exact .refl
theorem ok45 {G : Nat → DV} (h : List Blk) (b : Nat) (ks : List ByteArray) (s : ByteArray) (hb : h[b]? = some (.map (smap ks))) (hn : noIter h b) : Ok Try.prog G 45 [.mp b, .p (.string s)] h (.tup []) (h.set b (.map (smap (addNew ks s)))) := by
  refine Ok_by Try.func45 c45_ok r45_ok 5 rfl ?_
  simp [c45, r45]
  refine FF_by (ok54 h b ks s hb hn) ?_
  simp
  exact .refl
theorem ok56 {G : Nat → DV} (h : List Blk) (b : Nat) (ks : List ByteArray) (hb : h[b]? = some (.map (smap ks))) : Ok Try.prog G 56 [.mp b] h (.p (.bool (decide (ks = [])))) h := by
  refine Ok_by Try.func56 c56_ok r56_ok 5 rfl ?_
  simp [c56, r56, hb]
  cases ks <;> simp
  exact .refl
theorem ok47 {G : Nat → DV} (h : List Blk) (b : Nat) (ks : List ByteArray) (hb : h[b]? = some (.map (smap ks))) : Ok Try.prog G 47 [.mp b] h (.p (.bool (decide (ks = [])))) h := by
  refine Ok_by Try.func47 c47_ok r47_ok 4 rfl ?_
  simp [c47, r47]
  refine FF_by (ok56 h b ks hb) ?_
  simp


theorem smap_get {ks : List ByteArray} {j : Nat} (hj : j < ks.length) : (smap ks)[j]?.getD default = (.string ks[j], .agg []) := by simp [smap, hj]
theorem smap_wf {B : Nat → Prop} {ks : List ByteArray} : (Blk.map (smap ks)).wf B := by
  intro j hj
  simp [smap]
theorem mem_addNew {ks : List ByteArray} {s y : ByteArray} : y ∈ addNew ks s ↔ y ∈ ks ∨ y = s := by
  unfold addNew
  split
  · rename_i h
    simp [setHas] at h
    constructor
    · exact .inl
    · rintro (h1 | rfl)
      · exact h1
      · exact h
  · simp
theorem ok61 {G : Nat → DV} (hG : GZ G) (h : List Blk) (a b : Nat) (ks ls : List ByteArray) (ha : h[a]? = some (.map (smap ks))) (hb : h[b]? = some (.map (smap ls))) :
    OkR Try.prog G 61 [.mp a, .mp b] h fun v h' => ∃ ks', (∀ x, x ∈ ks' ↔ x ∈ ks ∧ x ∉ ls) ∧ v = .mp h.length ∧ h' = h ++ [.map (smap ks')] := by
  refine OkR.wf fun hw => ?_
  have hal : a < h.length := (List.getElem?_eq_some_iff.1 ha).1
  have hbl : b < h.length := (List.getElem?_eq_some_iff.1 hb).1
  refine OkR_by Try.func61 c61_ok r61_ok 26 rfl ?_
  simp [c61, r61]
  refine FF_by (ok53 h) ?_
  simp [get_pre ha]
  refine VV_fam (fun x : List Nat × Option Nat × List ByteArray => ⟨fr 28 [(1, .mp b), (5, .mp h.length), (11, .it (h.length + 1))], h ++ [.map (smap x.2.2), .mit (some a) (x.1, x.2.1)]⟩)
    (fun x => x.1.Nodup ∧ (∀ j, j ∈ x.1 → j < ks.length) ∧ ∀ y, y ∈ x.2.2 ↔ y ∉ ls ∧ ∃ i, ∃ hi : i < ks.length, i ∉ x.1 ∧ ks[i] = y) (fun x => x.1.length) (List.range ks.length, none, [])
    ⟨List.nodup_range, fun j hj => List.mem_range.1 hj, fun y => by simp; intro _ i hi; omega⟩ (Wk.fits (by simp)) ?_
  rintro ⟨left, cur, ks'⟩ ⟨hn, hlt, hmem⟩ B hbk he hr
  simp only at hn hlt hmem
  simp [get_pre ha]
  refine ⟨fun hnil => ?_, fun j hj => ?_⟩
  · subst hnil
    refine he _ _ ?_
    simp
    refine REr_by (.mp h.length) (h ++ [.map (smap ks')]) (WkV.cut (by simp) (by simp) (fun _ => hw.push fun k hk => ?_) (by simp)) ⟨ks', fun x => ?_, rfl, rfl⟩
    · simp at hk
      subst hk
      exact smap_wf
    · rw [hmem x]
      constructor
      · rintro ⟨h1, i, hi, _, h2⟩; exact ⟨h2 ▸ List.getElem_mem hi, h1⟩
      · rintro ⟨h1, h2⟩
        obtain ⟨i, hi, h3⟩ := List.getElem_of_mem h1
        exact ⟨h2, i, hi, by simp, h3⟩
  · have hjl := hlt j hj
    obtain ⟨r, f1, f2, f3⟩ := mfind_smap ks[j] ls 0
    have hit : ∀ ks2, HWF (h ++ [Blk.map (smap ks2), Blk.mit (some a) (left.erase j, some j)]) := fun ks2 => hw.push fun k hk => by
      simp at hk
      rcases hk with rfl | rfl
      · exact smap_wf
      · simp [Blk.wf]; omega
    have hlen : (left.erase j).length < left.length := by
      have := List.length_pos_of_mem hj
      rw [List.length_erase_of_mem hj]; omega
    have hlt' : ∀ k, k ∈ left.erase j → k < ks.length := fun k hk => hlt k (List.mem_of_mem_erase hk)
    have hor : ∀ i, i ∉ left.erase j ↔ i ∉ left ∨ i = j := fun i => by
      rw [hn.mem_erase_iff]
      by_cases hij : i = j <;> simp [hij]
    simp [smap_get hjl, get_pre hb, f1, Value.oneCell']
    cases r with
    | none =>
      have hnot : ks[j] ∉ ls := fun hc => by have := f2 rfl; simp [setHas] at this; exact this _ hc rfl
      simp
      refine FF_by (ok54 _ _ ks' ks[j] (by simp) (noIter_push (hw.noIter (Nat.le_refl _)) (by simp; omega))) ?_
      simp
      refine hbk _ (left.erase j, some j, addNew ks' ks[j]) (Wk.cut hG (by simp) (by simp) (fun _ => hit _) (by simp; omega)) ⟨hn.erase j, hlt', fun y => ?_⟩ hlen
      simp only [mem_addNew, hmem, hor]
      constructor
      · rintro (⟨h1, i, hi, h2, h3⟩ | rfl)
        · exact ⟨h1, i, hi, .inl h2, h3⟩
        · exact ⟨hnot, j, hjl, .inr rfl, rfl⟩
      · rintro ⟨h1, i, hi, h2 | rfl, h3⟩
        · exact .inl ⟨h1, i, hi, h2, h3⟩
        · exact .inr h3.symm
    | some i =>
      obtain ⟨g1, g2, g3, g4⟩ := f3 i rfl
      simp at g3
      simp [smap_get g3]
      refine hbk _ (left.erase j, some j, ks') (Wk.cut hG (by simp) (by simp) (fun _ => hit _) (by simp; omega)) ⟨hn.erase j, hlt', fun y => ?_⟩ hlen
      have hin : ks[j] ∈ ls := by rw [← g4]; exact List.getElem_mem _
      simp only [hmem, hor]
      constructor
      · rintro ⟨h1, i, hi, h2, h3⟩; exact ⟨h1, i, hi, .inl h2, h3⟩
      · rintro ⟨h1, i, hi, h2 | rfl, h3⟩
        · exact ⟨h1, i, hi, h2, h3⟩
        · exact absurd (h3 ▸ hin) h1

theorem ok60 {G : Nat → DV} (hG : GZ G) (h : List Blk) (a b : Nat) (ks ls : List ByteArray) (ha : h[a]? = some (.map (smap ks))) (hb : h[b]? = some (.map (smap ls))) :
    OkR Try.prog G 60 [.mp a, .mp b] h fun v h' => ∃ ks', (∀ x, x ∈ ks' ↔ x ∈ ks ∧ x ∉ ls) ∧ v = .mp h.length ∧ h' = h ++ [.map (smap ks')] := by
  refine OkR_by Try.func60 c60_ok r60_ok 6 rfl ?_
  simp [c60, r60]
  refine FF_byR (ok61 hG h a b ks ls ha hb) ?_
  rintro v h' ⟨ks', h1, rfl, rfl⟩
  simp
  exact REr_by _ _ .refl ⟨ks', h1, rfl, rfl⟩

/-- One list has nothing that the other one hasn't, and they are of one length. -/
def evEq (a b : List ByteArray) : Bool := decide (a.length = b.length) && a.all fun x => setHas b x

theorem mem_foldl {ks y} : ∀ {L : List ByteArray} , y ∈ L.foldl addNew ks ↔ y ∈ ks ∨ y ∈ L := by
  intro L
  induction L generalizing ks with
  | nil => simp
  | cons s L ih => simp [List.foldl_cons, ih, mem_addNew, or_assoc]

theorem ok58 {G : Nat → DV} (hG : GZ G) (h : List Blk) (a b : List ByteArray) (ha : a.length ≤ maxLen) (hb : b.length ≤ maxLen) : Ok Try.prog G 58 [.fz 1 (strs a), .fz 1 (strs b)] h (.p (.bool (evEq a b))) h := by
  refine Ok.wf fun hw => ?_
  refine Ok_by Try.func58 c58_ok r58_ok 40 rfl ?_
  simp [c58, r58]
  refine CC_by (fun h1 => ?_) (fun h1 => ?_)
  · simp at h1
    have : ¬ a.length = b.length := by omega
    simp [evEq, this]
  have hab : a.length = b.length := by simp at h1; omega
  simp
  refine FF_by (ok44 h) ?_
  simp
  refine VV_fam (fun i : Nat => ⟨fr 42 [(0, .fz 1 (strs a)), (1, .fz 1 (strs b)), (5, .mp h.length), (17, .fz 1 (strs a)), (18, .p (.int .i64 a.length)), (19, .p (.int .i64 i))], h ++ [.map (smap ((a.take i).foldl addNew []))]⟩)
    (fun i => i ≤ a.length) (a.length - ·) 0 (by simp) (Wk.fits (by simp)) ?_
  intro i hi B hbk he hr
  simp
  refine CC_by (fun h2 => ?_) (fun h2 => ?_)
  · have hi' : i < a.length := by simpa using h2
    simp [hi']
    refine FF_by (ok45 _ _ ((a.take i).foldl addNew []) _ (by simp) (noIter_push (hw.noIter (Nat.le_refl _)) (by simp))) ?_
    simp [wrap_succ hi' ha]
    have hnext : (a.take (i + 1)).foldl addNew [] = addNew ((a.take i).foldl addNew []) a[i] := by rw [List.take_succ_eq_append_getElem hi', List.foldl_append]; rfl
    rw [← hnext]
    refine hbk _ (i + 1) (Wk.fits (by simp)) hi' (by omega)
  · have : i = a.length := by simp at h2; omega
    subst this
    simp
    refine he _ _ ?_
    simp
    refine FF_by (ok44 _) ?_
    simp
    refine VV_fam (fun i : Nat => ⟨fr 42 [(0, .fz 1 (strs a)), (1, .fz 1 (strs b)), (5, .mp h.length), (8, .mp (h.length + 1)), (28, .fz 1 (strs b)), (29, .p (.int .i64 b.length)), (30, .p (.int .i64 i))], h ++ [.map (smap (a.foldl addNew [])), .map (smap ((b.take i).foldl addNew []))]⟩)
      (fun i => i ≤ b.length) (b.length - ·) 0 (by simp) (Wk.fits (by simp)) ?_
    intro i hi B' hbk' he' hr'
    simp
    refine CC_by (fun h2 => ?_) (fun h2 => ?_)
    · have hi' : i < b.length := by simpa using h2
      simp [hi']
      refine FF_by (ok45 _ _ ((b.take i).foldl addNew []) _ (by simp) (noIter_push (hw.noIter (by omega)) (by simp))) ?_
      simp [wrap_succ hi' hb]
      have hnext : (b.take (i + 1)).foldl addNew [] = addNew ((b.take i).foldl addNew []) b[i] := by rw [List.take_succ_eq_append_getElem hi', List.foldl_append]; rfl
      rw [← hnext]
      refine hbk' _ (i + 1) (Wk.fits (by simp)) hi' (by omega)
    · have : i = b.length := by simp at h2; omega
      subst this
      simp
      refine he' _ _ ?_
      simp
      refine FF_byR (ok60 hG _ _ _ (a.foldl addNew []) (b.foldl addNew []) (by simp) (by simp)) ?_
      rintro v h3 ⟨ks', hk, rfl, rfl⟩
      simp
      refine FF_by (ok47 _ _ ks' (by simp)) ?_
      simp
      have : evEq a b = decide (ks' = []) := by
        simp [evEq, hab, mem_foldl] at hk ⊢
        rw [Bool.eq_iff_iff]
        simp [setHas]
        constructor
        · intro hx
          exact List.eq_nil_iff_forall_not_mem.2 fun x hxk => ((hk x).1 hxk).2 (hx x ((hk x).1 hxk).1)
        · rintro rfl x hx
          by_cases hxb : x ∈ b
          · exact hxb
          · exact absurd ((hk x).2 ⟨hx, hxb⟩) (by simp)
      rw [this]
      exact WkV.junk (by simp)


end Go.Proofs.Ythkgekkpnldbmaa
