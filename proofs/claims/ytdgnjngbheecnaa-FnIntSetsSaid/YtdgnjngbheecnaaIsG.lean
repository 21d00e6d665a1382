/- Sets of ints: union, removal, comparison, the ordered slice. -/
import Derived.Test.YtdgnjngbheecnaaIsF
set_option linter.unusedVariables false
set_option linter.unusedSimpArgs false
set_option maxRecDepth 100000
set_option maxHeartbeats 4000000
namespace Go.Proofs.Ytdgnjngbheecnaa
open Go Go.Den Go.Proofs

theorem it_wf2 {h : List Blk} (hw : HWF h) {a b : Nat} {ks2 : List Int} {x y : List Nat × Option Nat} (ha : a < h.length) (hb : b < h.length) : HWF (h ++ [Blk.map (smap ks2), Blk.mit (some a) x, Blk.mit (some b) y]) := hw.push fun k hk => by
  simp at hk
  rcases hk with rfl | rfl | rfl
  · exact smap_wf
  · simp [Blk.wf]; omega
  · simp [Blk.wf]; omega

theorem ok117n {G : Nat → DV} (hG : GZ G) (h : List Blk) (a b : Nat) (ks : List Int) (ha : h[a]? = some (.map (smap ks))) (hl : ks.length ≤ 1000) (ls : List Int) (hb : h[b]? = some (.map (smap ls))) (hll : ls.length ≤ 1000) :
    OkR Try.prog G 117 [.mp a, .mp b] h (SetR h fun y => y ∈ ks ∨ y ∈ ls) := by
  refine OkR.wf fun hw => ?_
  have hal : a < h.length := (List.getElem?_eq_some_iff.1 ha).1
  have hbl : b < h.length := (List.getElem?_eq_some_iff.1 hb).1
  refine OkR_by Try.func117 c117_ok r117_ok 26 rfl ?_
  simp [c117, r117]
  refine FF_by (ok139 h) ?_
  simp [get_pre ha]
  refine VV_fam (fun x : List Nat × Option Nat × List Int => ⟨fr 28 [(1, .mp b), (5, .mp h.length), (10, .it (h.length + 1))], h ++ [.map (smap x.2.2), .mit (some a) (x.1, x.2.1)]⟩)
    (fun x => x.1.Nodup ∧ (∀ j, j ∈ x.1 → j < ks.length) ∧ x.2.2.Nodup ∧ ∀ y, y ∈ x.2.2 ↔ Got ks (fun _ => False) (fun x y => y = x) x.1 y) (fun x => x.1.length) (List.range ks.length, none, [])
    ⟨List.nodup_range, fun j hj => List.mem_range.1 hj, by simp, got_start (by simp)⟩ (Wk.fits (by simp)) ?_
  rintro ⟨left, cur, ks'⟩ ⟨hn, hlt, hnk, hmem⟩ B hbk he hr
  simp only at hn hlt hnk hmem
  simp [get_pre ha]
  refine ⟨fun hnil => ?_, fun j hj => ?_⟩
  · subst hnil
    refine he _ _ ?_
    simp [get_pre hb]
    have h0 := got_end hmem
    clear hn hlt hmem hbk he hr
    refine VV_fam (fun x : List Nat × Option Nat × List Int => ⟨fr 28 [(5, .mp h.length), (19, .it (h.length + 2))], h ++ [.map (smap x.2.2), .mit (some a) ([], cur), .mit (some b) (x.1, x.2.1)]⟩)
      (fun x => x.1.Nodup ∧ (∀ j, j ∈ x.1 → j < ls.length) ∧ x.2.2.Nodup ∧ ∀ y, y ∈ x.2.2 ↔ Got ls (fun y => y ∈ ks) (fun x y => y = x) x.1 y) (fun x => x.1.length) (List.range ls.length, none, ks')
      ⟨List.nodup_range, fun j hj => List.mem_range.1 hj, hnk, got_start fun y => by rw [h0]; simp⟩ (Wk.fits (by simp)) ?_
    rintro ⟨left, cur2, ks2⟩ ⟨hn, hlt, hnk2, hmem⟩ B hbk he hr
    simp only at hn hlt hnk2 hmem
    simp [get_pre hb]
    refine ⟨fun hnil => ?_, fun j hj => ?_⟩
    · subst hnil
      refine he _ _ ?_
      simp
      refine REr_by (.mp h.length) (h ++ [.map (smap ks2)]) (WkV.cut (by simp) (by simp) (fun _ => map_wf hw) (by simp)) ⟨ks2, hnk2, fun x => ?_, rfl, rfl⟩
      rw [got_end hmem]; simp
    · have hjl := hlt j hj
      simp [smap_get hjl, get_pre hb, Value.oneCell']
      refine FF_by (ok113 _ _ ks2 ls[j] (by simp) (noIter_push (hw.noIter (Nat.le_refl _)) (by simp; omega))) ?_
      simp
      refine hbk _ (left.erase j, some j, addNew ks2 ls[j]) (Wk.cut hG (by simp) (by simp) (fun _ => it_wf2 hw hal hbl) (by simp <;> omega)) ⟨hn.erase j, fun k hk => hlt k (List.mem_of_mem_erase hk), nodup_addNew hnk2, got_add hn hjl hmem (by simp)⟩ (erase_len hj)
  · have hjl := hlt j hj
    simp [smap_get hjl, get_pre ha, Value.oneCell']
    refine FF_by (ok113 _ _ ks' ks[j] (by simp) (noIter_push (hw.noIter (Nat.le_refl _)) (by simp; omega))) ?_
    simp
    refine hbk _ (left.erase j, some j, addNew ks' ks[j]) (Wk.cut hG (by simp) (by simp) (fun _ => it_wf hw hal) (by simp <;> omega)) ⟨hn.erase j, fun k hk => hlt k (List.mem_of_mem_erase hk), nodup_addNew hnk, got_add hn hjl hmem (by simp)⟩ (erase_len hj)

theorem eraseIdx_map' {α β : Type} (f : α → β) : ∀ (l : List α) (i : Nat), (l.map f).eraseIdx i = (l.eraseIdx i).map f
  | [], _ => by simp
  | _ :: _, 0 => by simp
  | x :: l, i + 1 => by simp [eraseIdx_map' f l i]
theorem ok114 {G : Nat → DV} (h : List Blk) (b : Nat) (ks : List Int) (s : Int) (hb : h[b]? = some (.map (smap ks))) (hn : noIter h b) (hnk : ks.Nodup) :
    OkR Try.prog G 114 [.mp b, .p (.int .i64 s)] h fun v h' => ∃ ks', ks'.Nodup ∧ (∀ x, x ∈ ks' ↔ x ∈ ks ∧ x ≠ s) ∧ v = .tup [] ∧ h' = h.set b (.map (smap ks')) := by
  refine OkR_by Try.func114 c114_ok r114_ok 4 rfl ?_
  obtain ⟨r, h1, h2, h3⟩ := mfind_smap s ks 0
  simp [c114, r114, hb, h1, hn]
  cases r with
  | none =>
    have hns : s ∉ ks := fun hc => by have := h2 rfl; simp [setHas] at this; exact this _ hc rfl
    simp
    refine REr_by (.tup []) h .refl ⟨ks, hnk, fun x => ⟨fun hx => ⟨hx, fun h => hns (h ▸ hx)⟩, And.left⟩, rfl, ?_⟩
    obtain ⟨g1, g2⟩ := List.getElem?_eq_some_iff.1 hb
    rw [← g2]
    exact (List.set_getElem_self g1).symm
  | some i =>
    obtain ⟨_, _, g3, g4⟩ := h3 i rfl
    simp at g3 g4
    simp
    refine REr_by (.tup []) (h.set b (.map (smap (ks.eraseIdx i)))) (by rw [smap, smap, eraseIdx_map']; exact .refl) ⟨ks.eraseIdx i, hnk.sublist (List.eraseIdx_sublist ks i), fun x => ?_, rfl, rfl⟩
    rw [List.mem_eraseIdx_iff_getElem]
    constructor
    · rintro ⟨j, hj, hji, rfl⟩
      refine ⟨List.getElem_mem hj, fun h => hji ?_⟩
      rw [← g4] at h
      exact (List.getElem_inj hnk).1 h
    · rintro ⟨hx, hxs⟩
      obtain ⟨j, hj, rfl⟩ := List.getElem_of_mem hx
      exact ⟨j, hj, fun h => hxs (by subst h; exact g4), rfl⟩
theorem ok122 {G : Nat → DV} (h : List Blk) (b : Nat) (ks : List Int) (s : Int) (hb : h[b]? = some (.map (smap ks))) :
    Ok Try.prog G 122 [.mp b, .p (.int .i64 s)] h (.p (.bool (setHas ks s))) h := by
  refine Ok_by Try.func122 c122_ok r122_ok 12 rfl ?_
  obtain ⟨r, h1, h2, h3⟩ := mfind_smap s ks 0
  simp [c122, r122, hb, h1]
  cases r with
  | none => simp [h2 rfl]
  | some i =>
    obtain ⟨g1, _, g3, g4⟩ := h3 i rfl
    simp at g3
    simp [smap_get g3, g1]

/-- One set has the other one's elements. -/
def sameSet (ks ls : List Int) : Bool := decide (ks.length = ls.length) && ks.all fun x => setHas ls x
theorem ok121 {G : Nat → DV} (hG : GZ G) (h : List Blk) (a b : Nat) (ks ls : List Int) (ha : h[a]? = some (.map (smap ks))) (hl : ks.length ≤ 1000) (hb : h[b]? = some (.map (smap ls))) (hll : ls.length ≤ 1000) :
    Ok Try.prog G 121 [.mp a, .mp b] h (.p (.bool (sameSet ks ls))) h := by
  refine Ok.wf fun hw => ?_
  have hal : a < h.length := (List.getElem?_eq_some_iff.1 ha).1
  have hbl : b < h.length := (List.getElem?_eq_some_iff.1 hb).1
  refine Ok_by Try.func121 c121_ok r121_ok 25 rfl ?_
  simp [c121, r121, ha, hb]
  refine CC_by (fun h1 => ?_) (fun h1 => ?_)
  · have : ¬ ks.length = ls.length := by simp at h1; omega
    simp [sameSet, this]
  have hab : ks.length = ls.length := by simp at h1; omega
  simp [ha]
  refine VV_fam (fun x : List Nat × Option Nat => ⟨fr 27 [(1, .mp b), (14, .it h.length)], h ++ [.mit (some a) (x.1, x.2)]⟩)
    (fun x => x.1.Nodup ∧ (∀ j, j ∈ x.1 → j < ks.length) ∧ ∀ i (hi : i < ks.length), i ∉ x.1 → setHas ls ks[i] = true) (fun x => x.1.length) (List.range ks.length, none)
    ⟨List.nodup_range, fun j hj => List.mem_range.1 hj, fun i hi h => by simp at h; omega⟩ (Wk.fits (by simp)) ?_
  rintro ⟨left, cur⟩ ⟨hn, hlt, hall⟩ B hbk he hr
  simp only at hn hlt hall
  simp [get_pre ha]
  refine ⟨fun hnil => ?_, fun j hj => ?_⟩
  · subst hnil
    refine he _ _ ?_
    simp
    have : sameSet ks ls = true := by
      simp [sameSet, hab]
      intro x hx
      obtain ⟨i, hi, rfl⟩ := List.getElem_of_mem hx
      exact hall i hi (by simp)
    simp [this]
  · have hjl := hlt j hj
    obtain ⟨r, f1, f2, f3⟩ := mfind_smap ks[j] ls 0
    simp [smap_get hjl, get_pre hb, f1, Value.oneCell']
    cases r with
    | none =>
      have hnot := f2 rfl
      simp
      refine hr _ ?_
      have : sameSet ks ls = false := by
        simp [sameSet, hab]
        exact ⟨ks[j], List.getElem_mem hjl, hnot⟩
      simp [this]
    | some i =>
      obtain ⟨g1, g2, g3, g4⟩ := f3 i rfl
      simp at g3
      simp [smap_get g3]
      refine hbk _ (left.erase j, some j) (Wk.cut hG (by simp) (by simp) (fun _ => hw.push fun k hk => by
        simp at hk
        subst hk
        simp [Blk.wf]; omega) (by simp <;> omega)) ⟨hn.erase j, fun k hk => hlt k (List.mem_of_mem_erase hk), fun i hi h => ?_⟩ (erase_len hj)
      rcases (got_erase hn i).1 h with h | rfl
      · exact hall i hi h
      · exact g1

theorem wf_ints {B : Nat → Prop} {sz : Nat} {l : List Int} : (Blk.cells sz (ints l)).wf B := fun j hj => by
  simp only [ints, List.getElem_map]
  exact .p
theorem ok118 {G : Nat → DV} (hG : GZ G) (h : List Blk) (a : Nat) (ks : List Int) (ha : h[a]? = some (.map (smap ks))) (hl : ks.length ≤ 1000) (hnk : ks.Nodup) :
    Ok Try.prog G 118 [.mp a] h (.fz 1 (ints (setOf ks))) h := by
  refine Ok.wf fun hw => ?_
  have hal : a < h.length := (List.getElem?_eq_some_iff.1 ha).1
  refine Ok_by Try.func118 c118_ok r118_ok 20 rfl ?_
  simp [c118, r118, ha]
  refine MK_sl (by omega) (by omega) (by simp; omega) ?_
  simp [get_pre ha]
  refine VV_fam (fun x : List Nat × Option Nat × List Int => ⟨fr 21 [(3, .sl h.length 0 x.2.2.length x.2.2.length), (9, .it (h.length + 1))], h ++ [.cells 1 (ints x.2.2), .mit (some a) (x.1, x.2.1)]⟩)
    (fun x => x.1.Nodup ∧ (∀ j, j ∈ x.1 → j < ks.length) ∧ x.2.2.Nodup ∧ x.2.2.length + x.1.length = ks.length ∧ ∀ y, y ∈ x.2.2 ↔ Got ks (fun _ => False) (fun x y => y = x) x.1 y) (fun x => x.1.length) (List.range ks.length, none, [])
    ⟨List.nodup_range, fun j hj => List.mem_range.1 hj, by simp, by simp, got_start (by simp)⟩ (Wk.fits (by simp)) ?_
  rintro ⟨left, cur, ks'⟩ ⟨hn, hlt, hnk', hlen, hmem⟩ B hbk he hr
  simp only at hn hlt hnk' hlen hmem
  simp [get_pre ha]
  refine ⟨fun hnil => ?_, fun j hj => ?_⟩
  · subst hnil
    refine he _ _ ?_
    simp
    refine FF_by (ok140 _ h.length ks' (by simp) (by simp at hlen; omega)) ?_
    simp
    have hks : setOf ks = sortT ks' := by
      rw [sortT_setOf hnk', setOf_eq]
      intro y
      rw [got_end hmem]; simp
    have hsl : (sortT ks').length = ks'.length := by simp [sortT]
    rw [hks]
    refine WkV.frz 2 (HPre.append _ _) ?_
    rw [frz_sl (els := ints (sortT ks')) (sz := 1) ints_plain (by simp) (Nat.le_refl _) (by simp [hsl])]
    rw [List.drop_zero, List.take_of_length_le (by simp [hsl])]
  · have hjl := hlt j hj
    have hnot : ks[j] ∉ ks' := fun hc => by
      rcases (hmem _).1 hc with h0 | ⟨i, hi, h1, h2⟩
      · exact h0
      · have := (List.getElem_inj hnk).1 h2
        subst this
        exact h1 hj
    have hadd : addNew ks' ks[j] = ks' ++ [ks[j]] := by
      unfold addNew
      rw [if_neg]
      simp [setHas]
      exact hnot
    have hg := got_add hn hjl hmem (s := ks[j]) (by simp)
    have hnk2 := nodup_addNew (s := ks[j]) hnk'
    rw [hadd] at hg hnk2
    have hel := erase_len hj
    have hel2 := List.length_erase_of_mem hj
    simp [smap_get hjl, get_pre ha, Value.oneCell', DA_raw]
    have hjp := List.length_pos_of_mem hj
    refine AA_at ?_
    simp
    refine ⟨by omega, ?_⟩
    rw [ints_push]
    refine hbk _ (left.erase j, some j, ks' ++ [ks[j]]) (Wk.cut hG (by simp) (by simp) (fun _ => hw.push fun k hk => ?_) (by simp <;> omega)) ⟨hn.erase j, fun k hk => hlt k (List.mem_of_mem_erase hk), hnk2, by simp; omega, hg⟩ (by simpa using hel)
    simp at hk
    rcases hk with rfl | rfl
    · exact wf_ints
    · simp [Blk.wf]; omega

end Go.Proofs.Ytdgnjngbheecnaa
