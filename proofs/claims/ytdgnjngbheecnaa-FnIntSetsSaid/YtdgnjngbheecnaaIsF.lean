/- What each step of a walk over a set of ints gathers. -/
import Derived.Test.YtdgnjngbheecnaaIsE
set_option linter.unusedVariables false
set_option linter.unusedSimpArgs false
set_option maxRecDepth 100000
set_option maxHeartbeats 4000000
namespace Go.Proofs.Ytdgnjngbheecnaa
open Go Go.Den Go.Proofs

/-- What has been gathered so far: what stood before, and what R makes of the entries that are not left. -/
def Got (ks : List Int) (base : Int → Prop) (R : Int → Int → Prop) (left : List Nat) (y : Int) : Prop := base y ∨ ∃ i, ∃ hi : i < ks.length, i ∉ left ∧ R ks[i] y

variable {ks : List Int} {base : Int → Prop} {R : Int → Int → Prop} {left : List Nat} {ks' : List Int}
theorem got_start (hb : ∀ y, y ∈ ks' ↔ base y) : ∀ y, y ∈ ks' ↔ Got ks base R (List.range ks.length) y := fun y => by
  rw [hb, Got]
  constructor
  · exact .inl
  · rintro (h | ⟨i, hi, h, _⟩)
    · exact h
    · simp at h; omega
theorem got_erase (hn : left.Nodup) {j : Nat} (i : Nat) : i ∉ left.erase j ↔ i ∉ left ∨ i = j := by
  rw [hn.mem_erase_iff]
  by_cases hij : i = j <;> simp [hij]
theorem got_add (hn : left.Nodup) {j : Nat} (hj : j < ks.length) {s : Int} (hm : ∀ y, y ∈ ks' ↔ Got ks base R left y) (hR : ∀ y, R ks[j] y ↔ y = s) : ∀ y, y ∈ addNew ks' s ↔ Got ks base R (left.erase j) y := fun y => by
  rw [mem_addNew, hm, Got, Got]
  constructor
  · rintro ((h | ⟨i, hi, h1, h2⟩) | rfl)
    · exact .inl h
    · exact .inr ⟨i, hi, (got_erase hn i).2 (.inl h1), h2⟩
    · exact .inr ⟨j, hj, (got_erase hn j).2 (.inr rfl), (hR _).2 rfl⟩
  · rintro (h | ⟨i, hi, h1, h2⟩)
    · exact .inl (.inl h)
    · rcases (got_erase hn i).1 h1 with h3 | rfl
      · exact .inl (.inr ⟨i, hi, h3, h2⟩)
      · exact .inr ((hR _).1 h2)
theorem got_skip (hn : left.Nodup) {j : Nat} (hj : j < ks.length) (hm : ∀ y, y ∈ ks' ↔ Got ks base R left y) (hR : ∀ y, ¬ R ks[j] y) : ∀ y, y ∈ ks' ↔ Got ks base R (left.erase j) y := fun y => by
  rw [hm, Got, Got]
  constructor
  · rintro (h | ⟨i, hi, h1, h2⟩)
    · exact .inl h
    · exact .inr ⟨i, hi, (got_erase hn i).2 (.inl h1), h2⟩
  · rintro (h | ⟨i, hi, h1, h2⟩)
    · exact .inl h
    · rcases (got_erase hn i).1 h1 with h3 | rfl
      · exact .inr ⟨i, hi, h3, h2⟩
      · exact absurd h2 (hR _)
theorem got_end (hm : ∀ y, y ∈ ks' ↔ Got ks base R [] y) : ∀ y, y ∈ ks' ↔ base y ∨ ∃ x, x ∈ ks ∧ R x y := fun y => by
  rw [hm, Got]
  constructor
  · rintro (h | ⟨i, hi, h1, h2⟩)
    · exact .inl h
    · exact .inr ⟨_, List.getElem_mem hi, h2⟩
  · rintro (h | ⟨x, hx, h2⟩)
    · exact .inl h
    · obtain ⟨i, hi, rfl⟩ := List.getElem_of_mem hx
      exact .inr ⟨i, hi, by simp, h2⟩

/-- A fresh set of the elements that φ tells. -/
def SetR (h : List Blk) (φ : Int → Prop) (v : DV) (h' : List Blk) : Prop := ∃ ks', ks'.Nodup ∧ (∀ x, x ∈ ks' ↔ φ x) ∧ v = .mp h.length ∧ h' = h ++ [.map (smap ks')]

theorem it_wf {h : List Blk} (hw : HWF h) {a : Nat} {ks2 : List Int} {x : List Nat × Option Nat} (ha : a < h.length) : HWF (h ++ [Blk.map (smap ks2), Blk.mit (some a) x]) := hw.push fun k hk => by
  simp at hk
  rcases hk with rfl | rfl
  · exact smap_wf
  · simp [Blk.wf]; omega
theorem map_wf {h : List Blk} (hw : HWF h) {ks2 : List Int} : HWF (h ++ [Blk.map (smap ks2)]) := hw.push fun k hk => by
  simp at hk
  subst hk
  exact smap_wf
theorem erase_len {left : List Nat} {j : Nat} (hj : j ∈ left) : (left.erase j).length < left.length := by
  have := List.length_pos_of_mem hj
  rw [List.length_erase_of_mem hj]; omega

theorem ok111 {G : Nat → DV} (h : List Blk) (l : List Int) (hl : l.length ≤ 1000) : Ok Try.prog G 111 [.fz 1 (ints l)] h (.mp h.length) (h ++ [.map (smap (l.foldl addNew []))]) := by
  refine Ok.wf fun hw => ?_
  refine Ok_by Try.func111 c111_ok r111_ok 19 rfl ?_
  simp [c111, r111]
  have hlm : l.length ≤ maxLen := by rw [maxLen_eq]; omega
  refine VV_fam (fun i : Nat => ⟨fr 20 [(0, .fz 1 (ints l)), (3, .mp h.length), (9, .fz 1 (ints l)), (10, .p (.int .i64 l.length)), (11, .p (.int .i64 i))], h ++ [.map (smap ((l.take i).foldl addNew []))]⟩)
    (fun i => i ≤ l.length) (l.length - ·) 0 (by simp) (Wk.fits (by simp)) ?_
  intro i hi B hbk he hr
  simp
  refine CC_by (fun h2 => ?_) (fun h2 => ?_)
  · have hi' : i < l.length := by simpa using h2
    simp [hi']
    refine FF_by (ok113 _ _ ((l.take i).foldl addNew []) _ (by simp) (noIter_push (hw.noIter (Nat.le_refl _)) (by simp))) ?_
    simp [wrap_succ hi' hlm]
    have hnext : (l.take (i + 1)).foldl addNew [] = addNew ((l.take i).foldl addNew []) l[i] := by rw [List.take_succ_eq_append_getElem hi', List.foldl_append]; rfl
    rw [← hnext]
    refine hbk _ (i + 1) (Wk.fits (by simp)) hi' (by omega)
  · have : i = l.length := by simp at h2; omega
    subst this
    simp
    refine he _ _ ?_
    simp
    exact .refl

theorem ok112 {G : Nat → DV} (hG : GZ G) (h : List Blk) (a : Nat) (ks : List Int) (ha : h[a]? = some (.map (smap ks))) (hl : ks.length ≤ 1000) :
    OkR Try.prog G 112 [.mp a] h (SetR h (· ∈ ks)) := by
  refine OkR.wf fun hw => ?_
  have hal : a < h.length := (List.getElem?_eq_some_iff.1 ha).1
  refine OkR_by Try.func112 c112_ok r112_ok 19 rfl ?_
  simp [c112, r112, ha, get_pre ha]
  refine VV_fam (fun x : List Nat × Option Nat × List Int => ⟨fr 20 [(3, .mp h.length), (10, .it (h.length + 1))], h ++ [.map (smap x.2.2), .mit (some a) (x.1, x.2.1)]⟩)
    (fun x => x.1.Nodup ∧ (∀ j, j ∈ x.1 → j < ks.length) ∧ x.2.2.Nodup ∧ ∀ y, y ∈ x.2.2 ↔ Got ks (fun _ => False) (fun x y => y = x) x.1 y) (fun x => x.1.length) (List.range ks.length, none, [])
    ⟨List.nodup_range, fun j hj => List.mem_range.1 hj, by simp, got_start (by simp)⟩ (Wk.fits (by simp)) ?_
  rintro ⟨left, cur, ks'⟩ ⟨hn, hlt, hnk, hmem⟩ B hbk he hr
  simp only at hn hlt hnk hmem
  simp [get_pre ha]
  refine ⟨fun hnil => ?_, fun j hj => ?_⟩
  · subst hnil
    refine he _ _ ?_
    simp
    refine REr_by (.mp h.length) (h ++ [.map (smap ks')]) (WkV.cut (by simp) (by simp) (fun _ => map_wf hw) (by simp)) ⟨ks', hnk, fun x => ?_, rfl, rfl⟩
    rw [got_end hmem]; simp
  · have hjl := hlt j hj
    obtain ⟨r, f1, f2, f3⟩ := mfind_smap ks[j] ks' 0
    simp [smap_get hjl, get_pre ha, f1, Value.oneCell', mput_smap f1]
    refine ⟨noIter_push (hw.noIter (Nat.le_refl _)) (by simp; omega), ?_⟩
    refine hbk _ (left.erase j, some j, addNew ks' ks[j]) (Wk.cut hG (by simp) (by simp) (fun _ => it_wf hw hal) (by simp)) ⟨hn.erase j, fun k hk => hlt k (List.mem_of_mem_erase hk), nodup_addNew hnk, got_add hn hjl hmem (by simp)⟩ (erase_len hj)

theorem ok119n {G : Nat → DV} (hG : GZ G) (h : List Blk) (a : Nat) (b : Nat) (ks : List Int) (ha : h[a]? = some (.map (smap ks))) (hl : ks.length ≤ 1000) (ls : List Int) (hb : h[b]? = some (.map (smap ls))) :
    OkR Try.prog G 119 [.mp a, .mp b] h (SetR h fun y => y ∈ ks ∧ y ∈ ls) := by
  refine OkR.wf fun hw => ?_
  have hal : a < h.length := (List.getElem?_eq_some_iff.1 ha).1
  have hbl : b < h.length := (List.getElem?_eq_some_iff.1 hb).1
  refine OkR_by Try.func119 c119_ok r119_ok 25 rfl ?_
  simp [c119, r119]
  refine FF_by (ok139 h) ?_
  simp [get_pre ha]
  refine VV_fam (fun x : List Nat × Option Nat × List Int => ⟨fr 27 [(1, .mp b), (5, .mp h.length), (11, .it (h.length + 1))], h ++ [.map (smap x.2.2), .mit (some a) (x.1, x.2.1)]⟩)
    (fun x => x.1.Nodup ∧ (∀ j, j ∈ x.1 → j < ks.length) ∧ x.2.2.Nodup ∧ ∀ y, y ∈ x.2.2 ↔ Got ks (fun _ => False) (fun x y => y = x ∧ x ∈ ls) x.1 y) (fun x => x.1.length) (List.range ks.length, none, [])
    ⟨List.nodup_range, fun j hj => List.mem_range.1 hj, by simp, got_start (by simp)⟩ (Wk.fits (by simp)) ?_
  rintro ⟨left, cur, ks'⟩ ⟨hn, hlt, hnk, hmem⟩ B hbk he hr
  simp only at hn hlt hnk hmem
  simp [get_pre ha]
  refine ⟨fun hnil => ?_, fun j hj => ?_⟩
  · subst hnil
    refine he _ _ ?_
    simp
    refine REr_by (.mp h.length) (h ++ [.map (smap ks')]) (WkV.cut (by simp) (by simp) (fun _ => map_wf hw) (by simp)) ⟨ks', hnk, fun x => ?_, rfl, rfl⟩
    rw [got_end hmem]; simp only [false_or]; constructor; (rintro ⟨_, h1, rfl, h2⟩; exact ⟨h1, h2⟩); (rintro ⟨h1, h2⟩; exact ⟨_, h1, rfl, h2⟩)
  · have hjl := hlt j hj
    obtain ⟨r, f1, f2, f3⟩ := mfind_smap ks[j] ls 0
    simp [smap_get hjl, get_pre hb, f1, Value.oneCell']
    cases r with
    | none =>
      have hnot : ks[j] ∉ ls := fun hc => by have := f2 rfl; simp [setHas] at this; exact this _ hc rfl
      simp
      refine hbk _ (left.erase j, some j, ks') (Wk.cut hG (by simp) (by simp) (fun _ => it_wf hw hal) (by simp <;> omega)) ⟨hn.erase j, fun k hk => hlt k (List.mem_of_mem_erase hk), hnk, got_skip hn hjl hmem (by rintro y ⟨_, h⟩; exact hnot h)⟩ (erase_len hj)
    | some i =>
      have hin : ks[j] ∈ ls := by obtain ⟨_, _, g3, g4⟩ := f3 i rfl; rw [← g4]; exact List.getElem_mem _
      obtain ⟨g1, g2, g3, g4⟩ := f3 i rfl
      simp at g3
      simp [smap_get g3]
      refine FF_by (ok113 _ _ ks' ks[j] (by simp) (noIter_push (hw.noIter (Nat.le_refl _)) (by simp; omega))) ?_
      simp
      refine hbk _ (left.erase j, some j, addNew ks' ks[j]) (Wk.cut hG (by simp) (by simp) (fun _ => it_wf hw hal) (by simp <;> omega)) ⟨hn.erase j, fun k hk => hlt k (List.mem_of_mem_erase hk), nodup_addNew hnk, got_add hn hjl hmem (by intro y; constructor; (rintro ⟨rfl, _⟩; rfl); (rintro rfl; exact ⟨rfl, hin⟩))⟩ (erase_len hj)

theorem ok120n {G : Nat → DV} (hG : GZ G) (h : List Blk) (a : Nat) (b : Nat) (ks : List Int) (ha : h[a]? = some (.map (smap ks))) (hl : ks.length ≤ 1000) (ls : List Int) (hb : h[b]? = some (.map (smap ls))) :
    OkR Try.prog G 120 [.mp a, .mp b] h (SetR h fun y => y ∈ ks ∧ ¬ y ∈ ls) := by
  refine OkR.wf fun hw => ?_
  have hal : a < h.length := (List.getElem?_eq_some_iff.1 ha).1
  have hbl : b < h.length := (List.getElem?_eq_some_iff.1 hb).1
  refine OkR_by Try.func120 c120_ok r120_ok 26 rfl ?_
  simp [c120, r120]
  refine FF_by (ok139 h) ?_
  simp [get_pre ha]
  refine VV_fam (fun x : List Nat × Option Nat × List Int => ⟨fr 28 [(1, .mp b), (5, .mp h.length), (11, .it (h.length + 1))], h ++ [.map (smap x.2.2), .mit (some a) (x.1, x.2.1)]⟩)
    (fun x => x.1.Nodup ∧ (∀ j, j ∈ x.1 → j < ks.length) ∧ x.2.2.Nodup ∧ ∀ y, y ∈ x.2.2 ↔ Got ks (fun _ => False) (fun x y => y = x ∧ ¬ x ∈ ls) x.1 y) (fun x => x.1.length) (List.range ks.length, none, [])
    ⟨List.nodup_range, fun j hj => List.mem_range.1 hj, by simp, got_start (by simp)⟩ (Wk.fits (by simp)) ?_
  rintro ⟨left, cur, ks'⟩ ⟨hn, hlt, hnk, hmem⟩ B hbk he hr
  simp only at hn hlt hnk hmem
  simp [get_pre ha]
  refine ⟨fun hnil => ?_, fun j hj => ?_⟩
  · subst hnil
    refine he _ _ ?_
    simp
    refine REr_by (.mp h.length) (h ++ [.map (smap ks')]) (WkV.cut (by simp) (by simp) (fun _ => map_wf hw) (by simp)) ⟨ks', hnk, fun x => ?_, rfl, rfl⟩
    rw [got_end hmem]; simp only [false_or]; constructor; (rintro ⟨_, h1, rfl, h2⟩; exact ⟨h1, h2⟩); (rintro ⟨h1, h2⟩; exact ⟨_, h1, rfl, h2⟩)
  · have hjl := hlt j hj
    obtain ⟨r, f1, f2, f3⟩ := mfind_smap ks[j] ls 0
    simp [smap_get hjl, get_pre hb, f1, Value.oneCell']
    cases r with
    | none =>
      have hnot : ks[j] ∉ ls := fun hc => by have := f2 rfl; simp [setHas] at this; exact this _ hc rfl
      simp
      refine FF_by (ok113 _ _ ks' ks[j] (by simp) (noIter_push (hw.noIter (Nat.le_refl _)) (by simp; omega))) ?_
      simp
      refine hbk _ (left.erase j, some j, addNew ks' ks[j]) (Wk.cut hG (by simp) (by simp) (fun _ => it_wf hw hal) (by simp <;> omega)) ⟨hn.erase j, fun k hk => hlt k (List.mem_of_mem_erase hk), nodup_addNew hnk, got_add hn hjl hmem (by intro y; constructor; (rintro ⟨rfl, _⟩; rfl); (rintro rfl; exact ⟨rfl, hnot⟩))⟩ (erase_len hj)
    | some i =>
      have hin : ks[j] ∈ ls := by obtain ⟨_, _, g3, g4⟩ := f3 i rfl; rw [← g4]; exact List.getElem_mem _
      obtain ⟨g1, g2, g3, g4⟩ := f3 i rfl
      simp at g3
      simp [smap_get g3]
      refine hbk _ (left.erase j, some j, ks') (Wk.cut hG (by simp) (by simp) (fun _ => it_wf hw hal) (by simp <;> omega)) ⟨hn.erase j, fun k hk => hlt k (List.mem_of_mem_erase hk), hnk, got_skip hn hjl hmem (by rintro y ⟨_, h⟩; exact h hin)⟩ (erase_len hj)

/-- Half of it. -/
def bang (s : Int) : Int := IntKind.i64.wrap (s.tdiv 2)
theorem ok55 {G : Nat → DV} (h : List Blk) (s : Int) : Ok Try.prog G 55 [.p (.int .i64 s)] h (.p (.int .i64 (bang s))) h := by
  refine Ok_by Try.func55 c55_ok r55_ok 4 rfl ?_
  simp [c55, r55, bang]
theorem cf55 : cFunc Try.prog 55 = true := by kernel_rfl
theorem cf57 : cFunc Try.prog 57 = true := by kernel_rfl
theorem cf118 : cFunc Try.prog 118 = true := by kernel_rfl
def begins (s x : Int) : Bool := less s x
theorem ok57 {G : Nat → DV} (h : List Blk) (s x : Int) : Ok Try.prog G 57 [.p (.int .i64 s), .p (.int .i64 x)] h (.p (.bool (begins s x))) h := by
  refine Ok_by Try.func57 c57_ok r57_ok 6 rfl ?_
  simp [c57, r57, begins, less]
theorem ok115n {G : Nat → DV} (hG : GZ G) (h : List Blk) (a : Nat) (ks : List Int) (ha : h[a]? = some (.map (smap ks))) (hl : ks.length ≤ 1000) :
    OkR Try.prog G 115 [.mp a, .fn (.func 55) [] []] h (SetR h fun y => ∃ x, x ∈ ks ∧ y = bang x) := by
  refine OkR.wf fun hw => ?_
  have hal : a < h.length := (List.getElem?_eq_some_iff.1 ha).1
  refine OkR_by Try.func115 c115_ok r115_ok 18 rfl ?_
  simp [c115, r115]
  refine FF_by (ok139 h) ?_
  simp [get_pre ha]
  refine VV_fam (fun x : List Nat × Option Nat × List Int => ⟨fr 20 [(1, .fn (.func 55) [] []), (5, .mp h.length), (9, .it (h.length + 1))], h ++ [.map (smap x.2.2), .mit (some a) (x.1, x.2.1)]⟩)
    (fun x => x.1.Nodup ∧ (∀ j, j ∈ x.1 → j < ks.length) ∧ x.2.2.Nodup ∧ ∀ y, y ∈ x.2.2 ↔ Got ks (fun _ => False) (fun x y => y = bang x) x.1 y) (fun x => x.1.length) (List.range ks.length, none, [])
    ⟨List.nodup_range, fun j hj => List.mem_range.1 hj, by simp, got_start (by simp)⟩ (Wk.fits (by simp)) ?_
  rintro ⟨left, cur, ks'⟩ ⟨hn, hlt, hnk, hmem⟩ B hbk he hr
  simp only at hn hlt hnk hmem
  simp [get_pre ha]
  refine ⟨fun hnil => ?_, fun j hj => ?_⟩
  · subst hnil
    refine he _ _ ?_
    simp
    refine REr_by (.mp h.length) (h ++ [.map (smap ks')]) (WkV.cut (by simp) (by simp) (fun _ => map_wf hw) (by simp)) ⟨ks', hnk, fun x => ?_, rfl, rfl⟩
    rw [got_end hmem]; simp
  · have hjl := hlt j hj
    simp [smap_get hjl, get_pre ha, Value.oneCell']
    refine CV_by cf55 ?_
    simp
    refine FF_by (ok55 _ ks[j]) ?_
    simp
    refine FF_by (ok113 _ _ ks' (bang ks[j]) (by simp) (noIter_push (hw.noIter (Nat.le_refl _)) (by simp; omega))) ?_
    simp
    refine hbk _ (left.erase j, some j, addNew ks' (bang ks[j])) (Wk.cut hG (by simp) (by simp) (fun _ => it_wf hw hal) (by simp <;> omega)) ⟨hn.erase j, fun k hk => hlt k (List.mem_of_mem_erase hk), nodup_addNew hnk, got_add hn hjl hmem (by simp)⟩ (erase_len hj)

theorem ok116n {G : Nat → DV} (hG : GZ G) (h : List Blk) (a : Nat) (s : Int) (ks : List Int) (ha : h[a]? = some (.map (smap ks))) (hl : ks.length ≤ 1000) :
    OkR Try.prog G 116 [.mp a, .fn (.func 57) [] [], .p (.int .i64 s)] h (SetR h fun y => y ∈ ks ∧ begins y s = true) := by
  refine OkR.wf fun hw => ?_
  have hal : a < h.length := (List.getElem?_eq_some_iff.1 ha).1
  refine OkR_by Try.func116 c116_ok r116_ok 21 rfl ?_
  simp [c116, r116]
  refine FF_by (ok139 h) ?_
  simp [get_pre ha]
  refine VV_fam (fun x : List Nat × Option Nat × List Int => ⟨fr 24 [(1, .fn (.func 57) [] []), (2, .p (.int .i64 s)), (7, .mp h.length), (11, .it (h.length + 1))], h ++ [.map (smap x.2.2), .mit (some a) (x.1, x.2.1)]⟩)
    (fun x => x.1.Nodup ∧ (∀ j, j ∈ x.1 → j < ks.length) ∧ x.2.2.Nodup ∧ ∀ y, y ∈ x.2.2 ↔ Got ks (fun _ => False) (fun x y => y = x ∧ begins x s = true) x.1 y) (fun x => x.1.length) (List.range ks.length, none, [])
    ⟨List.nodup_range, fun j hj => List.mem_range.1 hj, by simp, got_start (by simp)⟩ (Wk.fits (by simp)) ?_
  rintro ⟨left, cur, ks'⟩ ⟨hn, hlt, hnk, hmem⟩ B hbk he hr
  simp only at hn hlt hnk hmem
  simp [get_pre ha]
  refine ⟨fun hnil => ?_, fun j hj => ?_⟩
  · subst hnil
    refine he _ _ ?_
    simp
    refine REr_by (.mp h.length) (h ++ [.map (smap ks')]) (WkV.cut (by simp) (by simp) (fun _ => map_wf hw) (by simp)) ⟨ks', hnk, fun x => ?_, rfl, rfl⟩
    rw [got_end hmem]; simp only [false_or]; constructor; (rintro ⟨_, h1, rfl, h2⟩; exact ⟨h1, h2⟩); (rintro ⟨h1, h2⟩; exact ⟨_, h1, rfl, h2⟩)
  · have hjl := hlt j hj
    simp [smap_get hjl, get_pre ha, Value.oneCell']
    refine CV_by cf57 ?_
    simp
    refine FF_by (ok57 _ ks[j] s) ?_
    simp
    refine CC_by (fun h2 => ?_) (fun h2 => ?_)
    · simp
      refine FF_by (ok113 _ _ ks' ks[j] (by simp) (noIter_push (hw.noIter (Nat.le_refl _)) (by simp; omega))) ?_
      simp
      refine hbk _ (left.erase j, some j, addNew ks' ks[j]) (Wk.cut hG (by simp) (by simp) (fun _ => it_wf hw hal) (by simp <;> omega)) ⟨hn.erase j, fun k hk => hlt k (List.mem_of_mem_erase hk), nodup_addNew hnk, got_add hn hjl hmem (by simp [h2])⟩ (erase_len hj)
    · simp
      refine hbk _ (left.erase j, some j, ks') (Wk.cut hG (by simp) (by simp) (fun _ => it_wf hw hal) (by simp <;> omega)) ⟨hn.erase j, fun k hk => hlt k (List.mem_of_mem_erase hk), hnk, got_skip hn hjl hmem (by simp [h2])⟩ (erase_len hj)
theorem ok111s {G : Nat → DV} (h : List Blk) (b0 : Nat) (l : List Int) (hb0 : h[b0]? = some (.cells 1 (ints l))) (hl : l.length ≤ 1000) : Ok Try.prog G 111 [.sl b0 0 l.length l.length] h (.mp h.length) (h ++ [.map (smap (l.foldl addNew []))]) := by
  refine Ok.wf fun hw => ?_
  refine Ok_by Try.func111 c111_ok r111_ok 19 rfl ?_
  simp [c111, r111]
  have hlm : l.length ≤ maxLen := by rw [maxLen_eq]; omega
  refine VV_fam (fun i : Nat => ⟨fr 20 [(0, .sl b0 0 l.length l.length), (3, .mp h.length), (9, .sl b0 0 l.length l.length), (10, .p (.int .i64 l.length)), (11, .p (.int .i64 i))], h ++ [.map (smap ((l.take i).foldl addNew []))]⟩)
    (fun i => i ≤ l.length) (l.length - ·) 0 (by simp) (Wk.fits (by simp)) ?_
  intro i hi B hbk he hr
  simp
  refine CC_by (fun h2 => ?_) (fun h2 => ?_)
  · have hi' : i < l.length := by simpa using h2
    simp [hi', get_pre hb0]
    refine FF_by (ok113 _ _ ((l.take i).foldl addNew []) _ (by simp) (noIter_push (hw.noIter (Nat.le_refl _)) (by simp))) ?_
    simp [wrap_succ hi' hlm]
    have hnext : (l.take (i + 1)).foldl addNew [] = addNew ((l.take i).foldl addNew []) l[i] := by rw [List.take_succ_eq_append_getElem hi', List.foldl_append]; rfl
    rw [← hnext]
    refine hbk _ (i + 1) (Wk.fits (by simp)) hi' (by omega)
  · have : i = l.length := by simp at h2; omega
    subst this
    simp
    refine he _ _ ?_
    simp
    exact .refl


end Go.Proofs.Ytdgnjngbheecnaa
