/- Ascending lists of ints; the ordered slice. (turned from another seat by mkpu.py) -/
import Derived.Test.YtppjcnaffphakaaGreatDoorSeA
import Derived.Test.YtppjcnaffphakaaGreatDoorSoA
import Derived.Test.YtppjcnaffphakaaGreatDoorSoL
set_option linter.unusedVariables false
set_option linter.unusedSimpArgs false
set_option maxRecDepth 100000
set_option maxHeartbeats 4000000
namespace Go.Proofs.YtppjcnaffphakaaGreatDoor
open Go Go.Den Go.Proofs

theorem less_irrefl (a : Int) : less a a = false := by simp [less]
theorem less_trans {a b c : Int} (h : less a b = true) (h' : less b c = true) : less a c = true := by simp [less] at *; omega
theorem less_total {a b : Int} (h : less a b = false) (hne : a ≠ b) : less b a = true := by simp [less] at *; omega
theorem mem_insT {s x : Int} : ∀ {l : List Int}, x ∈ insT s l ↔ x = s ∨ x ∈ l
  | [] => by simp [insT]
  | y :: l => by
    simp only [insT]
    split
    · simp only [List.mem_cons, mem_insT]
      constructor <;> (rintro (h | h | h) <;> simp [h])
    · split
      · rename_i h; subst h; simp
      · simp
theorem mem_setOf {x : Int} {L : List Int} : x ∈ setOf L ↔ x ∈ L := by
  have : ∀ (L out : List Int), x ∈ L.foldl (fun out s => insT s out) out ↔ x ∈ out ∨ x ∈ L := by
    intro L
    induction L with
    | nil => intro out; simp
    | cons s L ih =>
      intro out
      rw [List.foldl_cons, ih, mem_insT, List.mem_cons]
      constructor
      · rintro ((h | h) | h)
        · exact .inr (.inl h)
        · exact .inl h
        · exact .inr (.inr h)
      · rintro (h | h | h)
        · exact .inl (.inr h)
        · exact .inl (.inl h)
        · exact .inr h
  have := this L []
  simpa [setOf] using this
def asc (l : List Int) : Prop := l.Pairwise fun a b => less a b = true
theorem asc_insT {s : Int} : ∀ {l : List Int}, asc l → asc (insT s l)
  | [], _ => by simp [asc, insT]
  | y :: l, h => by
    have hy := List.pairwise_cons.1 h
    simp only [insT]
    split
    · rename_i h1
      refine List.pairwise_cons.2 ⟨fun x hx => ?_, asc_insT hy.2⟩
      rcases mem_insT.1 hx with rfl | hx
      · exact h1
      · exact hy.1 x hx
    · split
      · exact h
      · rename_i h1 h2
        have h3 : less s y = true := less_total (by simpa using h1) h2
        refine List.pairwise_cons.2 ⟨fun x hx => ?_, h⟩
        rcases List.mem_cons.1 hx with rfl | hx
        · exact h3
        · exact less_trans h3 (hy.1 x hx)
theorem asc_setOf (L : List Int) : asc (setOf L) := by
  have : ∀ (L out : List Int), asc out → asc (L.foldl (fun out s => insT s out) out) := by
    intro L
    induction L with
    | nil => intro out h; exact h
    | cons s L ih => intro out h; exact ih _ (asc_insT h)
  exact this L [] List.Pairwise.nil
theorem asc_ext : ∀ {a b : List Int}, asc a → asc b → (∀ x, x ∈ a ↔ x ∈ b) → a = b
  | [], [], _, _, _ => rfl
  | [], y :: b, _, _, h => by have := (h y).2 (by simp); simp at this
  | x :: a, [], _, _, h => by have := (h x).1 (by simp); simp at this
  | x :: a, y :: b, ha, hb, h => by
    have ha' := List.pairwise_cons.1 ha
    have hb' := List.pairwise_cons.1 hb
    have hxy : x = y := by
      rcases List.mem_cons.1 ((h x).1 (by simp)) with h1 | h1
      · exact h1
      · rcases List.mem_cons.1 ((h y).2 (by simp)) with h2 | h2
        · exact h2.symm
        · have h3 := less_trans (hb'.1 x h1) (ha'.1 y h2)
          rw [less_irrefl] at h3
          cases h3
    subst hxy
    have hnot : ∀ {l : List Int}, (∀ z, z ∈ l → less x z = true) → x ∉ l := fun hl hx => by have := hl x hx; rw [less_irrefl] at this; cases this
    rw [asc_ext ha'.2 hb'.2 fun z => ?_]
    have hz := h z
    simp only [List.mem_cons] at hz
    constructor
    · intro hza
      rcases hz.1 (.inr hza) with rfl | h1
      · exact absurd hza (hnot ha'.1)
      · exact h1
    · intro hzb
      rcases hz.2 (.inr hzb) with rfl | h1
      · exact absurd hzb (hnot hb'.1)
      · exact h1
theorem setOf_eq {a b : List Int} : setOf a = setOf b ↔ ∀ x, x ∈ a ↔ x ∈ b :=
  ⟨fun h x => by rw [← mem_setOf, h, mem_setOf], fun h => asc_ext (asc_setOf a) (asc_setOf b) fun x => by rw [mem_setOf, mem_setOf]; exact h x⟩

theorem nodup_addNew {ks : List Int} {s : Int} (h : ks.Nodup) : (addNew ks s).Nodup := by
  unfold addNew
  split
  · exact h
  · rename_i hs
    refine List.nodup_append.2 ⟨h, by simp, fun x hx y hy => ?_⟩
    simp at hy
    subst hy
    rintro rfl
    apply hs
    simp [setHas]
    exact hx
theorem nodup_foldl : ∀ (L out : List Int), out.Nodup → (L.foldl addNew out).Nodup
  | [], out, h => h
  | s :: L, out, h => nodup_foldl L _ (nodup_addNew h)
/-- What has no more than a list of different ones has, has the same. -/
theorem sub_back {x : Int} : ∀ {a b : List Int}, a.Nodup → (∀ z, z ∈ a → z ∈ b) → b.length ≤ a.length → x ∈ b → x ∈ a
  | [], b, _, _, hl, hx => by
    have : b = [] := List.eq_nil_of_length_eq_zero (by simpa using hl)
    subst this
    exact hx
  | y :: a, b, hn, hs, hl, hx => by
    have hn' := List.nodup_cons.1 hn
    by_cases hxy : x = y
    · simp [hxy]
    · have hlt : (b.filter fun z => decide (z ≠ y)).length < b.length := List.length_filter_lt_length_iff_exists.2 ⟨y, hs y (by simp), by simp⟩
      have := sub_back (x := x) (a := a) (b := b.filter fun z => decide (z ≠ y)) hn'.2 (fun z hz => by
        have h1 := hs z (by simp [hz])
        have h2 : z ≠ y := fun h => hn'.1 (h ▸ hz)
        simp [h1, h2]) (by simp only [List.length_cons] at hl; omega) (by simp [hx, hxy])
      simp [this]
theorem len_of_sub : ∀ {a b : List Int}, a.Nodup → (∀ z, z ∈ a → z ∈ b) → a.length ≤ b.length
  | [], b, _, _ => by simp
  | y :: a, b, hn, hs => by
    have hn' := List.nodup_cons.1 hn
    have hlt : (b.filter fun z => decide (z ≠ y)).length < b.length := List.length_filter_lt_length_iff_exists.2 ⟨y, hs y (by simp), by simp⟩
    have := len_of_sub (a := a) (b := b.filter fun z => decide (z ≠ y)) hn'.2 (fun z hz => by
      have h1 := hs z (by simp [hz])
      have h2 : z ≠ y := fun h => hn'.1 (h ▸ hz)
      simp [h1, h2])
    simp only [List.length_cons]
    omega
theorem evEq_spec {a b : List Int} (ha : a.Nodup) (hb : b.Nodup) : evEq a b = decide (setOf a = setOf b) := by
  rw [Bool.eq_iff_iff]
  simp only [decide_eq_true_eq, setOf_eq, evEq, Bool.and_eq_true, List.all_eq_true, setHas, List.any_eq_true]
  constructor
  · rintro ⟨h1, h2⟩ x
    have hs : ∀ z, z ∈ a → z ∈ b := fun z hz => by obtain ⟨y, hy, rfl⟩ := h2 z hz; exact hy
    exact ⟨hs x, sub_back ha hs (by omega)⟩
  · intro h
    refine ⟨?_, fun x hx => ⟨x, (h x).1 hx, rfl⟩⟩
    have h1 := len_of_sub ha fun z hz => (h z).1 hz
    have h2 := len_of_sub hb fun z hz => (h z).2 hz
    omega

def sortT (l : List Int) : List Int := l.mergeSort fun x y => decide (x ≤ y)
theorem ok76 {G : Nat → DV} (h : List Blk) (b : Nat) (l : List Int) (hb : h[b]? = some (.cells 1 (ints l))) (hl : l.length < 4611686018427387904) :
    Ok Tryz.prog G 76 [.sl b 0 l.length l.length] h (.tup []) (h.set b (.cells 1 (ints (sortT l)))) :=
  Ok_sort (P := Tryz.prog) (G := G) (f := 76) (Value.int .i64) (fun _ => rfl) sortT (fun l => by simp [sortT])
    (fun blk off cap zs w h1 h2 h3 => Any.slices_Sort_int laysSortI blk off cap zs w h1 h2 h3)
    (fun p cap w => Any.slices_Sort_int_none laysSortI p cap w) h b l hb hl
theorem mem_sortT {l : List Int} {x : Int} : x ∈ sortT l ↔ x ∈ l := by simp [sortT, List.mem_mergeSort]
theorem asc_sortT {l : List Int} (hn : l.Nodup) : asc (sortT l) := by
  have h1 : (sortT l).Pairwise fun a b => decide (a ≤ b) = true := List.pairwise_mergeSort (fun a b c h h' => by
    simp at h h' ⊢
    omega) (fun a b => by
    simp
    omega) _
  have h2 : (sortT l).Nodup := by
    rw [sortT, (List.mergeSort_perm _ _).nodup_iff]
    exact hn
  refine (h1.and h2).imp fun {a b} h => ?_
  simp [less] at h ⊢
  omega
theorem sortT_setOf {l : List Int} (hn : l.Nodup) : sortT l = setOf l := asc_ext (asc_sortT hn) (asc_setOf l) fun x => by rw [mem_sortT, mem_setOf]
theorem setOf_ext {a b : List Int} (h : ∀ x, x ∈ a ↔ x ∈ b) : setOf a = setOf b := asc_ext (asc_setOf a) (asc_setOf b) fun x => by rw [mem_setOf, mem_setOf, h]

/-- What has been gathered so far: what stood before, and what R makes of the entries that are not left. -/
def Got (ks : List Int) (base : Int → Prop) (R : Int → Int → Prop) (left : List Nat) (y : Int) : Prop := base y ∨ ∃ i, ∃ hi : i < ks.length, i ∉ left ∧ R ks[i] y

variable {ks : List Int} {base : Int → Prop} {R : Int → Int → Prop} {left : List Nat} {ks' : List Int}
theorem got_start (hb : ∀ y, y ∈ ks' ↔ base y) : ∀ y, y ∈ ks' ↔ Got ks base R (List.range ks.length) y := fun y => by
  rw [hb, Got]
  constructor
  · exact .inl
  · rintro (h | ⟨i, hi, h, _⟩)
    · exact h
    · simp at h; omega
theorem got_erase (hn : left.Nodup) {j : Nat} (i : Nat) : i ∉ left.erase j ↔ i ∉ left ∨ i = j := by
  rw [hn.mem_erase_iff]
  by_cases hij : i = j <;> simp [hij]
theorem got_add (hn : left.Nodup) {j : Nat} (hj : j < ks.length) {s : Int} (hm : ∀ y, y ∈ ks' ↔ Got ks base R left y) (hR : ∀ y, R ks[j] y ↔ y = s) : ∀ y, y ∈ addNew ks' s ↔ Got ks base R (left.erase j) y := fun y => by
  rw [mem_addNew, hm, Got, Got]
  constructor
  · rintro ((h | ⟨i, hi, h1, h2⟩) | rfl)
    · exact .inl h
    · exact .inr ⟨i, hi, (got_erase hn i).2 (.inl h1), h2⟩
    · exact .inr ⟨j, hj, (got_erase hn j).2 (.inr rfl), (hR _).2 rfl⟩
  · rintro (h | ⟨i, hi, h1, h2⟩)
    · exact .inl (.inl h)
    · rcases (got_erase hn i).1 h1 with h3 | rfl
      · exact .inl (.inr ⟨i, hi, h3, h2⟩)
      · exact .inr ((hR _).1 h2)
theorem got_skip (hn : left.Nodup) {j : Nat} (hj : j < ks.length) (hm : ∀ y, y ∈ ks' ↔ Got ks base R left y) (hR : ∀ y, ¬ R ks[j] y) : ∀ y, y ∈ ks' ↔ Got ks base R (left.erase j) y := fun y => by
  rw [hm, Got, Got]
  constructor
  · rintro (h | ⟨i, hi, h1, h2⟩)
    · exact .inl h
    · exact .inr ⟨i, hi, (got_erase hn i).2 (.inl h1), h2⟩
  · rintro (h | ⟨i, hi, h1, h2⟩)
    · exact .inl h
    · rcases (got_erase hn i).1 h1 with h3 | rfl
      · exact .inr ⟨i, hi, h3, h2⟩
      · exact absurd h2 (hR _)
theorem got_end (hm : ∀ y, y ∈ ks' ↔ Got ks base R [] y) : ∀ y, y ∈ ks' ↔ base y ∨ ∃ x, x ∈ ks ∧ R x y := fun y => by
  rw [hm, Got]
  constructor
  · rintro (h | ⟨i, hi, h1, h2⟩)
    · exact .inl h
    · exact .inr ⟨_, List.getElem_mem hi, h2⟩
  · rintro (h | ⟨x, hx, h2⟩)
    · exact .inl h
    · obtain ⟨i, hi, rfl⟩ := List.getElem_of_mem hx
      exact .inr ⟨i, hi, by simp, h2⟩

/-- A fresh set of the elements that φ tells. -/
def SetR (h : List Blk) (φ : Int → Prop) (v : DV) (h' : List Blk) : Prop := ∃ ks', ks'.Nodup ∧ (∀ x, x ∈ ks' ↔ φ x) ∧ v = .mp h.length ∧ h' = h ++ [.map (smap ks')]

theorem it_wf {h : List Blk} (hw : HWF h) {a : Nat} {ks2 : List Int} {x : List Nat × Option Nat} (ha : a < h.length) : HWF (h ++ [Blk.map (smap ks2), Blk.mit (some a) x]) := hw.push fun k hk => by
  simp at hk
  rcases hk with rfl | rfl
  · exact smap_wf
  · simp [Blk.wf]; omega
theorem map_wf {h : List Blk} (hw : HWF h) {ks2 : List Int} : HWF (h ++ [Blk.map (smap ks2)]) := hw.push fun k hk => by
  simp at hk
  subst hk
  exact smap_wf
theorem erase_len {left : List Nat} {j : Nat} (hj : j ∈ left) : (left.erase j).length < left.length := by
  have := List.length_pos_of_mem hj
  rw [List.length_erase_of_mem hj]; omega

theorem it_wf2 {h : List Blk} (hw : HWF h) {a b : Nat} {ks2 : List Int} {x y : List Nat × Option Nat} (ha : a < h.length) (hb : b < h.length) : HWF (h ++ [Blk.map (smap ks2), Blk.mit (some a) x, Blk.mit (some b) y]) := hw.push fun k hk => by
  simp at hk
  rcases hk with rfl | rfl | rfl
  · exact smap_wf
  · simp [Blk.wf]; omega
  · simp [Blk.wf]; omega

theorem wf_ints {B : Nat → Prop} {sz : Nat} {l : List Int} : (Blk.cells sz (ints l)).wf B := fun j hj => by
  simp only [ints, List.getElem_map]
  exact .p
theorem ok61 {G : Nat → DV} (hG : GZ G) (h : List Blk) (a : Nat) (ks : List Int) (ha : h[a]? = some (.map (smap ks))) (hl : ks.length ≤ 1000) (hnk : ks.Nodup) :
    Ok Tryz.prog G 61 [.mp a] h (.fz 1 (ints (setOf ks))) h := by
  refine Ok.wf fun hw => ?_
  have hal : a < h.length := (List.getElem?_eq_some_iff.1 ha).1
  refine Ok_by Tryz.func61 c61_ok r61_ok 20 rfl ?_
  simp [c61, r61, ha]
  refine MK_sl (by omega) (by omega) (by simp; omega) ?_
  simp [get_pre ha]
  refine VV_fam (fun x : List Nat × Option Nat × List Int => ⟨fr 21 [(3, .sl h.length 0 x.2.2.length x.2.2.length), (9, .it (h.length + 1))], h ++ [.cells 1 (ints x.2.2), .mit (some a) (x.1, x.2.1)]⟩)
    (fun x => x.1.Nodup ∧ (∀ j, j ∈ x.1 → j < ks.length) ∧ x.2.2.Nodup ∧ x.2.2.length + x.1.length = ks.length ∧ ∀ y, y ∈ x.2.2 ↔ Got ks (fun _ => False) (fun x y => y = x) x.1 y) (fun x => x.1.length) (List.range ks.length, none, [])
    ⟨List.nodup_range, fun j hj => List.mem_range.1 hj, by simp, by simp, got_start (by simp)⟩ (Wk.fits (by simp)) ?_
  rintro ⟨left, cur, ks'⟩ ⟨hn, hlt, hnk', hlen, hmem⟩ B hbk he hr
  simp only at hn hlt hnk' hlen hmem
  simp [get_pre ha]
  refine ⟨fun hnil => ?_, fun j hj => ?_⟩
  · subst hnil
    refine he _ _ ?_
    simp
    refine FF_by (ok76 _ h.length ks' (by simp) (by simp at hlen; omega)) ?_
    simp
    have hks : setOf ks = sortT ks' := by
      rw [sortT_setOf hnk', setOf_eq]
      intro y
      rw [got_end hmem]; simp
    have hsl : (sortT ks').length = ks'.length := by simp [sortT]
    rw [hks]
    refine WkV.frz 2 (HPre.append _ _) ?_
    rw [frz_sl (els := ints (sortT ks')) (sz := 1) ints_plain (by simp) (Nat.le_refl _) (by simp [hsl])]
    rw [List.drop_zero, List.take_of_length_le (by simp [hsl])]
  · have hjl := hlt j hj
    have hnot : ks[j] ∉ ks' := fun hc => by
      rcases (hmem _).1 hc with h0 | ⟨i, hi, h1, h2⟩
      · exact h0
      · have := (List.getElem_inj hnk).1 h2
        subst this
        exact h1 hj
    have hadd : addNew ks' ks[j] = ks' ++ [ks[j]] := by
      unfold addNew
      rw [if_neg]
      simp [setHas]
      exact hnot
    have hg := got_add hn hjl hmem (s := ks[j]) (by simp)
    have hnk2 := nodup_addNew (s := ks[j]) hnk'
    rw [hadd] at hg hnk2
    have hel := erase_len hj
    have hel2 := List.length_erase_of_mem hj
    simp [smap_get hjl, get_pre ha, Value.oneCell', DA_raw]
    have hjp := List.length_pos_of_mem hj
    refine AA_at ?_
    simp
    refine ⟨by omega, ?_⟩
    rw [ints_push]
    refine hbk _ (left.erase j, some j, ks' ++ [ks[j]]) (Wk.cut hG (by simp) (by simp) (fun _ => hw.push fun k hk => ?_) (by simp <;> omega)) ⟨hn.erase j, fun k hk => hlt k (List.mem_of_mem_erase hk), hnk2, by simp; omega, hg⟩ (by simpa using hel)
    simp at hk
    rcases hk with rfl | rfl
    · exact wf_ints
    · simp [Blk.wf]; omega

theorem ok38 {G : Nat → DV} (hG : GZ G) (h : List Blk) (a : Nat) (ks : List Int) (ha : h[a]? = some (.map (smap ks))) (hl : ks.length ≤ 1000) (hnk : ks.Nodup) :
    Ok Tryz.prog G 38 [.mp a] h (.fz 1 (ints (setOf ks))) h := by
  refine Ok_by Tryz.func38 c38_ok r38_ok 4 rfl ?_
  simp [c38, r38]
  refine FF_by (ok61 hG h a ks ha hl hnk) ?_
  simp

end Go.Proofs.YtppjcnaffphakaaGreatDoor
