/- Notices: rules, lists, small functions. -/
import Derived.Test.YthkgekkpnldbmaaNtB
import Derived.Test.YthkgekkpnldbmaaLibE
set_option linter.unusedVariables false
set_option linter.unusedSimpArgs false
set_option maxRecDepth 100000
namespace Go.Proofs.Ythkgekkpnldbmaa
open Go Go.Den Go.Proofs


/-! Rules. -/
abbrev Rule := ByteArray × ByteArray
def rlD (l : List Rule) : List DV := l.map fun r => .agg [.p (.string r.1), .p (.string r.2)]
def rlK (r : Rule) : ByteArray := r.1 ++ ⟨#[45]⟩ ++ r.2
@[simp] theorem rlD_length (l : List Rule) : (rlD l).length = l.length := by simp [rlD]
@[simp] theorem rlD_get {l : List Rule} {i : Nat} (h : i < (rlD l).length) : (rlD l)[i] = .agg [.p (.string (l[i]'(by simpa using h)).1), .p (.string (l[i]'(by simpa using h)).2)] := by simp [rlD]
theorem rlD_plain (l : List Rule) : plainL (rlD l) := plainL.mapP fun x => rfl
@[simp] theorem WF_rlD {B : Nat → Prop} {sz : Nat} {l : List Rule} : WF B (.fz sz (rlD l)) = True := eq_true (WF_plain (rlD_plain l))
theorem rlD_append (a b : List Rule) : rlD a ++ rlD b = rlD (a ++ b) := by simp [rlD]

theorem evEq_nil {a b ks' : List ByteArray} (hab : a.length = b.length) (hk : ∀ x, x ∈ ks' ↔ x ∈ a.foldl addNew [] ∧ x ∉ b.foldl addNew []) : evEq a b = decide (ks' = []) := by
  simp [evEq, hab, mem_foldl] at hk ⊢
  rw [Bool.eq_iff_iff]
  simp [setHas]
  constructor
  · intro hx
    exact List.eq_nil_iff_forall_not_mem.2 fun x hxk => ((hk x).1 hxk).2 (hx x ((hk x).1 hxk).1)
  · rintro rfl x hx
    by_cases hxb : x ∈ b
    · exact hxb
    · exact absurd ((hk x).2 ⟨hx, hxb⟩) (by simp)

theorem ok59 {G : Nat → DV} (hG : GZ G) (h : List Blk) (a b : List Rule) (ha : a.length ≤ 4) (hb : b.length ≤ 4) (sa : ∀ r ∈ a, r.1.size ≤ 1000000000000 ∧ r.2.size ≤ 1000000000000) (sb : ∀ r ∈ b, r.1.size ≤ 1000000000000 ∧ r.2.size ≤ 1000000000000) :
    Ok Try.prog G 59 [.fz 2 (rlD a), .fz 2 (rlD b)] h (.p (.bool (evEq (a.map rlK) (b.map rlK)))) h := by
  refine Ok.wf fun hw => ?_
  refine Ok_by Try.func59 c59_ok r59_ok 50 rfl ?_
  simp [c59, r59]
  refine CC_by (fun h1 => ?_) (fun h1 => ?_)
  · simp at h1
    have : ¬ a.length = b.length := by omega
    simp [evEq, this]
  have hab : a.length = b.length := by simp at h1; omega
  simp
  refine FF_by (ok44 h) ?_
  simp
  refine VV_fam (fun i : Nat => ⟨fr 52 [(1, .fz 2 (rlD b)), (5, .mp h.length), (17, .fz 2 (rlD a)), (18, .p (.int .i64 a.length)), (19, .p (.int .i64 i))], h ++ [.map (smap (((a.map rlK).take i).foldl addNew []))]⟩)
    (fun i => i ≤ a.length) (a.length - ·) 0 (by simp) (Wk.fits (by simp)) ?_
  intro i hi B hbk he hr
  simp
  refine CC_by (fun h2 => ?_) (fun h2 => ?_)
  · have hi' : i < a.length := by simpa using h2
    obtain ⟨hs6, hs4⟩ := sa a[i] (List.getElem_mem _)
    have hk : (a[i].1 ++ { data := #[45] } : ByteArray).size = a[i].1.size + 1 := by simp
    have hnext : ((a.map rlK).take (i + 1)).foldl addNew [] = addNew (((a.map rlK).take i).foldl addNew []) (rlK a[i]) := by rw [List.take_succ_eq_append_getElem (by simpa using hi'), List.foldl_append]; simp only [List.foldl_cons, List.foldl_nil, List.getElem_map]
    simp [hi', hk]
    refine ⟨by omega, by omega, ?_⟩
    refine FF_by (ok45 _ _ (((a.map rlK).take i).foldl addNew []) _ (by simp) (noIter_push (hw.noIter (Nat.le_refl _)) (by simp))) ?_
    simp [wrap_succ hi' (show a.length ≤ 9223372036854775807 by omega)]
    have : (a[i].1 ++ { data := #[45] } ++ a[i].2) = rlK a[i] := rfl
    rw [this, ← hnext]
    refine hbk _ (i + 1) (Wk.cut hG (by simp) (by simp) (fun _ => hw.push fun k hk => by simp at hk; subst hk; exact smap_wf) (by simp)) hi' (by omega)
  · have : i = a.length := by simp at h2; omega
    subst this
    simp
    refine he _ _ ?_
    simp
    refine FF_by (ok44 _) ?_
    have hfull : (a.map rlK).take a.length = a.map rlK := by rw [← List.length_map (f := rlK), List.take_length]
    rw [hfull]
    simp
    refine VV_fam (fun i : Nat => ⟨fr 52 [(5, .mp h.length), (8, .mp (h.length + 1)), (33, .fz 2 (rlD b)), (34, .p (.int .i64 b.length)), (35, .p (.int .i64 i))], h ++ [.map (smap ((a.map rlK).foldl addNew [])), .map (smap (((b.map rlK).take i).foldl addNew []))]⟩)
      (fun i => i ≤ b.length) (b.length - ·) 0 (by simp) (Wk.fits (by simp)) ?_
    intro i hi B' hbk' he' hr'
    simp
    refine CC_by (fun h2 => ?_) (fun h2 => ?_)
    · have hi' : i < b.length := by simpa using h2
      obtain ⟨hs6, hs4⟩ := sb b[i] (List.getElem_mem _)
      have hk : (b[i].1 ++ { data := #[45] } : ByteArray).size = b[i].1.size + 1 := by simp
      have hnext : ((b.map rlK).take (i + 1)).foldl addNew [] = addNew (((b.map rlK).take i).foldl addNew []) (rlK b[i]) := by rw [List.take_succ_eq_append_getElem (by simpa using hi'), List.foldl_append]; simp only [List.foldl_cons, List.foldl_nil, List.getElem_map]
      simp [hi', hk]
      refine ⟨by omega, by omega, ?_⟩
      refine FF_by (ok45 _ _ (((b.map rlK).take i).foldl addNew []) _ (by simp) (noIter_push (hw.noIter (by omega)) (by simp))) ?_
      simp [wrap_succ hi' (show b.length ≤ 9223372036854775807 by omega)]
      have : (b[i].1 ++ { data := #[45] } ++ b[i].2) = rlK b[i] := rfl
      rw [this, ← hnext]
      refine hbk' _ (i + 1) (Wk.cut hG (by simp) (by simp) (fun _ => hw.push fun k hk => by simp at hk; rcases hk with rfl | rfl <;> exact smap_wf) (by simp)) hi' (by omega)
    · have : i = b.length := by simp at h2; omega
      subst this
      simp
      refine he' _ _ ?_
      have hfull : (b.map rlK).take b.length = b.map rlK := by rw [← List.length_map (f := rlK), List.take_length]
      rw [hfull]
      simp
      refine FF_byR (ok60 hG _ _ _ ((a.map rlK).foldl addNew []) ((b.map rlK).foldl addNew []) (by simp) (by simp)) ?_
      rintro v h3 ⟨ks', hk, rfl, rfl⟩
      simp
      refine FF_by (ok47 _ _ ks' (by simp)) ?_
      simp
      have : evEq (a.map rlK) (b.map rlK) = decide (ks' = []) := evEq_nil (by simpa using hab) hk
      rw [this]
      exact WkV.junk (by simp)

/-! Lists that may be alive. -/
theorem SlS.frzR {sz : Nat} {h : List Blk} {d : DV} {els : List DV} (hs : SlS sz h d els) (hl : plainL els) : FrzR h [] d (.fz sz els) := by
  rcases hs with ⟨rfl, rfl⟩ | ⟨b, rfl, h3⟩
  · exact .nil
  · have := FrzR.sl (i := 0) (n := els.length) h3 rfl hl
    simpa using this
def Ls (h : List Blk) (d : DV) (l : List ByteArray) : Prop := d = .fz 1 (strs l) ∨ ∃ b, d = .sl b 0 l.length l.length ∧ h[b]? = some (.cells 1 (strs l))
theorem Ls.mono {h h' : List Blk} {d : DV} {l : List ByteArray} (hs : Ls h d l) (hp : HPre h h') : Ls h' d l := by
  rcases hs with h1 | ⟨b, rfl, h2⟩
  · exact .inl h1
  · exact .inr ⟨b, rfl, hp _ _ h2⟩
theorem Ls.frzR {h : List Blk} {d : DV} {l : List ByteArray} (hs : Ls h d l) : FrzR h [] d (.fz 1 (strs l)) := by
  rcases hs with rfl | ⟨b, rfl, h2⟩
  · exact .fz strs_plain
  · have := FrzR.sl (i := 0) (n := l.length) (x := l.length) h2 (by simp) strs_plain
    simpa using this
theorem Ls.events {G : Nat → DV} {h : List Blk} {d : DV} {l : List ByteArray} (hs : Ls h d l) (hl : l.length ≤ 1000) : Ok Try.prog G 40 [d] h (.fz 1 (strs l)) h := by
  rcases hs with rfl | ⟨b, rfl, h2⟩
  · exact ok40 h l hl
  · exact ok37l h l hl b h2

def fstOf (l : List ByteArray) : ByteArray := l.headD ⟨#[]⟩
theorem ok15 {G : Nat → DV} (h : List Blk) (l : List ByteArray) (hl : l.length ≤ 1000) : Ok Try.prog G 15 [.fz 1 (strs l)] h (.p (.string (fstOf l))) h := by
  refine Ok_by Try.func15 c15_ok r15_ok 8 rfl ?_
  rcases l with _ | ⟨x, l⟩
  · simp [c15, r15, fstOf]
  · have e : ((l.length : Int) + 1 == 0) = false := beq_eq_false_iff_ne.2 (by omega)
    have e2 : (0 : Int) < (l.length : Int) + 1 := by omega
    simp [c15, r15, fstOf, strs, e, e2]
/-- A notice. -/
def ntD (k : Int) (a b c d e : List UInt8) (ev p s : List ByteArray) : DV := .agg [.p (.int .i64 k), .p (.string (S a)), .p (.string (S b)), .p (.string (S c)), .p (.string (S d)), .p (.string (S e)), .fz 1 (strs ev), .fz 1 (strs p), .fz 1 (strs s)]
theorem ok19 {G : Nat → DV} (h : List Blk) (k : Int) (a b c d e : List UInt8) (ev p s : List ByteArray) (he : ev.length ≤ maxLen) (hp : p.length ≤ maxLen) (hs : s.length ≤ maxLen) :
    Ok Try.prog G 19 [ntD k a b c d e ev p s] h (.p (.bool (fits9 a b c d e && (fits8 ev && (fits8 p && fits8 s))))) h := by
  refine Ok_by Try.func19 c19_ok r19_ok 18 rfl ?_
  simp [c19, r19, ntD]
  refine FF_by (ok34 _ a b c d e) ?_
  cases fits9 a b c d e with
  | false => simp
  | true =>
    simp
    refine FF_by (ok35 _ ev he) ?_
    cases fits8 ev with
    | false => simp
    | true =>
      simp
      refine FF_by (ok35 _ p hp) ?_
      cases fits8 p with
      | false => simp
      | true =>
        simp
        refine FF_by (ok35 _ s hs) ?_
        cases fits8 s with
        | false => simp
        | true => simp
def kd (k : Int) : Int := IntKind.i64.wrap ((IntKind.u64.wrap k).tmod 3)
theorem ok5 {G : Nat → DV} (hG : GZ G) (h : List Blk) (k : Int) (a b c d e : List UInt8) (ev p s : List ByteArray) :
    Ok Try.prog G 5 [ntD k a b c d e ev p s] h (ntD (kd k) (noColon a) (noColon b) (noColon c) (noColon d) (noColon e) (ntEvents ev) (ntOne p) (ntOne s)) h := by
  refine Ok_by Try.func5 c5_ok r5_ok 20 rfl ?_
  simp [c5, r5, ntD]
  refine DF_by (ok10 _ a b c d e) ?_
  simp [arnD]
  refine DF_by (ok11 hG _ ev) ?_
  simp
  refine DF_by (ok12_rest _ _ p (.inl rfl)) ?_
  simp
  refine DF_by (ok12_rest _ _ s (.inl rfl)) ?_
  simp [kd]
  exact WkV.drop (by simp) id (by simp)
theorem ok14 {G : Nat → DV} (hG : GZ G) (h : List Blk) (k : Int) (a b c d e : List UInt8) (ev p s evs : List ByteArray) (dv : DV) (pre suf : ByteArray) (hd : Ls h dv evs) (h1 : ev.length ≤ 1000) (h2 : evs.length ≤ 1000) (h3 : p.length ≤ 1000) (h4 : s.length ≤ 1000) :
    Ok Try.prog G 14 [ntD k a b c d e ev p s, dv, .p (.string pre), .p (.string suf)] h (.p (.bool (decide (setOf ev = setOf evs) && (decide (fstOf p = pre) && decide (fstOf s = suf))))) h := by
  refine Ok_by Try.func14 c14_ok r14_ok 23 rfl ?_
  simp [c14, r14, ntD]
  refine FF_by (Ok.lend hG (ok24 [] ev evs h1 h2) (.cons (.fz strs_plain) (.cons (hd.mono (HPre.append _ _)).frzR .nil)) rfl) ?_
  cases decide (setOf ev = setOf evs) with
  | false => simp
  | true =>
    simp
    refine FF_by (ok15 _ p h3) ?_
    simp
    cases hc : decide (fstOf p = pre) with
    | false => simp
    | true =>
      simp
      refine FF_by (ok15 _ s h4) ?_
      simp

end Go.Proofs.Ythkgekkpnldbmaa
