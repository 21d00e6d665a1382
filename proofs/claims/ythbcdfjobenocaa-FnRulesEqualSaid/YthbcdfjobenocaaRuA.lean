/- The law FnRulesEqual: contracts. -/
import Derived.Test.YthbcdfjobenocaaEvD
set_option linter.unusedVariables false
set_option linter.unusedSimpArgs false
set_option maxRecDepth 100000
namespace Go.Proofs.Ythbcdfjobenocaa
open Go Go.Den Go.Proofs

def rName (x : UInt8) : ByteArray := if x.toNat % 2 = 0 then ⟨#[112, 114, 101, 102, 105, 120]⟩ else ⟨#[115, 117, 102, 102, 105, 120]⟩
def rVal (x : UInt8) : ByteArray := if x.toNat / 2 % 4 = 0 then ⟨#[]⟩ else if x.toNat / 2 % 4 = 1 then ⟨#[97]⟩ else if x.toNat / 2 % 4 = 2 then ⟨#[98, 47]⟩ else ⟨#[46, 106, 112, 103]⟩
def rKey (x : UInt8) : ByteArray := rName x ++ ⟨#[32]⟩ ++ rVal x

theorem shr1 (x : UInt8) : ishr .u8 (x.toNat : Int) 1 = ((x.toNat / 2 : Nat) : Int) := by
  have : min (1 : Int).toNat IntKind.u8.bits = 1 := by decide
  rw [ishr, this]
  simp [Int.fdiv_eq_ediv_of_nonneg]
theorem nameAt (x : UInt8) (hh) : ([.p (.string ⟨#[112, 114, 101, 102, 105, 120]⟩), .p (.string ⟨#[115, 117, 102, 102, 105, 120]⟩)] : List DV)[((x.toNat : Int).tmod 2).toNat]'hh = .p (.string (rName x)) := by
  have h : x.toNat % 2 = 0 ∨ x.toNat % 2 = 1 := by omega
  have e : ((x.toNat : Int).tmod 2).toNat = x.toNat % 2 := by rw [Int.tmod_eq_emod_of_nonneg (by omega)]; omega
  simp only [e]
  rcases h with h | h <;> simp [rName, h]
theorem valAt (x : UInt8) (hh) : ([.p (.string ⟨#[]⟩), .p (.string ⟨#[97]⟩), .p (.string ⟨#[98, 47]⟩), .p (.string ⟨#[46, 106, 112, 103]⟩)] : List DV)[(((x.toNat : Int) / 2).tmod 4).toNat]'hh = .p (.string (rVal x)) := by
  have h : x.toNat / 2 % 4 = 0 ∨ x.toNat / 2 % 4 = 1 ∨ x.toNat / 2 % 4 = 2 ∨ x.toNat / 2 % 4 = 3 := by omega
  have e : (((x.toNat : Int) / 2).tmod 4).toNat = x.toNat / 2 % 4 := by
    rw [Int.tmod_eq_emod_of_nonneg (by omega)]
    omega
  simp only [e]
  rcases h with h | h | h | h <;> simp [rVal, h]
theorem valLt (x : UInt8) : 0 ≤ ((x.toNat : Int) / 2).tmod 4 ∧ ((x.toNat : Int) / 2).tmod 4 < 4 ∧ (((x.toNat : Int) / 2).tmod 4).toNat < 4 := by
  rw [Int.tmod_eq_emod_of_nonneg (by omega)]
  omega
theorem nameLt (x : UInt8) : 0 ≤ (x.toNat : Int).tmod 2 ∧ (x.toNat : Int).tmod 2 < 2 ∧ ((x.toNat : Int).tmod 2).toNat < 2 := by
  rw [Int.tmod_eq_emod_of_nonneg (by omega)]
  omega
theorem rName_size (x : UInt8) : (rName x).size = 6 := by unfold rName; split <;> rfl
theorem rVal_size (x : UInt8) : (rVal x).size ≤ 4 := by unfold rVal; split; decide; split; decide; split <;> decide

def addRule (out : List UInt8) (x : UInt8) : List UInt8 := if setHas (out.map rKey) (rKey x) = true then out else out ++ [x]
/-- At most four rules, each once. -/
def ntCodes (l : List UInt8) : List UInt8 := (l.take (min l.length 4)).foldl addRule []
def rFlat (cs : List UInt8) : List ByteArray := cs.flatMap fun x => [rName x, rVal x]
@[simp] theorem rFlat_length (cs : List UInt8) : (rFlat cs).length = 2 * cs.length := by
  induction cs with
  | nil => rfl
  | cons x cs ih => simp only [rFlat, List.flatMap_cons, List.length_append, List.length_cons, List.length_nil] at ih ⊢; omega
theorem rFlat_push (cs : List UInt8) (x : UInt8) : rFlat (cs ++ [x]) = rFlat cs ++ [rName x, rVal x] := by simp [rFlat]
theorem addRule_length (L : List UInt8) : (L.foldl addRule []).length ≤ L.length := by
  have : ∀ (L out : List UInt8), (L.foldl addRule out).length ≤ out.length + L.length := by
    intro L
    induction L with
    | nil => intro out; simp
    | cons s L ih =>
      intro out
      have := ih (addRule out s)
      have h2 : (addRule out s).length ≤ out.length + 1 := by unfold addRule; split <;> simp
      simp only [List.foldl_cons, List.length_cons]
      omega
  simpa using this L []

theorem ok15 {G : Nat → DV} (hG : GZ G) (h : List Blk) (l : List UInt8) : Ok Try.prog G 15 [.fz 1 (bts l)] h (.fz 1 (strs (rFlat (ntCodes l)))) h := by
  refine Ok_by Try.func15 c15_ok r15_ok 50 rfl ?_
  simp [c15, r15]
  rw [ntCodes]
  obtain ⟨L, hL⟩ : ∃ L, L = l.take (min l.length 4) := ⟨_, rfl⟩
  have hm : min l.length 4 = L.length := by rw [hL]; simp
  have hL4 : L.length ≤ 4 := by omega
  rw [← hL, hm]
  clear hm hL
  refine VV_fam (fun x : Nat × DV × DV × List Blk => ⟨fr 51 [(3, x.2.1), (4, x.2.2.1), (13, .fz 1 (bts L)), (14, .p (.int .i64 L.length)), (15, .p (.int .i64 x.1))], x.2.2.2⟩)
    (fun x => x.1 ≤ L.length ∧ Own h 1 x.2.2.2 x.2.1 (strs (rFlat ((L.take x.1).foldl addRule []))) ∧ Own h 1 x.2.2.2 x.2.2.1 (strs (((L.take x.1).foldl addRule []).map rKey)) ∧ apart x.2.1 x.2.2.1) (fun x => L.length - x.1) (0, .p (.slice none 0 0), .p (.slice none 0 0), h)
    ⟨by simp, by simpa [rFlat] using Own.nil, by simpa using Own.nil, .nil⟩ (Wk.fits (by simp)) ?_
  rintro ⟨i, d, d2, h'⟩ ⟨hi, ho, ho2, hap⟩ B hb he hr
  simp only at hi ho ho2 hap
  simp
  refine CC_by (fun h2 => ?_) (fun h2 => ?_)
  · have hi' : i < L.length := by simpa using h2
    have hadd : IntKind.i64.wrap ((i : Int) + 1) = ((i + 1 : Nat) : Int) := wrap_succ hi' (by omega)
    have hnext : (L.take (i + 1)).foldl addRule [] = addRule ((L.take i).foldl addRule []) L[i] := by rw [List.take_succ_eq_append_getElem hi', List.foldl_append]; rfl
    have hlen := addRule_length (L.take i)
    generalize hx : L[i] = x at hnext
    generalize hC : (L.take i).foldl addRule [] = C at ho ho2 hnext hlen
    simp at hlen
    have hs6 := rName_size x
    have hs4 := rVal_size x
    have hk : (rName x ++ { data := #[32] } : ByteArray).size = 7 := by simp [hs6]
    simp [hi', shr1, hx, nameAt, valAt, valLt, nameLt, hs6, hk]
    refine ⟨by omega, ?_⟩
    refine FF_by (Ok.lend hG (ok32 [] (C.map rKey) (rKey x) (by rw [maxLen_eq]; simp; omega)) (.cons (ho2.frzR strs_plain) (.cons .p .nil)) rfl) ?_
    simp
    refine CC_by (fun h3 => ?_) (fun h3 => ?_)
    · have h3' : ¬ setHas (C.map rKey) (rKey x) = true := by simpa using h3
      simp [hs6]
      refine ⟨by omega, ?_⟩
      refine AA_lit1 ho2 (by simp; omega) ?_
      intro d3 h3 g1 g2 g3
      obtain ⟨g4, g5⟩ := g3 d 1 _ ho hap.symm
      simp
      refine AA_lits g4 rfl (by simp; omega) ?_
      intro d4 h4 k1 k2 k3
      obtain ⟨k4, k5⟩ := k3 d3 1 _ g1 g5.symm
      simp [hadd]
      refine hb _ (i + 1, d4, d3, h4) (Wk.fits (by simp)) ⟨hi', ?_, ?_, k5⟩ (by simp; omega)
      · rw [hnext, addRule, if_neg h3', rFlat_push]
        simpa [strs] using k1
      · rw [hnext, addRule, if_neg h3', List.map_append, List.map_singleton, ← strs_push]
        exact k4
    · have h3' : setHas (C.map rKey) (rKey x) = true := by simpa using h3
      simp [hadd]
      refine hb _ (i + 1, d, d2, h') (Wk.fits (by simp)) ⟨hi', ?_, ?_, hap⟩ (by simp; omega)
      · rw [hnext, addRule, if_pos h3']; exact ho
      · rw [hnext, addRule, if_pos h3']; exact ho2
  · have : i = L.length := by simp at h2; omega
    subst this
    simp
    refine he _ _ ?_
    simp
    rw [List.take_length] at ho
    exact ho.wk strs_plain


theorem rFlat_even (cs : List UInt8) (i : Nat) (hi : i < cs.length) (h : 2 * i < (rFlat cs).length) : (rFlat cs)[2 * i] = rName cs[i] := by
  induction cs generalizing i with
  | nil => simp at hi
  | cons x cs ih =>
    cases i with
    | zero => rfl
    | succ i =>
      have := ih i (by simpa using hi) (by simp at hi ⊢; omega)
      simpa [rFlat, Nat.mul_add] using this
theorem rFlat_odd (cs : List UInt8) (i : Nat) (hi : i < cs.length) (h : 2 * i + 1 < (rFlat cs).length) : (rFlat cs)[2 * i + 1] = rVal cs[i] := by
  induction cs generalizing i with
  | nil => simp at hi
  | cons x cs ih =>
    cases i with
    | zero => rfl
    | succ i =>
      have := ih i (by simpa using hi) (by simp at hi ⊢; omega)
      simpa [rFlat, Nat.mul_add] using this

theorem wrap_two {i n : Nat} (h : i < n) (hn : n ≤ 1000) : IntKind.i64.wrap ((i : Int) + 2) = ((i + 2 : Nat) : Int) := by
  simp [IntKind.wrap, IntKind.bits, IntKind.signed]; omega

theorem ok17 {G : Nat → DV} (h : List Blk) (cs : List UInt8) (hc : cs.length ≤ 4) : Ok Try.prog G 17 [.fz 1 (strs (rFlat cs))] h (.fz 1 (strs (cs.map rKey))) h := by
  refine Ok_by Try.func17 c17_ok r17_ok 26 rfl ?_
  simp [c17, r17]
  refine VV_fam (fun x : Nat × DV × List Blk => ⟨fr 27 [(0, .fz 1 (strs (rFlat cs))), (3, x.2.1), (4, .p (.int .i64 x.1))], x.2.2⟩)
    (fun x => ∃ i, x.1 = 2 * i ∧ i ≤ cs.length ∧ Own h 1 x.2.2 x.2.1 (strs ((cs.take i).map rKey))) (fun x => 2 * cs.length - x.1) (0, .p (.slice none 0 0), h) ⟨0, by simp, by simp, by simpa using Own.nil⟩ (Wk.fits (by simp)) ?_
  rintro ⟨j, d, h'⟩ ⟨i, hj, hi, ho⟩ B hb he hr
  simp only at hi ho hj
  have hw : IntKind.i64.wrap ((j : Int) + 1) = ((j + 1 : Nat) : Int) := wrap_succ (n := 1000) (by omega) (by omega)
  obtain ⟨F, hF⟩ : ∃ F, F = rFlat cs := ⟨_, rfl⟩
  have hFl : F.length = 2 * cs.length := by rw [hF]; simp
  rw [← hF] at hb ⊢
  rcases Nat.lt_or_ge i cs.length with hi' | hi'
  · have hw2 : IntKind.i64.wrap ((j : Int) + 2) = ((j + 2 : Nat) : Int) := wrap_two (n := 1000) (by omega) (by omega)
    have e1 : j + 1 < F.length := by omega
    have e2 : j < F.length := by omega
    have f1 : F[j] = rName cs[i] := by subst hj hF; exact rFlat_even cs i hi' e2
    have f2 : F[j + 1] = rVal cs[i] := by subst hj hF; exact rFlat_odd cs i hi' e1
    have hs6 := rName_size cs[i]
    have hs4 := rVal_size cs[i]
    have hk : (rName cs[i] ++ { data := #[32] } : ByteArray).size = 7 := by simp [hs6]
    simp [hw, hw2, e1, e2, f1, f2, hs6, hk]
    refine ⟨by omega, ?_⟩
    refine DA_lit1 ho (by simp; omega) ?_
    intro d2 h2 ho2 _ _
    simp [hw2]
    refine hb _ (j + 2, d2, h2) (Wk.fits (by simp)) ⟨i + 1, by simp; omega, hi', ?_⟩ (by simp; omega)
    rw [List.take_succ_eq_append_getElem hi', List.map_append, List.map_singleton, ← strs_push]
    exact ho2
  · obtain rfl : i = cs.length := by omega
    have e1 : ¬ j + 1 < F.length := by omega
    simp [hw, e1]
    refine he _ _ ?_
    simp
    rw [List.take_length] at ho
    exact ho.wk strs_plain

/-- Rules, as the package's. -/
def rRules (cs : List UInt8) : List DV := cs.map fun x => .agg [.p (.string (rName x)), .p (.string (rVal x))]
@[simp] theorem rRules_length (cs : List UInt8) : (rRules cs).length = cs.length := by simp [rRules]
@[simp] theorem rRules_get (cs : List UInt8) (i : Nat) (h : i < (rRules cs).length) : (rRules cs)[i] = .agg [.p (.string (rName (cs[i]'(by simpa using h)))), .p (.string (rVal (cs[i]'(by simpa using h))))] := by simp [rRules]

theorem rRules_push (cs : List UInt8) (x : UInt8) : rRules (cs ++ [x]) = rRules cs ++ [.agg [.p (.string (rName x)), .p (.string (rVal x))]] := by simp [rRules]
theorem rRules_plain (cs : List UInt8) : plainL (rRules cs) := plainL.mapP fun x => rfl
@[simp] theorem rRules_WF {B : Nat → Prop} {sz : Nat} (cs : List UInt8) : WF B (.fz sz (rRules cs)) = True := eq_true (WF_plain (rRules_plain cs))
theorem ok38 {G : Nat → DV} (h : List Blk) (cs : List UInt8) (hc : cs.length ≤ 4) : Ok Try.prog G 38 [.fz 1 (strs (rFlat cs))] h (.fz 2 (rRules cs)) h := by
  refine Ok_by Try.func38 c38_ok r38_ok 24 rfl ?_
  simp [c38, r38]
  refine VV_fam (fun x : Nat × DV × List Blk => ⟨fr 25 [(0, .fz 1 (strs (rFlat cs))), (2, x.2.1), (3, .p (.int .i64 x.1))], x.2.2⟩)
    (fun x => ∃ i, x.1 = 2 * i ∧ i ≤ cs.length ∧ Own h 2 x.2.2 x.2.1 (rRules (cs.take i))) (fun x => 2 * cs.length - x.1) (0, .p (.slice none 0 0), h) ⟨0, by simp, by simp, by simpa [rRules] using Own.nil⟩ (Wk.fits (by simp)) ?_
  rintro ⟨j, d, h'⟩ ⟨i, hj, hi, ho⟩ B hb he hr
  simp only at hi ho hj
  have hw : IntKind.i64.wrap ((j : Int) + 1) = ((j + 1 : Nat) : Int) := wrap_succ (n := 1000) (by omega) (by omega)
  obtain ⟨F, hF⟩ : ∃ F, F = rFlat cs := ⟨_, rfl⟩
  have hFl : F.length = 2 * cs.length := by rw [hF]; simp
  rw [← hF] at hb ⊢
  rcases Nat.lt_or_ge i cs.length with hi' | hi'
  · have hw2 : IntKind.i64.wrap ((j : Int) + 2) = ((j + 2 : Nat) : Int) := wrap_two (n := 1000) (by omega) (by omega)
    have e1 : j + 1 < F.length := by omega
    have e2 : j < F.length := by omega
    have f1 : F[j] = rName cs[i] := by subst hj hF; exact rFlat_even cs i hi' e2
    have f2 : F[j + 1] = rVal cs[i] := by subst hj hF; exact rFlat_odd cs i hi' e1
    simp [hw, hw2, e1, e2, f1, f2]
    refine DA_lit1 ho (by simp; omega) ?_
    intro d2 h2 ho2 _ _
    simp [hw2]
    refine hb _ (j + 2, d2, h2) (Wk.fits (by simp)) ⟨i + 1, by simp; omega, hi', ?_⟩ (by simp; omega)
    rw [List.take_succ_eq_append_getElem hi', rRules_push]
    exact ho2
  · obtain rfl : i = cs.length := by omega
    have e1 : ¬ j + 1 < F.length := by omega
    simp [hw, e1]
    refine he _ _ ?_
    simp
    rw [List.take_length] at ho
    exact ho.wk (rRules_plain cs)


def rDash (x : UInt8) : ByteArray := rName x ++ ⟨#[45]⟩ ++ rVal x

theorem evEq_nil {a b ks' : List ByteArray} (hab : a.length = b.length) (hk : ∀ x, x ∈ ks' ↔ x ∈ a.foldl addNew [] ∧ x ∉ b.foldl addNew []) : evEq a b = decide (ks' = []) := by
  simp [evEq, hab, mem_foldl] at hk ⊢
  rw [Bool.eq_iff_iff]
  simp [setHas]
  constructor
  · intro hx
    exact List.eq_nil_iff_forall_not_mem.2 fun x hxk => ((hk x).1 hxk).2 (hx x ((hk x).1 hxk).1)
  · rintro rfl x hx
    by_cases hxb : x ∈ b
    · exact hxb
    · exact absurd ((hk x).2 ⟨hx, hxb⟩) (by simp)

theorem ok37 {G : Nat → DV} (hG : GZ G) (h : List Blk) (a b : List UInt8) (ha : a.length ≤ 4) (hb : b.length ≤ 4) : Ok Try.prog G 37 [.fz 2 (rRules a), .fz 2 (rRules b)] h (.p (.bool (evEq (a.map rDash) (b.map rDash)))) h := by
  refine Ok.wf fun hw => ?_
  refine Ok_by Try.func37 c37_ok r37_ok 50 rfl ?_
  simp [c37, r37]
  refine CC_by (fun h1 => ?_) (fun h1 => ?_)
  · simp at h1
    have : ¬ a.length = b.length := by omega
    simp [evEq, this]
  have hab : a.length = b.length := by simp at h1; omega
  simp
  refine FF_by (ok48 h) ?_
  simp
  refine VV_fam (fun i : Nat => ⟨fr 52 [(1, .fz 2 (rRules b)), (5, .mp h.length), (17, .fz 2 (rRules a)), (18, .p (.int .i64 a.length)), (19, .p (.int .i64 i))], h ++ [.map (smap (((a.map rDash).take i).foldl addNew []))]⟩)
    (fun i => i ≤ a.length) (a.length - ·) 0 (by simp) (Wk.fits (by simp)) ?_
  intro i hi B hbk he hr
  simp
  refine CC_by (fun h2 => ?_) (fun h2 => ?_)
  · have hi' : i < a.length := by simpa using h2
    have hs6 := rName_size a[i]
    have hs4 := rVal_size a[i]
    have hk : (rName a[i] ++ { data := #[45] } : ByteArray).size = 7 := by simp [hs6]
    have hnext : ((a.map rDash).take (i + 1)).foldl addNew [] = addNew (((a.map rDash).take i).foldl addNew []) (rDash a[i]) := by rw [List.take_succ_eq_append_getElem (by simpa using hi'), List.foldl_append]; simp
    simp [hi', hs6, hk]
    refine ⟨by omega, ?_⟩
    refine FF_by (ok49 _ _ (((a.map rDash).take i).foldl addNew []) _ (by simp) (noIter_push (hw.noIter (Nat.le_refl _)) (by simp))) ?_
    simp [wrap_succ hi' (show a.length ≤ 9223372036854775807 by omega)]
    have : (rName a[i] ++ { data := #[45] } ++ rVal a[i]) = rDash a[i] := rfl
    rw [this, ← hnext]
    refine hbk _ (i + 1) (Wk.cut hG (by simp) (by simp) (fun _ => hw.push fun k hk => by simp at hk; subst hk; exact smap_wf) (by simp)) hi' (by omega)
  · have : i = a.length := by simp at h2; omega
    subst this
    simp
    refine he _ _ ?_
    simp
    refine FF_by (ok48 _) ?_
    have hfull : (a.map rDash).take a.length = a.map rDash := by rw [← List.length_map (f := rDash), List.take_length]
    rw [hfull]
    simp
    refine VV_fam (fun i : Nat => ⟨fr 52 [(5, .mp h.length), (8, .mp (h.length + 1)), (33, .fz 2 (rRules b)), (34, .p (.int .i64 b.length)), (35, .p (.int .i64 i))], h ++ [.map (smap ((a.map rDash).foldl addNew [])), .map (smap (((b.map rDash).take i).foldl addNew []))]⟩)
      (fun i => i ≤ b.length) (b.length - ·) 0 (by simp) (Wk.fits (by simp)) ?_
    intro i hi B' hbk' he' hr'
    simp
    refine CC_by (fun h2 => ?_) (fun h2 => ?_)
    · have hi' : i < b.length := by simpa using h2
      have hs6 := rName_size b[i]
      have hs4 := rVal_size b[i]
      have hk : (rName b[i] ++ { data := #[45] } : ByteArray).size = 7 := by simp [hs6]
      have hnext : ((b.map rDash).take (i + 1)).foldl addNew [] = addNew (((b.map rDash).take i).foldl addNew []) (rDash b[i]) := by rw [List.take_succ_eq_append_getElem (by simpa using hi'), List.foldl_append]; simp
      simp [hi', hs6, hk]
      refine ⟨by omega, ?_⟩
      refine FF_by (ok49 _ _ (((b.map rDash).take i).foldl addNew []) _ (by simp) (noIter_push (hw.noIter (by omega)) (by simp))) ?_
      simp [wrap_succ hi' (show b.length ≤ 9223372036854775807 by omega)]
      have : (rName b[i] ++ { data := #[45] } ++ rVal b[i]) = rDash b[i] := rfl
      rw [this, ← hnext]
      refine hbk' _ (i + 1) (Wk.cut hG (by simp) (by simp) (fun _ => hw.push fun k hk => by simp at hk; rcases hk with rfl | rfl <;> exact smap_wf) (by simp)) hi' (by omega)
    · have : i = b.length := by simp at h2; omega
      subst this
      simp
      refine he' _ _ ?_
      have hfull : (b.map rDash).take b.length = b.map rDash := by rw [← List.length_map (f := rDash), List.take_length]
      rw [hfull]
      simp
      refine FF_byR (ok50 hG _ _ _ ((a.map rDash).foldl addNew []) ((b.map rDash).foldl addNew []) (by simp) (by simp)) ?_
      rintro v h3 ⟨ks', hk, rfl, rfl⟩
      simp
      refine FF_by (ok51 _ _ ks' (by simp)) ?_
      simp
      have : evEq (a.map rDash) (b.map rDash) = decide (ks' = []) := evEq_nil (by simpa using hab) hk
      rw [this]
      exact WkV.junk (by simp)

theorem ok16 {G : Nat → DV} (hG : GZ G) (h : List Blk) (a b : List UInt8) (ha : a.length ≤ 4) (hb : b.length ≤ 4) : Ok Try.prog G 16 [.fz 1 (strs (rFlat a)), .fz 1 (strs (rFlat b))] h (.p (.bool (evEq (a.map rDash) (b.map rDash)))) h := by
  refine Ok_by Try.func16 c16_ok r16_ok 8 rfl ?_
  simp [c16, r16]
  refine FF_by (ok38 h a ha) ?_
  simp
  refine FF_by (ok38 h b hb) ?_
  simp
  refine FF_by (ok37 hG h a b ha hb) ?_
  simp

theorem ntCodes_length (l : List UInt8) : (ntCodes l).length ≤ 4 := by
  have := addRule_length (l.take (min l.length 4))
  simp at this
  rw [ntCodes]
  omega

theorem rInj (f : UInt8 → ByteArray) (sep : ByteArray) (hf : f = fun x => rName x ++ sep ++ rVal x) {x y : UInt8} : f x = f y ↔ rName x = rName y ∧ rVal x = rVal y := by
  subst hf
  constructor
  · intro h
    have h1 := congrArg (fun s : ByteArray => s.data.toList) h
    simp at h1
    have l1 : (rName x).data.toList.length = (rName y).data.toList.length := by simp [rName_size]
    obtain ⟨h2, h3⟩ := List.append_inj h1 l1
    simp at h3
    have ext : ∀ {a b : ByteArray}, a.data.toList = b.data.toList → a = b := fun {a b} h => by cases a; cases b; simp at h; rw [h]
    exact ⟨ext (by simpa using h2), ext (by simpa using h3)⟩
  · rintro ⟨h1, h2⟩
    simp [h1, h2]
theorem rBoth {x y : UInt8} : rKey x = rKey y ↔ rDash x = rDash y := (rInj rKey ⟨#[32]⟩ rfl).trans (rInj rDash ⟨#[45]⟩ rfl).symm

theorem nodup_codes (l : List UInt8) : ((ntCodes l).map rKey).Nodup := by
  have : ∀ (L out : List UInt8), (out.map rKey).Nodup → ((L.foldl addRule out).map rKey).Nodup := by
    intro L
    induction L with
    | nil => intro out h; exact h
    | cons x L ih =>
      intro out h
      refine ih _ ?_
      have : (addRule out x).map rKey = addNew (out.map rKey) (rKey x) := by unfold addRule addNew; split <;> simp
      rw [this]
      exact nodup_addNew h
  exact this _ [] (by simp)
theorem nodup_dash {cs : List UInt8} (h : (cs.map rKey).Nodup) : (cs.map rDash).Nodup := by
  simp only [List.Nodup, List.pairwise_map] at h ⊢
  exact h.imp fun hne he => hne (rBoth.2 he)
theorem mem_both {cs ds : List UInt8} : (∀ z, z ∈ cs.map rDash ↔ z ∈ ds.map rDash) ↔ ∀ z, z ∈ cs.map rKey ↔ z ∈ ds.map rKey := by
  have one : ∀ {cs ds : List UInt8} {f g : UInt8 → ByteArray}, (∀ x y, f x = f y → g x = g y) → (∀ z, z ∈ cs.map f → z ∈ ds.map f) → ∀ z, z ∈ cs.map g → z ∈ ds.map g := by
    intro cs ds f g hfg h z hz
    obtain ⟨x, hx, rfl⟩ := List.mem_map.1 hz
    obtain ⟨y, hy, he⟩ := List.mem_map.1 (h _ (List.mem_map.2 ⟨x, hx, rfl⟩))
    exact List.mem_map.2 ⟨y, hy, hfg _ _ he⟩
  constructor
  · exact fun h z => ⟨one (fun x y h => rBoth.2 h) (fun z => (h z).1) z, one (fun x y h => rBoth.2 h) (fun z => (h z).2) z⟩
  · exact fun h z => ⟨one (fun x y h => rBoth.1 h) (fun z => (h z).1) z, one (fun x y h => rBoth.1 h) (fun z => (h z).2) z⟩
theorem rules_eq (a b : List UInt8) : evEq ((ntCodes a).map rDash) ((ntCodes b).map rDash) = decide (setOf ((ntCodes a).map rKey) = setOf ((ntCodes b).map rKey)) := by
  rw [evEq_spec (nodup_dash (nodup_codes a)) (nodup_dash (nodup_codes b))]
  rw [Bool.eq_iff_iff]
  simp only [decide_eq_true_eq, setOf_eq]
  exact mem_both

theorem ok5 (a b : List UInt8) (ha : a.length ≤ maxLen) (hb : b.length ≤ maxLen) : Ok Try.prog (fun _ => .any) 5 [.fz 1 (bts a), .fz 1 (bts b)] [] (.p (.bool true)) [] := by
  refine Ok_by Try.func5 c5_ok r5_ok 31 rfl ?_
  simp [c5, r5]
  cases hfa : decide ((2147483647 : Int) < a.length)
  · simp
    refine CC_by (fun h1 => by simp) (fun h1 => ?_)
    simp
    refine FF_by (ok15 .any _ a) ?_
    simp
    refine FF_by (ok15 .any _ b) ?_
    simp
    have h1 := ntCodes_length a
    have h2 := ntCodes_length b
    refine FF_by (ok16 .any _ _ _ h1 h2) ?_
    simp
    refine FF_by (ok17 _ _ h1) ?_
    simp
    refine FF_by (ok17 _ _ h2) ?_
    simp
    refine FF_by (ok14 _ _ _ (by simp; omega) (by simp; omega)) ?_
    simp [rules_eq]
    refine FF_by (ok16 .any _ _ _ h1 h1) ?_
    simp [rules_eq]
  · simp

/-- The law's walk, as its row asks for it. -/
theorem rulesEqual_walk (e0 e1 : DV) (s0 : Shaped (.sl 1 (.int .u8)) e0) (s1 : Shaped (.sl 1 (.int .u8)) e1) : Ok Try.prog (fun _ => .any) 5 [e0, e1] [] (.p (.bool true)) [] := by
  obtain ⟨a, rfl, ha⟩ := s0.bytes
  obtain ⟨b, rfl, hb⟩ := s1.bytes
  exact ok5 a b ha hb

end Go.Proofs.Ythbcdfjobenocaa
