/- Settings: bytes (turned from another seat by mkpq.py) -/
import Derived.Test.YtdgnjngbheecnaaDoorQsB
set_option linter.unusedVariables false
set_option linter.unusedSimpArgs false
set_option maxRecDepth 100000
namespace Go.Proofs.YtdgnjngbheecnaaDoor
open Go Go.Den Go.Proofs



/-- What a good setting is. -/
structure SFine (x : Sett) : Prop where
  k : x.k.length ≤ 5000
  t : x.t.length ≤ 5000
  kind : 0 ≤ x.kind ∧ x.kind ≤ 2
  n : I64 x.n
theorem sgood_fine {x : Sett} (hn : I64 x.n) (h : sgood x = true) : SFine x := by
  simp [sgood, sumLen] at h
  exact ⟨by omega, by omega, by omega, hn⟩

/-- A setting of the package. -/
def proD (x : Sett) : DV := .agg [.p (.string (txt x.k)), sVal x, .p (.bool x.imp), .p (.bool false)]
def pros (l : List Sett) : List DV := l.map proD
@[simp] theorem pros_length (l : List Sett) : (pros l).length = l.length := by simp [pros]
theorem pros_get {l : List Sett} {i : Nat} (h : i < l.length) : (pros l)[i]? = some (proD l[i]) := by simp [pros, h]
@[simp] theorem pros_getElem {l : List Sett} {i : Nat} (h : i < (pros l).length) : (pros l)[i] = proD (l[i]'(by simpa using h)) := by simp [pros]
theorem pros_plain (l : List Sett) : plainL (pros l) := plainL.mapP fun x => by
  unfold proD sVal
  split
  · rfl
  · split <;> rfl
@[simp] theorem pros_WF {B : Nat → Prop} {sz : Nat} (l : List Sett) : WF B (.fz sz (pros l)) = True := eq_true (WF_plain (pros_plain l))
theorem pros_push (l : List Sett) (x : Sett) : pros (l ++ [x]) = pros l ++ [proD x] := by simp [pros]

theorem AA_lit1' {P : Program} {G : Nat → DV} {n h1 : List Blk} {sz bytes : Nat} {dx v : DV} {dst : Option Nat} {l : List DOper} {t : List DV} (h : List Blk) {hp : List Blk} {b : Nat} {st : List Fr} {Q : DX → St → Prop} {els : List DV} (ho : Own h1 sz h dx els) (e1 : b = h.length) (e2 : hp = h ++ [.cells sz [v]]) (hb : (els.length + 1) * bytes ≤ 140737488355328)
    (hK : ∀ d' h', Own h1 sz h' d' (els ++ [v]) → KK P G n dst l t st Q d' h') : AA P G n sz bytes dx (.sl b 0 1 1) dst l t hp st Q := by
  subst e1 e2
  exact AA_lit1 ho hb fun d' h' h2 _ _ => hK d' h' h2

theorem ok31 {G : Nat → DV} (h : List Blk) (l : List Sett) (hl : l.length ≤ 10) (hx : ∀ x, x ∈ l → SFine x) : Ok Tryd.prog G 31 [.fz 6 (sets l)] h (.fz 4 (pros l)) h := by
  refine Ok_by Tryd.func31 c31_ok r31_ok 45 rfl ?_
  simp [c31, r31]
  refine VV_fam (fun x : Nat × DV × List Blk => ⟨fr 46 [(2, x.2.1), (6, .fz 6 (sets l)), (7, .p (.int .i64 l.length)), (8, .p (.int .i64 x.1))], x.2.2⟩)
    (fun x => x.1 ≤ l.length ∧ Own h 4 x.2.2 x.2.1 (pros (l.take x.1))) (fun x => l.length - x.1) (0, .p (.slice none 0 0), h) ⟨Nat.zero_le _, by simpa [pros] using Own.nil⟩ (Wk.fits (by simp)) ?_
  rintro ⟨i, d, h'⟩ ⟨hi, ho⟩ B hb he hr
  simp only at hi ho
  simp
  refine CC_by (fun h1 => ?_) (fun h1 => ?_)
  · have h1 : i < l.length := by simpa using h1
    have hw : IntKind.i64.wrap ((i : Int) + 1) = ((i + 1 : Nat) : Int) := wrap_succ (n := l.length) h1 (by omega)
    have hn := take_succ_at h1
    have hk := (hx _ (List.getElem_mem h1)).kind
    have fin : ∀ d2 h2, Own h 4 h2 d2 (pros (l.take i) ++ [proD l[i]]) → i + 1 ≤ l.length ∧ Own h 4 h2 d2 (pros (l.take (i + 1))) := by
      intro d2 h2 o2
      rw [hn, pros_push]; exact ⟨h1, o2⟩
    have ho1 : Own h 4 (h' ++ [.cells 6 [setD l[i] false], .cells 4 [proD l[i]]]) d (pros (l.take i)) := ho.push
    have hget := sets_get h1
    generalize hxx : l[i] = x at *
    rcases (by omega : x.kind = 0 ∨ x.kind = 1 ∨ x.kind = 2) with hk | hk | hk
    all_goals
      simp [h1, hget, hxx, setD, hk]
      refine AA_lit1' (v := proD x) _ ho1 (by simp) (by simp [setD, proD, sVal, hk]) (by simp; omega) ?_
      intro d2 h2 o2
      simp [hw]
      refine hb _ (i + 1, d2, h2) (Wk.fits (by simp)) (fin d2 h2 o2) (by simp only; omega)
  · have h1 : i = l.length := by simp at h1; omega
    subst h1
    rw [List.take_length] at ho
    simp
    refine he _ _ ?_
    simp
    exact ho.wk (pros_plain _)

def flag (b : Bool) : Nat := if b = true then 1 else 0
theorem flag_lt (b : Bool) : flag b < B64 := by cases b <;> simp [flag, B64]
def seW (x : Sett) : List UInt8 := (uv x.k.length ++ x.k) ++ uv (flag x.imp) ++ (uv (sText x).length ++ sText x)
theorem seW_length (x : Sett) (hx : SFine x) : (seW x).length ≤ 20000 := by
  have h1 := hx.k
  have := sText_length x hx.n hx.t
  have a := uv_length x.k.length (by simp [B64]; omega)
  have b := uv_length (sText x).length (by simp [B64]; omega)
  have c := uv_length (flag x.imp) (flag_lt _)
  simp [seW]; omega
theorem ok75 {G : Nat → DV} (h : List Blk) (bb pb : Nat) (d : DV) (rev : Int) (l : List UInt8) (x : Sett) (hx : SFine x) (hrev : ¬ rev ≤ 54429) (hl : l.length ≤ 1000000) (hs : BufS h bb d l) (hp : h[pb]? = some (.cells 4 [proD x])) (hne : pb ≠ bb) (hni : ¬ inBlk d pb) : OkR Tryd.prog G 75 [.ptr pb 0 0 1, .ptr bb 0 0 1, .p (.int .u64 rev)] h (BufE h bb d (l ++ seW x)) := by
  refine OkR_by Tryd.func75 c75_ok r75_ok 76 rfl ?_
  have hxk := hx.k
  have hst := sText_length x hx.n hx.t
  have hpl : pb < h.length := (List.getElem?_eq_some_iff.1 hp).1
  have hua := uv_length x.k.length (by simp [B64]; omega)
  have hu2 := uv_length (flag x.imp) (flag_lt _)
  simp [c75, r75, hp, proD]
  refine FF_byR (ok49 _ bb d l x.k (by omega) (by omega) hs) ?_
  rintro v h1 ⟨rfl, d1, k1, m1⟩
  have g1 := (m1.old pb hpl hne hni).trans hp
  simp [hrev, g1, proD]
  have orr : ior .u64 0 1 = 1 := by decide
  have k1' := ok66 (G := G) h1 bb d1 _ (flag x.imp) (flag_lt _) (by simp; omega) k1
  have rest : ∀ Q : DX → St → Prop, True := fun _ => trivial
  cases hi : x.imp
  all_goals
    simp [hi, g1, proD, orr]
    rw [hi] at k1'
    refine FF_byR k1' ?_
    rintro v h2 ⟨rfl, d2, k2, m2⟩
    have g2 := ((m1.trans m2).old pb hpl hne hni).trans hp
    simp [g2, proD, hi]
    refine FF_by (ok98 _ x hx.n hx.kind) ?_
    simp
    refine FF_byR (ok49 _ bb d2 _ (sText x) (by omega) (by have := flag_lt x.imp; rw [hi] at hu2; simp; omega) k2) ?_
    rintro v h3 ⟨rfl, d3, k3, m3⟩
    simp
    exact REr_by _ _ .refl ⟨rfl, d3, by simpa [seW, hi] using k3, (m1.trans m2).trans m3⟩

def sesW (l : List Sett) : List UInt8 := l.flatMap seW
theorem sesW_snoc (l : List Sett) (x : Sett) : sesW (l ++ [x]) = sesW l ++ seW x := by simp [sesW]
theorem sesW_length (l : List Sett) (h : ∀ x, x ∈ l → SFine x) : (sesW l).length ≤ 20000 * l.length := by
  induction l with
  | nil => simp [sesW]
  | cons x l ih =>
    have h1 := ih fun y hy => h y (List.mem_cons_of_mem _ hy)
    have h2 := seW_length x (h x (by simp))
    simp [sesW] at h1 ⊢; omega

theorem ok17 (h : List Blk) (l : List Sett) (hx : ∀ x, x ∈ l → SFine x) (hl : l.length ≤ 10) : Ok Tryd.prog (fun _ => .any) 17 [.fz 6 (sets l)] h (.p (.string (txt (sesW l)))) h := by
  refine Ok_by Tryd.func17 c17_ok r17_ok 34 rfl ?_
  simp [c17, r17]
  refine VV_fam (fun x : Nat × List Blk => ⟨fr 35 [(3, .p (.string (txt (sesW (l.take x.1))))), (7, .fz 6 (sets l)), (8, .p (.int .i64 l.length)), (9, .p (.int .i64 x.1))], x.2⟩)
    (fun x => x.1 ≤ l.length ∧ HPre h x.2) (fun x => l.length - x.1) (0, h) ⟨Nat.zero_le _, HPre.refl h⟩ (Wk.fits (by simp [sesW])) ?_
  rintro ⟨i, h'⟩ ⟨hi, hp⟩ B hb he hr
  simp only at hi hp
  simp
  refine CC_by (fun h1 => ?_) (fun h1 => ?_)
  · have h1 : i < l.length := by simpa using h1
    have hw : IntKind.i64.wrap ((i : Int) + 1) = ((i + 1 : Nat) : Int) := wrap_succ (n := l.length) h1 (by omega)
    have hn := take_succ_at h1
    have hlen := sesW_length (l.take i) fun x hx' => hx x (List.mem_of_mem_take hx')
    simp at hlen
    have hf := hx _ (List.getElem_mem h1)
    have hxk := hf.k
    have hst := sText_length l[i] hf.n hf.t
    have hpl := seW_length l[i] hf
    have orr : ior .u64 0 1 = 1 := by decide
    have hnw : sesW (l.take (i + 1)) = sesW (l.take i) ++ (uv l[i].k.length ++ (l[i].k ++ (uv (flag l[i].imp) ++ (uv (sText l[i]).length ++ sText l[i])))) := by
      rw [hn, sesW_snoc]; simp [seW]
    have hpl' := hpl
    simp [seW] at hpl'
    have hget := sets_get h1
    generalize hxx : l[i] = x at *
    have h17 := ok40 (G := fun _ => .any) (h' ++ [.cells 6 [setD x false]]) (flag x.imp) (flag_lt _)
    cases hi' : x.imp
    all_goals
      rw [hi'] at hpl' h17 hnw
      simp [h1, hget, hxx, setD, hi', orr]
      refine DF_by (ok22 _ x.k (by omega)) ?_
      simp
      refine DF_by (by simpa [setD, hi', flag] using h17) ?_
      simp [flag] at hpl' hnw
      simp
      refine ⟨by omega, ?_⟩
      refine DF_by (by simpa [setD, hi'] using ok41 (G := fun _ => .any) _ x false hf.n) ?_
      simp
      refine DF_by (ok22 _ (sText x) (by omega)) ?_
      simp [hw]
      refine ⟨by omega, by omega, ?_⟩
      refine hb _ (i + 1, _) (Wk.fits ?_) ⟨h1, hp.trans (HPre.append _ _)⟩ (by simp only; omega)
      rw [← hnw]
      simp
  · have h1 : i = l.length := by simp at h1; omega
    subst h1
    simp
    refine he _ _ ?_
    simp
    exact WkV.ofPure hp rfl

end Go.Proofs.YtdgnjngbheecnaaDoor
