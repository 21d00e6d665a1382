/- Settings: sizes (turned from another seat by mkpq.py) -/
import Derived.Test.YtdgnjngbheecnaaDoorQsA
set_option linter.unusedVariables false
set_option linter.unusedSimpArgs false
set_option maxRecDepth 100000
namespace Go.Proofs.YtdgnjngbheecnaaDoor
open Go Go.Den Go.Proofs



def sfit (x : Sett × Bool) : Bool := decide (x.1.k.length ≤ 2147483647) && decide (x.1.t.length ≤ 2147483647)
theorem ok47 {G : Nat → DV} (h : List Blk) (x : Sett × Bool) : Ok Tryd.prog G 47 [setD x.1 x.2] h (.p (.bool (sfit x))) h := by
  refine Ok_by Tryd.func47 c47_ok r47_ok 10 rfl ?_
  simp [c47, r47, setD]
  refine CC_by (fun h1 => ?_) (fun h1 => ?_)
  · have h1 : ¬ x.1.k.length ≤ 2147483647 := by simp at h1; omega
    simp [sfit, h1]
  · have h1 : x.1.k.length ≤ 2147483647 := by simp at h1; omega
    simp
    refine CC_by (fun h2 => ?_) (fun h2 => ?_)
    · have h2 : ¬ x.1.t.length ≤ 2147483647 := by simp at h2; omega
      simp [sfit, h2]
    · have h2 : x.1.t.length ≤ 2147483647 := by simp at h2; omega
      simp [sfit, h1, h2]

theorem ok28 {G : Nat → DV} (h : List Blk) (l : List (Sett × Bool)) (hl : l.length ≤ maxLen) : Ok Tryd.prog G 28 [.fz 6 (psets l)] h (.p (.bool (decide (l.length ≤ 2147483647) && l.all sfit))) h := by
  refine Ok_by Tryd.func28 c28_ok r28_ok 17 rfl ?_
  simp [c28, r28]
  refine CC_by (fun hc => ?_) (fun hc => ?_)
  · have hc : ¬ l.length ≤ 2147483647 := by simp at hc; omega
    simp [hc]
  · have hc : l.length ≤ 2147483647 := by simp at hc; omega
    simp
    refine VV_fam (fun x : Nat × List Blk => ⟨fr 18 [(8, .fz 6 (psets l)), (9, .p (.int .i64 l.length)), (10, .p (.int .i64 x.1))], x.2⟩)
      (fun x => x.1 ≤ l.length ∧ (l.take x.1).all sfit = true ∧ HPre h x.2) (fun x => l.length - x.1) (0, h) ⟨Nat.zero_le _, by simp, HPre.refl h⟩ (Wk.fits (by simp)) ?_
    rintro ⟨i, h'⟩ ⟨hi, hal, hp⟩ B hb he hr
    simp only at hi hal hp
    simp
    refine CC_by (fun h1 => ?_) (fun h1 => ?_)
    · have h1 : i < l.length := by simpa using h1
      have htk := take_succ_at h1
      have hw : IntKind.i64.wrap ((i : Int) + 1) = ((i + 1 : Nat) : Int) := wrap_succ (n := l.length) h1 (by omega)
      simp [h1, psets_get h1, setD]
      refine FF_by (ok47 _ l[i]) ?_
      simp
      cases hf : sfit l[i]
      · simp
        refine hr _ ?_
        have : l.all sfit = false := by
          rw [List.all_eq_false]
          exact ⟨l[i], List.getElem_mem _, by simp [hf]⟩
        simp [this]
        exact WkV.ofPure (hp.trans (by simp)) rfl
      · simp [hw]
        refine hb _ (i + 1, _) (Wk.fits (by simp)) ⟨h1, ?_, hp.trans (HPre.append _ _)⟩ (by simp; omega)
        show (l.take (i + 1)).all sfit = true
        rw [htk, List.all_append, hal, List.all_cons, hf]; rfl
    · have h1 : i = l.length := by simp at h1; omega
      subst h1
      rw [List.take_length] at hal
      simp
      refine he _ _ ?_
      simp [hal, hc]
      exact WkV.ofPure hp rfl

theorem ok12 {G : Nat → DV} (h : List Blk) (l : List (Sett × Bool)) (hl : l.length ≤ 2147483647) : Ok Tryd.prog G 12 [.fz 6 (psets l)] h (.fz 6 (sets (l.map (·.1)))) h := by
  refine Ok_by Tryd.func12 c12_ok r12_ok 18 rfl ?_
  simp [c12, r12]
  refine VV_fam (fun x : Nat × DV × List Blk => ⟨fr 19 [(3, x.2.1), (6, .fz 6 (psets l)), (7, .p (.int .i64 l.length)), (8, .p (.int .i64 x.1))], x.2.2⟩)
    (fun x => x.1 ≤ l.length ∧ Own h 6 x.2.2 x.2.1 (sets ((l.take x.1).map (·.1)))) (fun x => l.length - x.1) (0, .p (.slice none 0 0), h) ⟨Nat.zero_le _, by simpa [sets] using Own.nil⟩ (Wk.fits (by simp)) ?_
  rintro ⟨i, d, h'⟩ ⟨hi, ho⟩ B hb he hr
  simp only at hi ho
  simp
  refine CC_by (fun h1 => ?_) (fun h1 => ?_)
  · have h1 : i < l.length := by simpa using h1
    have hw : IntKind.i64.wrap ((i : Int) + 1) = ((i + 1 : Nat) : Int) := wrap_succ (n := l.length) h1 (by omega)
    have hn := take_succ_at h1
    simp [h1, psets_get h1, setD]
    have ho1 : Own h 6 (h' ++ [.cells 6 [setD l[i].1 false]]) d (sets ((l.take i).map (·.1))) := ho.push
    rw [show ∀ X Y : Blk, h' ++ [X, Y] = (h' ++ [X]) ++ [Y] from by simp, show h'.length + 1 = (h' ++ [Blk.cells 6 [setD l[i].1 false]]).length from by simp]
    refine AA_lit1 ho1 (by simp; omega) ?_
    intro d2 h2 o2 _ _
    simp [hw]
    refine hb _ (i + 1, d2, h2) (Wk.fits (by simp)) ⟨h1, ?_⟩ (by simp; omega)
    rw [hn, List.map_append, List.map_cons, List.map_nil, sets_push]; exact o2
  · have h1 : i = l.length := by simp at h1; omega
    subst h1
    rw [List.take_length] at ho
    simp
    refine he _ _ ?_
    simp
    exact ho.wk (sets_plain _)

/-- What the walk asks of a setting. -/
def sgood (x : Sett) : Bool := !decide (x.k = []) && (decide (0 ≤ x.kind) && (decide (x.kind ≤ 2) && decide (sumLen [x.k, x.t] ≤ 5000)))
theorem ok13 (h : List Blk) (l : List Sett) (hl : l.length ≤ 2147483647) (hf : ∀ x, x ∈ l → x.k.length ≤ 2147483647 ∧ x.t.length ≤ 2147483647) : Ok Tryd.prog (fun _ => .any) 13 [.fz 6 (sets l)] h (.p (.bool (l.all sgood && decide (l.length ≤ 10)))) h := by
  refine Ok_by Tryd.func13 c13_ok r13_ok 45 rfl ?_
  simp [c13, r13]
  refine VV_fam (fun x : Nat × List Blk => ⟨fr 46 [(0, .fz 6 (sets l)), (5, .fz 6 (sets l)), (6, .p (.int .i64 l.length)), (7, .p (.int .i64 x.1))], x.2⟩)
    (fun x => x.1 ≤ l.length ∧ (l.take x.1).all sgood = true ∧ HPre h x.2) (fun x => l.length - x.1) (0, h) ⟨Nat.zero_le _, by simp, HPre.refl h⟩ (Wk.fits (by simp)) ?_
  rintro ⟨i, h'⟩ ⟨hi, hal, hp⟩ B hb he hr
  simp only at hi hal hp
  simp
  refine CC_by (fun h1 => ?_) (fun h1 => ?_)
  · have h1 : i < l.length := by simpa using h1
    have htk := take_succ_at h1
    have hw : IntKind.i64.wrap ((i : Int) + 1) = ((i + 1 : Nat) : Int) := wrap_succ (n := l.length) h1 (by omega)
    have hfi := hf _ (List.getElem_mem h1)
    have nxt : sgood l[i] = true → (l.take (i + 1)).all sgood = true := by
      intro hg
      rw [htk, List.all_append, hal, List.all_cons, hg]; rfl
    have bad : sgood l[i] = false → l.all sgood = false := fun hg => List.all_eq_false.2 ⟨l[i], List.getElem_mem _, by simp [hg]⟩
    have hget := sets_get h1
    generalize hx : l[i] = x at *
    rcases hk : x.k with _ | ⟨a, s⟩
    · have hb : l.all sgood = false := bad (by simp [sgood, hk])
      simp [h1, hget, hx, setD, hk]
      refine hr _ ?_
      simp [hb]
      exact WkV.ofPure (hp.trans (HPre.append _ _)) rfl
    · rcases Decidable.em (x.kind < 0) with h2 | h2
      · have hb : l.all sgood = false := bad (by simp [sgood, hk]; omega)
        simp [h1, hget, hx, setD, hk, h2]
        refine hr _ ?_
        simp [hb]
        exact WkV.ofPure (hp.trans (HPre.append _ _)) rfl
      · rcases Decidable.em (2 < x.kind) with h3 | h3
        · have hb : l.all sgood = false := bad (by simp [sgood, hk]; omega)
          simp [h1, hget, hx, setD, hk, h2, h3]
          refine hr _ ?_
          simp [hb]
          exact WkV.ofPure (hp.trans (HPre.append _ _)) rfl
        · simp [h1, hget, hx, setD, hk, h2, h3]
          have hla : (a :: s).length ≤ 2147483647 := hk ▸ hfi.1
          have h13 := ok6 (G := fun _ => .any) [] [a :: s, x.t] (by simp [sumLen] at hla ⊢; omega) (by simp)
          rw [show ∀ X Y : Blk, h' ++ [X, Y] = (h' ++ [X]) ++ [Y] from by simp]
          refine FF_by (Ok.lend gz h13 (.cons ?_ .nil) rfl) ?_
          · have := frzR_lit (h := h' ++ [.cells 6 [setD x false]]) (x := []) (sz := 1) (n := 2) (l := txts [a :: s, x.t]) rfl txts_plain
            simpa [txts, setD, hk] using this
          · simp
            cases hG : decide (sumLen [a :: s, x.t] ≤ 5000)
            · have hG : ¬ sumLen [a :: s, x.t] ≤ 5000 := by simpa using hG
              have hbb : l.all sgood = false := bad (by simp [sgood, hk]; intros; omega)
              simp
              refine hr _ ?_
              simp [hbb]
              exact WkV.ofPure (hp.trans (HPre.append _ _)) rfl
            · have hG : sumLen [a :: s, x.t] ≤ 5000 := by simpa using hG
              simp [hw]
              refine hb _ (i + 1, _) (Wk.fits (by simp)) ⟨h1, nxt (by simp [sgood, hk, hG]; omega), hp.trans (HPre.append _ _)⟩ (by simp only; omega)
  · have h1 : i = l.length := by simp at h1; omega
    subst h1
    rw [List.take_length] at hal
    simp
    refine he _ _ ?_
    have e : decide ((l.length : Int) ≤ 10) = decide (l.length ≤ 10) := by congr 1; apply propext; omega
    simp [hal, e]
    exact WkV.ofPure hp rfl

end Go.Proofs.YtdgnjngbheecnaaDoor
