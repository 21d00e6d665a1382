/- Parameters: sizes (turned from another seat by mkpq.py) -/
import Derived.Test.YtdgnjngbheecnaaDoorQpA
set_option linter.unusedVariables false
set_option linter.unusedSimpArgs false
set_option maxRecDepth 100000
namespace Go.Proofs.YtdgnjngbheecnaaDoor
open Go Go.Den Go.Proofs

theorem ok29 {G : Nat → DV} (h : List Blk) (l : List Par) (hl : l.length ≤ maxLen) : Ok Tryd.prog G 29 [.fz 2 (pars l)] h (.p (.bool (decide (l.length ≤ 2147483647) && l.all fit2))) h := by
  refine Ok_by Tryd.func29 c29_ok r29_ok 17 rfl ?_
  simp [c29, r29]
  refine CC_by (fun hc => ?_) (fun hc => ?_)
  · have hc : ¬ l.length ≤ 2147483647 := by simp at hc; omega
    simp [hc]
  · have hc : l.length ≤ 2147483647 := by simp at hc; omega
    simp
    refine VV_fam (fun x : Nat × List Blk => ⟨fr 18 [(8, .fz 2 (pars l)), (9, .p (.int .i64 l.length)), (10, .p (.int .i64 x.1))], x.2⟩)
      (fun x => x.1 ≤ l.length ∧ (l.take x.1).all fit2 = true ∧ HPre h x.2) (fun x => l.length - x.1) (0, h) ⟨Nat.zero_le _, by simp, HPre.refl h⟩ (Wk.fits (by simp)) ?_
    rintro ⟨i, h'⟩ ⟨hi, hal, hp⟩ B hb he hr
    simp only at hi hal hp
    simp
    refine CC_by (fun h1 => ?_) (fun h1 => ?_)
    · have h1 : i < l.length := by simpa using h1
      have htk : l.take (i + 1) = l.take i ++ [l[i]] := by rw [List.take_add_one, List.getElem?_eq_getElem h1]; rfl
      have hw : IntKind.i64.wrap ((i : Int) + 1) = ((i + 1 : Nat) : Int) := wrap_succ (n := l.length) h1 (by omega)
      simp [h1, pars_get h1, parD]
      refine FF_by (ok48 _ l[i]) ?_
      simp
      cases hf : fit2 l[i]
      · simp
        refine hr _ ?_
        have : l.all fit2 = false := by
          rw [List.all_eq_false]
          exact ⟨l[i], List.getElem_mem _, by simp [hf]⟩
        simp [this]
        exact WkV.ofPure (hp.trans (by simp)) rfl
      · simp [hw]
        refine hb _ (i + 1, _) (Wk.fits (by simp)) ⟨h1, ?_, hp.trans (HPre.append _ _)⟩ (by simp; omega)
        show (l.take (i + 1)).all fit2 = true
        rw [htk, List.all_append, hal, List.all_cons, hf]; rfl
    · have h1 : i = l.length := by simp at h1; omega
      subst h1
      rw [List.take_length] at hal
      simp
      refine he _ _ ?_
      simp [hal, hc]
      exact WkV.ofPure hp rfl





def good (x : Par) : Bool := x.2.all okc && (!decide (x.1 = []) && decide (sumLen [x.1, x.2] ≤ 5000))
theorem good_fine {x : Par} (h : good x = true) : Fine x := by
  simp [good, sumLen] at h
  exact ⟨by omega, by omega, by simpa using h.1⟩

theorem ok14 (h : List Blk) (x : Par) (h1 : x.1.length ≤ 2147483647) (h2 : x.2.length ≤ 2147483647) : Ok Tryd.prog (fun _ => .any) 14 [parD x] h (.p (.bool (good x))) h := by
  refine Ok_by Tryd.func14 c14_ok r14_ok 33 rfl ?_
  simp [c14, r14, parD]
  refine VV_fam (fun i : Nat => ⟨fr 34 [(0, parD x), (1, .ptr h.length 0 0 1), (6, .p (.int .i64 x.2.length)), (7, .p (.int .i64 i))], h ++ [.cells 2 [parD x]]⟩)
    (fun i => i ≤ x.2.length ∧ (x.2.take i).all okc = true) (fun i => x.2.length - i) 0 ⟨Nat.zero_le _, by simp⟩ (Wk.fits (by simp [parD])) ?_
  rintro i ⟨hi, hal⟩ B hb he hr
  simp [parD]
  refine CC_by (fun hc => ?_) (fun hc => ?_)
  · have hc : i < x.2.length := by simpa using hc
    have hw : IntKind.i64.wrap ((i : Int) + 1) = ((i + 1 : Nat) : Int) := wrap_succ (n := x.2.length) hc (by omega)
    have htk := take_succ_at hc
    have bad : okc x.2[i] = false → good x = false := by
      intro hb
      have : x.2.all okc = false := List.all_eq_false.2 ⟨x.2[i], List.getElem_mem _, by simp [hb]⟩
      simp only [good, this, Bool.false_and]
    have nxt : okc x.2[i] = true → (x.2.take (i + 1)).all okc = true := by
      intro hb
      rw [htk, List.all_append, hal, List.all_cons, hb]; rfl
    generalize hcc : x.2[i] = c at *
    rcases Nat.lt_or_ge c.toNat 32 with hA | hA
    · have hA' : (c.toNat : Int) < 32 := by omega
      simp [hc, hcc, byteD, hA']
      refine hr _ ?_
      simp [bad (by simp [okc]; omega)]
    · have hA' : ¬ (c.toNat : Int) < 32 := by omega
      rcases Nat.lt_or_ge c.toNat 127 with hB | hB
      · have hB' : ¬ (127 : Int) ≤ (c.toNat : Int) := by omega
        simp [hc, hcc, byteD, hA', hB', hw]
        exact hb _ (i + 1) (Wk.fits (by simp [parD])) ⟨hc, nxt (by simp [okc]; omega)⟩ (by omega)
      · have hB' : (127 : Int) ≤ (c.toNat : Int) := by omega
        simp [hc, hcc, byteD, hA', hB']
        refine hr _ ?_
        simp [bad (by simp [okc]; omega)]
  · have hc : i = x.2.length := by simp at hc; omega
    subst hc
    rw [List.take_length] at hal
    simp
    refine he _ _ ?_
    rcases hx : x.1 with _ | ⟨a, s⟩
    · simp [hx, good, hal]
    · simp [hx, good, hal]
      have hla : (a :: s).length ≤ 2147483647 := hx ▸ h1
      generalize a :: s = u at *
      have h13 := ok6 (G := fun _ => .any) [] [u, x.2] (by simp [sumLen]; omega) (by simp)
      rw [show ∀ X Y : Blk, h ++ [X, Y] = (h ++ [X]) ++ [Y] from by simp]
      refine FF_by (Ok.lend gz h13 (.cons ?_ .nil) rfl) ?_
      · have := frzR_lit (h := h ++ [.cells 2 [.agg [.p (.string (txt u)), .p (.string (txt x.2))]]]) (x := []) (sz := 1) (n := 2) (l := txts [u, x.2]) rfl txts_plain
        simpa [txts] using this
      · simp

end Go.Proofs.YtdgnjngbheecnaaDoor
