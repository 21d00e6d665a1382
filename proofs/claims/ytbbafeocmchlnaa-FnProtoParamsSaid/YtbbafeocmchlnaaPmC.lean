/- Parameters: the walk of the law FnProtoParams. -/
import Derived.Test.YtbbafeocmchlnaaPmB
set_option linter.unusedVariables false
set_option linter.unusedSimpArgs false
set_option maxRecDepth 100000
namespace Go.Proofs.Ytbbafeocmchlnaa
open Go Go.Den Go.Proofs

def good (x : Par) : Bool := x.2.all okc && (!decide (x.1 = []) && decide (sumLen [x.1, x.2] ≤ 5000))
theorem good_fine {x : Par} (h : good x = true) : Fine x := by
  simp [good, sumLen] at h
  exact ⟨by omega, by omega, by simpa using h.1⟩

theorem ok19 (h : List Blk) (x : Par) (h1 : x.1.length ≤ 2147483647) (h2 : x.2.length ≤ 2147483647) : Ok Try.prog (fun _ => .any) 19 [parD x] h (.p (.bool (good x))) h := by
  refine Ok_by Try.func19 c19_ok r19_ok 33 rfl ?_
  simp [c19, r19, parD]
  refine VV_fam (fun i : Nat => ⟨fr 34 [(0, parD x), (1, .ptr h.length 0 0 1), (6, .p (.int .i64 x.2.length)), (7, .p (.int .i64 i))], h ++ [.cells 2 [parD x]]⟩)
    (fun i => i ≤ x.2.length ∧ (x.2.take i).all okc = true) (fun i => x.2.length - i) 0 ⟨Nat.zero_le _, by simp⟩ (Wk.fits (by simp [parD])) ?_
  rintro i ⟨hi, hal⟩ B hb he hr
  simp [parD]
  refine CC_by (fun hc => ?_) (fun hc => ?_)
  · have hc : i < x.2.length := by simpa using hc
    have hw : IntKind.i64.wrap ((i : Int) + 1) = ((i + 1 : Nat) : Int) := wrap_succ (n := x.2.length) hc (by omega)
    have htk := take_succ_at hc
    have bad : okc x.2[i] = false → good x = false := by
      intro hb
      have : x.2.all okc = false := List.all_eq_false.2 ⟨x.2[i], List.getElem_mem _, by simp [hb]⟩
      simp only [good, this, Bool.false_and]
    have nxt : okc x.2[i] = true → (x.2.take (i + 1)).all okc = true := by
      intro hb
      rw [htk, List.all_append, hal, List.all_cons, hb]; rfl
    generalize hcc : x.2[i] = c at *
    rcases Nat.lt_or_ge c.toNat 32 with hA | hA
    · have hA' : (c.toNat : Int) < 32 := by omega
      simp [hc, hcc, byteD, hA']
      refine hr _ ?_
      simp [bad (by simp [okc]; omega)]
    · have hA' : ¬ (c.toNat : Int) < 32 := by omega
      rcases Nat.lt_or_ge c.toNat 127 with hB | hB
      · have hB' : ¬ (127 : Int) ≤ (c.toNat : Int) := by omega
        simp [hc, hcc, byteD, hA', hB', hw]
        exact hb _ (i + 1) (Wk.fits (by simp [parD])) ⟨hc, nxt (by simp [okc]; omega)⟩ (by omega)
      · have hB' : (127 : Int) ≤ (c.toNat : Int) := by omega
        simp [hc, hcc, byteD, hA', hB']
        refine hr _ ?_
        simp [bad (by simp [okc]; omega)]
  · have hc : i = x.2.length := by simp at hc; omega
    subst hc
    rw [List.take_length] at hal
    simp
    refine he _ _ ?_
    rcases hx : x.1 with _ | ⟨a, s⟩
    · simp [hx, good, hal]
    · simp [hx, good, hal]
      have hla : (a :: s).length ≤ 2147483647 := hx ▸ h1
      generalize a :: s = u at *
      have h13 := ok13 (G := fun _ => .any) [] [u, x.2] (by simp [sumLen]; omega) (by simp)
      rw [show ∀ X Y : Blk, h ++ [X, Y] = (h ++ [X]) ++ [Y] from by simp]
      refine FF_by (Ok.lend gz h13 (.cons ?_ .nil) rfl) ?_
      · have := frzR_lit (h := h ++ [.cells 2 [.agg [.p (.string (txt u)), .p (.string (txt x.2))]]]) (x := []) (sz := 1) (n := 2) (l := txts [u, x.2]) rfl txts_plain
        simpa [txts] using this
      · simp

theorem ok4 (l : List Par) (r : DV) (hl : l.length ≤ maxLen) : Ok Try.prog (fun _ => .any) 4 [.fz 2 (pars l), r] [] (.p (.bool true)) [] := by
  refine Ok_by Try.func4 c4_ok r4_ok 41 rfl ?_
  simp [c4, r4]
  refine FF_by (ok18 _ l hl) ?_
  cases hsz : (decide (l.length ≤ 2147483647) && l.all fit2)
  · simp
  · simp at hsz
    obtain ⟨hz, hfit⟩ := hsz
    simp
    refine VV_fam (fun x : Nat × List Blk => ⟨fr 43 [(0, .fz 2 (pars l)), (1, r), (12, .fz 2 (pars l)), (13, .p (.int .i64 l.length)), (14, .p (.int .i64 x.1))], x.2⟩)
      (fun x => x.1 ≤ l.length ∧ (l.take x.1).all good = true) (fun x => l.length - x.1) (0, []) ⟨Nat.zero_le _, by simp⟩ (Wk.fits (by simp)) ?_
    rintro ⟨i, h'⟩ ⟨hi, hal⟩ B hb he hr
    simp only at hi hal
    simp
    refine CC_by (fun hc => ?_) (fun hc => ?_)
    · have hc : i < l.length := by simpa using hc
      have hw : IntKind.i64.wrap ((i : Int) + 1) = ((i + 1 : Nat) : Int) := wrap_succ (n := l.length) hc (by omega)
      have htk := take_succ_at hc
      have hf := hfit l[i].1 l[i].2 (List.getElem_mem hc)
      simp [fit2] at hf
      simp [hc, pars_get hc, parD]
      refine FF_by (ok19 _ l[i] hf.1 hf.2) ?_
      simp
      cases hg : good l[i]
      · simp
        refine FF_by (ok14 _) ?_
        simp
        refine hr _ ?_
        simp
      · simp [hw]
        refine hb _ (i + 1, _) (Wk.fits (by simp)) ⟨hc, ?_⟩ (by simp; omega)
        show (l.take (i + 1)).all good = true
        rw [htk, List.all_append, hal, List.all_cons, hg]; rfl
    · have hc : i = l.length := by simp at hc; omega
      subst hc
      rw [List.take_length] at hal
      have hx : ∀ x, x ∈ l → Fine x := fun x hx => good_fine (List.all_eq_true.1 hal x hx)
      simp
      refine he _ _ ?_
      simp
      refine CC_by (fun hd => ?_) (fun hd => ?_)
      · simp
        refine FF_by (ok14 _) ?_
        simp
      · have hd : l.length ≤ 10 := by simp at hd; omega
        simp
        refine FF_by (ok20 _ l r hx hd) ?_
        simp
        refine FF_by (ok21 _ l hx hd) ?_
        simp
        refine FF_by (ok14 _) ?_
        simp

theorem protoParams_walk (d : DV) (r : Int) (sd : Shaped (.sl 2 (.st [(1, .str), (1, .str)])) d) (hr : (Lit.int IntKind.u64 r).wf = true) : Ok Try.prog (fun _ => .any) 4 [d, .p (.int .u64 r)] [] (.p (.bool true)) [] := by
  obtain ⟨l, rfl, hl, _⟩ := shaped_pars sd
  exact ok4 l _ hl

end Go.Proofs.Ytbbafeocmchlnaa
