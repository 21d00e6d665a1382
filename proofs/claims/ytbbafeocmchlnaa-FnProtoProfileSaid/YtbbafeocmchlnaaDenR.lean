/- The library: contracts of functions over denoted values (R). -/
import Derived.Test.YtbbafeocmchlnaaDenQ
set_option linter.unusedVariables false
set_option linter.unusedSimpArgs false
set_option linter.unusedSectionVars false
set_option linter.unnecessarySimpa false
namespace Go.Den
open Go

section
variable {P : Program} {G : Nat → DV} {e : Env} {w : World} {K : DV → List Blk → Prop} {t : List DV} {a : Act}

theorem bind_some_if {α β : Type} {o : Option α} {c : α → Prop} [∀ x, Decidable (c x)] {f : α → β} {d : β} (h : (o.bind fun g => if c g then some (f g) else none) = some d) : ∃ g, o = some g ∧ c g ∧ f g = d := by
  cases o with
  | none => cases h
  | some g =>
    simp only [Option.bind_some] at h
    by_cases hc : c g
    · rw [if_pos hc] at h; exact ⟨g, rfl, hc, Option.some.inj h⟩
    · rw [if_neg hc] at h; cases h

theorem s_slcs {ty : TypeId} (hu : P.underlying ty = some .string) {x : Operand} {lo hi : Option Operand} (hg : GR e G) (ht : TR e t a.tmps) (hH : e.H = w.heap) (hr : HR e) (h : vcO P G (.slcs (cOpd x) (lo.map cOpd) (hi.map cOpd)) (Opd.ev G t) e.h K) :
    Yields P (do pure (.value (← Instr.sliceAt ty (a.eval x) (lo.map a.eval) (hi.map a.eval) none))) w (After e w K) := by
  have hx := vr_ev hg ht x
  simp only [vcO] at h
  split at h
  · rename_i s hs
    rw [hs] at hx
    obtain ⟨h1, _⟩ := vr_p hx
    rw [h1]
    split at h
    · rename_i kl l kr r h2 h3
      refine y_slc_str hu hH hr _ _ l r (fun v hv => ?_) (fun hv => ?_) (fun v hv => ?_) (fun hv => ?_) h
      · cases lo with
        | none => cases hv
        | some lo => simp only [Option.map_some, Option.some.injEq, Option.elim] at hv h2; have := vr_ev hg ht lo; rw [h2] at this; exact ⟨kl, by rw [← hv]; exact (vr_p this).1⟩
      · cases lo with
        | none => simp only [Option.map_none, Option.elim] at h2; injection h2 with h2; injection h2 with _ h2; exact h2.symm
        | some lo => cases hv
      · cases hi with
        | none => cases hv
        | some hi => simp only [Option.map_some, Option.some.injEq, Option.elim] at hv h3; have := vr_ev hg ht hi; rw [h3] at this; exact ⟨kr, by rw [← hv]; exact (vr_p this).1⟩
      · cases hi with
        | none => simp only [Option.map_none, Option.elim] at h3; injection h3 with h3; injection h3 with _ h3; exact h3.symm
        | some hi => cases hv
    · exact h.elim
  · exact h.elim

theorem s_slcl {ty el : TypeId} {g : Bool} {sz : Nat} (hu : P.underlying ty = some (.slice el)) (hty : Ty P el g sz) {x : Operand} {lo hi : Option Operand} (hg : GR e G) (ht : TR e t a.tmps) (hH : e.H = w.heap) (hr : HR e) (h : vcO P G (.slcl sz (cOpd x) (lo.map cOpd) (hi.map cOpd)) (Opd.ev G t) e.h K) :
    Yields P (do pure (.value (← Instr.sliceAt ty (a.eval x) (lo.map a.eval) (hi.map a.eval) none))) w (After e w K) := by
  have hx := vr_ev hg ht x
  have blo : ∀ {kl : IntKind} {l : Int}, ((lo.map cOpd).elim (DV.p (.int .i64 0)) (Opd.ev G t)) = .p (.int kl l) → (∀ v, lo.map a.eval = some v → ∃ k, v = .int k l) ∧ (lo.map a.eval = none → l = 0) := by
    intro kl l h2
    constructor
    · intro v hv
      cases lo with
      | none => cases hv
      | some lo => simp only [Option.map_some, Option.some.injEq, Option.elim] at hv h2; have := vr_ev hg ht lo; rw [h2] at this; exact ⟨kl, by rw [← hv]; exact (vr_p this).1⟩
    · intro hv
      cases lo with
      | none => simp only [Option.map_none, Option.elim] at h2; injection h2 with h2; injection h2 with _ h2; exact h2.symm
      | some lo => cases hv
  have bhi : ∀ {kl : IntKind} {l : Int} {n : Nat}, ((hi.map cOpd).elim (DV.p (.int .i64 n)) (Opd.ev G t)) = .p (.int kl l) → (∀ v, hi.map a.eval = some v → ∃ k, v = .int k l) ∧ (hi.map a.eval = none → l = n) := by
    intro kl l n h2
    constructor
    · intro v hv
      cases hi with
      | none => cases hv
      | some hi => simp only [Option.map_some, Option.some.injEq, Option.elim] at hv h2; have := vr_ev hg ht hi; rw [h2] at this; exact ⟨kl, by rw [← hv]; exact (vr_p this).1⟩
    · intro hv
      cases hi with
      | none => simp only [Option.map_none, Option.elim] at h2; injection h2 with h2; injection h2 with _ h2; exact h2.symm
      | some hi => cases hv
  simp only [vcO] at h
  split at h
  · rename_i sz' xs hs
    rw [hs] at hx
    split at h
    · rename_i kl l kr r h2 h3
      obtain ⟨A, c, hv, hc⟩ := vr_fz_n hx
      exact y_slc_sl hu hty hH hr hx _ _ xs.length l r ⟨A, c, hv, hc⟩ (blo h2).1 (blo h2).2 (bhi h3).1 (bhi h3).2 ⟨rfl, h⟩
    · exact h.elim
  · rename_i b i n y hs
    rw [hs] at hx
    split at h
    · rename_i kl l kr r h2 h3
      obtain ⟨A, c, hv⟩ := vr_sl_n hx
      have hnc : n ≤ c := by
        have hb := h.1
        split at hb
        · rename_i bsz els hbb
          obtain ⟨rfl, rfl⟩ := hb
          obtain ⟨_, hcase⟩ := vr_sl hx (Env.key_of hbb)
          rcases hcase with ⟨_, h1⟩ | ⟨q, a', cap, _, h1, hc, _⟩
          · rw [hv] at h1; injection h1 with _ h5 h6; omega
          · rw [hv] at h1; injection h1 with _ h5 h6; omega
        · exact hb.elim
      exact y_slc_sl hu hty hH hr hx _ _ n l r ⟨A, c, hv, hnc⟩ (blo h2).1 (blo h2).2 (bhi h3).1 (bhi h3).2 ⟨rfl, h⟩
    · exact h.elim
  · rename_i hs
    rw [hs] at hx
    split at h
    · rename_i kl l kr r h2 h3
      have hv := (vr_p hx).1
      exact y_slc_sl hu hty hH hr hx _ _ 0 l r ⟨none, 0, hv, Nat.le_refl _⟩ (blo h2).1 (blo h2).2 (bhi (n := 0) h3).1 (bhi (n := 0) h3).2 h
    · exact h.elim
  · rename_i g' z b i o n c y hs
    rw [hs] at hx
    split at h
    · rename_i kl l kr r h2 h3
      obtain ⟨A, hv⟩ := vr_sa_n hx
      have hnc : n ≤ c := by
        have hb := h.1
        split at hb
        · rename_i bsz els hbb
          obtain ⟨rfl, rfl⟩ := hb
          obtain ⟨_, q, a', _, h1, hc, _⟩ := vr_sa hx (Env.key_of hbb)
          exact hc
        · exact hb.elim
      exact y_slc_sl hu hty hH hr hx _ _ n l r ⟨A, c, hv, hnc⟩ (blo h2).1 (blo h2).2 (bhi h3).1 (bhi h3).2 ⟨rfl, h⟩
    · exact h.elim
  · exact h.elim

theorem s_slca {ty el : TypeId} {m : Nat} {g : Bool} {z : Nat} (hu : P.underlying ty = some (.array m el) ∨ ∃ arr, P.underlying ty = some (.pointer arr) ∧ P.underlying arr = some (.array m el)) (hty : Ty P el g z) (hgz : g = false → z = 1) {x : Operand} {lo hi : Option Operand} (hg : GR e G) (ht : TR e t a.tmps) (hH : e.H = w.heap) (hr : HR e) (h : vcO P G (.slca m z g (cOpd x) (lo.map cOpd) (hi.map cOpd)) (Opd.ev G t) e.h K) :
    Yields P (do pure (.value (← Instr.sliceAt ty (a.eval x) (lo.map a.eval) (hi.map a.eval) none))) w (After e w K) := by
  have hx := vr_ev hg ht x
  have blo : ∀ {kl : IntKind} {l : Int}, ((lo.map cOpd).elim (DV.p (.int .i64 0)) (Opd.ev G t)) = .p (.int kl l) → (∀ v, lo.map a.eval = some v → ∃ k, v = .int k l) ∧ (lo.map a.eval = none → l = 0) := by
    intro kl l h2
    constructor
    · intro v hv
      cases lo with
      | none => cases hv
      | some lo => simp only [Option.map_some, Option.some.injEq, Option.elim] at hv h2; have := vr_ev hg ht lo; rw [h2] at this; exact ⟨kl, by rw [← hv]; exact (vr_p this).1⟩
    · intro hv
      cases lo with
      | none => simp only [Option.map_none, Option.elim] at h2; injection h2 with h2; injection h2 with _ h2; exact h2.symm
      | some lo => cases hv
  have bhi : ∀ {kl : IntKind} {l : Int} {n : Nat}, ((hi.map cOpd).elim (DV.p (.int .i64 n)) (Opd.ev G t)) = .p (.int kl l) → (∀ v, hi.map a.eval = some v → ∃ k, v = .int k l) ∧ (hi.map a.eval = none → l = n) := by
    intro kl l n h2
    constructor
    · intro v hv
      cases hi with
      | none => cases hv
      | some hi => simp only [Option.map_some, Option.some.injEq, Option.elim] at hv h2; have := vr_ev hg ht hi; rw [h2] at this; exact ⟨kl, by rw [← hv]; exact (vr_p this).1⟩
    · intro hv
      cases hi with
      | none => simp only [Option.map_none, Option.elim] at h2; injection h2 with h2; injection h2 with _ h2; exact h2.symm
      | some hi => cases hv
  simp only [vcO] at h
  split at h
  · rename_i b i o y hs
    rw [hs] at hx
    split at h
    · rename_i kl l kr r h2 h3
      exact y_slca hu hty hgz hH hr hx _ _ l r (blo h2).1 (blo h2).2 (bhi h3).1 (bhi h3).2 h
    · exact h.elim
  · exact h.elim

theorem s_conv {src dst : TypeId} {x : Operand} {d : DO} (hc : cConv P src dst x = some d) (hg : GR e G) (ht : TR e t a.tmps) (hH : e.H = w.heap) (hr : HR e) (h : vcO P G d (Opd.ev G t) e.h K) :
    Yields P (do pure (.value (← convert src dst (a.eval x)))) w (After e w K) := by
  have hx := vr_ev hg ht x
  unfold cConv at hc
  have u8 : ∀ {t}, isU8 P t = true → P.underlying t = some (.int .u8) := by
    intro t h
    unfold isU8 at h
    split at h
    · assumption
    · cases h
  split at hc
  · rename_i ds k hs hd
    cases hc
    simp only [vcO] at h
    split at h
    · rename_i k' n h1
      rw [h1] at hx
      obtain ⟨h2, _⟩ := vr_p hx
      rw [h2]
      refine y_pure ?_ hH hr (.p rfl) h
      rw [Sem.run_bind]
      unfold convert
      simp only [Sem.run_bind, run_underlying hs, run_underlying hd, Result.andThen_ok, Conv.intToInt, Sem.run_pure]
    · exact h.elim
  · rename_i el hs hd
    split at hc
    · rename_i hu
      cases hc
      simp only [vcO] at h
      split at h
      · rename_i s h1
        rw [h1] at hx
        obtain ⟨h2, _⟩ := vr_p hx
        rw [h2]
        exact y_s2b hs hd (u8 hu) hH hr h
      · exact h.elim
    · cases hc
  · rename_i el hs hd
    split at hc
    · rename_i hu
      cases hc
      simp only [vcO] at h
      exact y_b2s hs (u8 hu) hd hH hr hx h
    · cases hc
  · rename_i k hs hd
    cases hc
    simp only [vcO] at h
    split at h
    · rename_i k' n h1
      rw [h1] at hx
      obtain ⟨h2, _⟩ := vr_p hx
      rw [h2]
      refine y_pure ?_ hH hr (.p rfl) h
      rw [Sem.run_bind]
      unfold convert
      simp only [Sem.run_bind, run_underlying hs, run_underlying hd, Result.andThen_ok, Conv.intToString, Sem.run_pure]
    · rename_i s h1
      rw [h1] at hx
      obtain ⟨h2, _⟩ := vr_p hx
      rw [h2]
      refine y_pure ?_ hH hr (.p rfl) h
      rw [Sem.run_bind]
      unfold convert
      simp only [Sem.run_bind, run_underlying hs, run_underlying hd, Result.andThen_ok, Sem.run_pure]
    · exact h.elim
  · rename_i hs hd
    cases hc
    simp only [vcO] at h
    split at h
    · rename_i k' n h1
      rw [h1] at hx
      obtain ⟨h2, _⟩ := vr_p hx
      rw [h2]
      refine y_pure ?_ hH hr (.p rfl) h
      rw [Sem.run_bind]
      unfold convert
      simp only [Sem.run_bind, run_underlying hs, run_underlying hd, Result.andThen_ok, Conv.intToString, Sem.run_pure]
    · rename_i s h1
      rw [h1] at hx
      obtain ⟨h2, _⟩ := vr_p hx
      rw [h2]
      refine y_pure ?_ hH hr (.p rfl) h
      rw [Sem.run_bind]
      unfold convert
      simp only [Sem.run_bind, run_underlying hs, run_underlying hd, Result.andThen_ok, Sem.run_pure]
    · exact h.elim
  · cases hc

theorem s_mm {mx : Bool} {x y : Operand} {ats : Array TypeId} {ty : TypeId} (hg : GR e G) (ht : TR e t a.tmps) (hH : e.H = w.heap) (hr : HR e) (h : vcO P G (.mm mx (cOpd x) (cOpd y)) (Opd.ev G t) e.h K) :
    Yields P (do pure (.value (← (if mx then Builtin.max_ ats ty #[a.eval x, a.eval y] else Builtin.min_ ats ty #[a.eval x, a.eval y])))) w (After e w K) := by
  have hx := vr_ev hg ht x
  have hy := vr_ev hg ht y
  simp only [vcO] at h
  split at h
  · rename_i k p k' q h1 h2
    rw [h1] at hx
    rw [h2] at hy
    rw [(vr_p hx).1, (vr_p hy).1]
    refine y_pure ?_ hH hr (.p rfl) h
    cases mx
    · simp [Builtin.min_, Builtin.min2]
    · simp [Builtin.max_, Builtin.max2]
  · exact h.elim

end
end Go.Den
