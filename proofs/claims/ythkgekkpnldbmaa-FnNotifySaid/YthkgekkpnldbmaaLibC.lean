/- The library: contracts of functions over denoted values (LibC). -/
import Derived.Test.YthkgekkpnldbmaaLibB
set_option linter.unusedVariables false
set_option linter.unusedSimpArgs false
set_option linter.unusedSectionVars false
set_option linter.unnecessarySimpa false
namespace Go.Den
open Go

section
variable {P : Program} {G : Nat → DV} {e : Env} {w : World} {K : DV → List Blk → Prop} {t : List DV} {a : Act}

theorem vcO_rel {d : DO} {ev : Opd → DV} {h : List Blk} (H : vcO P G d ev h K) : vcO P G d.rel ev h K := by
  cases d <;> try exact H
  case call =>
    obtain ⟨v, h', h1, h2⟩ := H
    exact ⟨_, h1.toR, by rintro v1 h1 ⟨rfl, rfl⟩; exact h2⟩
  case callv r x args =>
    simp only [DO.rel, vcO] at H ⊢
    split at H
    · refine ⟨H.1, ?_⟩
      cases r
      · obtain ⟨v, h', h1, h2⟩ := H.2
        exact ⟨_, h1.toR, by rintro v1 h1 ⟨rfl, rfl⟩; exact h2⟩
      · exact H.2
    · exact H.elim
  case inv r n x args =>
    simp only [DO.rel, vcO] at H ⊢
    split at H
    · split at H
      · refine ⟨H.1, ?_⟩
        cases r
        · obtain ⟨v, h', h1, h2⟩ := H.2
          exact ⟨_, h1.toR, by rintro v1 h1 ⟨rfl, rfl⟩; exact h2⟩
        · exact H.2
      · exact H.elim
    · exact H.elim

theorem kindOf_ck {kt : TypeId} {ck : CK} (h : kindOf P kt = some ck) : ∃ d, P.underlying kt = some d ∧ ckOf ck d = true := by
  unfold kindOf at h
  split at h <;> first | cases h | skip
  all_goals
    rename_i hu
    exact ⟨_, hu, rfl⟩

theorem s_call {o : Oper} {c : Call} (ho : o.op = .call c) {d : DO} (hc : cCall P c = some d) (hg : GR e G) (ht : TR e t a.tmps) (hH : e.H = w.heap) (hr : HR e) (h : vcO P G d.rel (Opd.ev G t) e.h K) :
    Yields P (do let d ← resolve a.eval c o.type; invoke d.target d.args) w (After e w K) := by
  obtain ⟨callee, args, argTypes⟩ := c
  unfold cCall at hc
  simp only at hc
  have hl : ∀ {α : Type} {xs : Array α} {l : List α}, xs.toList = l → xs = l.toArray := fun h => by rw [← h]
  split at hc
  · -- len
    split at hc
    · rename_i ty x h1 h2
      obtain rfl := hl h1
      obtain rfl := hl h2
      have hx := vr_ev hg ht x
      have hrun : (do let d ← resolve a.eval { callee := .builtin .len, args := #[x], argTypes := #[ty] } o.type; invoke d.target d.args : Sem Next) = (do pure (.value (← Builtin.len_ #[ty] o.type #[a.eval x]))) := by
        simp [resolve, invoke, builtin]
      rw [hrun]
      split at hc
      · rename_i hu
        cases hc
        simp only [DO.rel, vcO] at h
        split at h
        · rename_i s hs
          rw [hs] at hx
          rw [(vr_p hx).1]
          exact y_len_str hu _ hH hr h
        · exact h.elim
      · rename_i el hu
        cases hc
        simp only [DO.rel, vcO] at h
        split at h
        · rename_i hs
          rw [hs] at hx
          rw [(vr_p hx).1]
          exact y_len_sl hu _ hH hr h
        · rename_i sz l hs
          rw [hs] at hx
          obtain ⟨A, c, hv, _⟩ := vr_fz_n hx
          rw [hv]
          exact y_len_sl hu _ hH hr h
        · rename_i b i n y hs
          rw [hs] at hx
          obtain ⟨A, c, hv⟩ := vr_sl_n hx
          rw [hv]
          exact y_len_sl hu _ hH hr h
        · rename_i g z b i o n cp y hs
          rw [hs] at hx
          obtain ⟨A, hv⟩ := vr_sa_n hx
          rw [hv]
          exact y_len_sl hu _ hH hr h
        · exact h.elim
      · rename_i kt el hu
        cases hc
        refine y_len_map hu _ hH hr hx ?_
        simp only [DO.rel, vcO] at h
        split at h
        · rename_i hs; first | exact h | (rw [hs]; exact h)
        · rename_i b hs; first | exact h | (rw [hs]; exact h)
        · exact h.elim
      · cases hc
    · cases hc
  · -- append
    split at hc
    · rename_i ty t2 x y h1 h2
      obtain rfl := hl h1
      obtain rfl := hl h2
      have hx := vr_ev hg ht x
      have hy := vr_ev hg ht y
      have hrun : (do let d ← resolve a.eval { callee := .builtin .append, args := #[x, y], argTypes := #[ty, t2] } o.type; invoke d.target d.args : Sem Next) = (do pure (.value (← Builtin.append_ #[ty, t2] o.type #[a.eval x, a.eval y]))) := by
        simp [resolve, invoke, builtin]
      rw [hrun]
      have gen : ∀ {el : TypeId}, P.underlying ty = some (.slice el) → ((∃ el2, P.underlying t2 = some (.slice el2)) ∨ P.underlying t2 = some .string) → (match P.info? el with
        | some i => match i.zero with
          | some z => if z.cells.size = i.size ∧ 0 < i.bytes then some (DO.app i.size i.bytes (cOpd x) (cOpd y)) else none
          | none => none
        | none => none) = some d → Yields P (do pure (.value (← Builtin.append_ #[ty, t2] o.type #[a.eval x, a.eval y]))) w (After e w K) := by
        intro el hu hu2 hc
        cases hi : P.info? el with
        | none => rw [hi] at hc; cases hc
        | some i =>
          rw [hi] at hc
          simp only at hc
          cases hz : i.zero with
          | none => rw [hz] at hc; cases hc
          | some z =>
            rw [hz] at hc
            simp only at hc
            by_cases hcond : z.cells.size = i.size ∧ 0 < i.bytes
            · rw [if_pos hcond] at hc
              cases hc
              simp only [DO.rel, vcO] at h
              refine y_app ⟨hu, hu2, ⟨i, z, hi, rfl, rfl, hz, hcond.1⟩, hcond.2⟩ _ hH hr hx hy ?_
              split at h
              · rename_i ys h3 h4; first | exact h | (rw [h3, h4]; exact h)
              · rename_i ys b i n z h3 h4
                first | exact h | (rw [h3, h4]; exact h)
              · exact h.elim
            · rw [if_neg hcond] at hc; cases hc
      split at hc
      · rename_i el el2 hu hu2; exact gen hu (.inl ⟨_, hu2⟩) hc
      · rename_i el hu hu2; exact gen hu (.inr hu2) hc
      · cases hc
    · cases hc
  · -- min
    split at hc
    · rename_i x y h2
      obtain rfl := hl h2
      cases hc
      have hrun : (do let d ← resolve a.eval { callee := .builtin .min, args := #[x, y], argTypes } o.type; invoke d.target d.args : Sem Next) = (do pure (.value (← Builtin.min_ argTypes o.type #[a.eval x, a.eval y]))) := by
        simp [resolve, invoke, builtin]
      rw [hrun]
      exact s_mm (mx := false) (ats := argTypes) (ty := o.type) hg ht hH hr h
    · cases hc
  · -- max
    split at hc
    · rename_i x y h2
      obtain rfl := hl h2
      cases hc
      have hrun : (do let d ← resolve a.eval { callee := .builtin .max, args := #[x, y], argTypes } o.type; invoke d.target d.args : Sem Next) = (do pure (.value (← Builtin.max_ argTypes o.type #[a.eval x, a.eval y]))) := by
        simp [resolve, invoke, builtin]
      rw [hrun]
      exact s_mm (mx := true) (ats := argTypes) (ty := o.type) hg ht hH hr h
    · cases hc
  · -- cap
    split at hc
    · rename_i ty x h1 h2
      obtain rfl := hl h1
      obtain rfl := hl h2
      have hx := vr_ev hg ht x
      have hrun : (do let d ← resolve a.eval { callee := .builtin .cap, args := #[x], argTypes := #[ty] } o.type; invoke d.target d.args : Sem Next) = (do pure (.value (← Builtin.cap_ #[ty] o.type #[a.eval x]))) := by
        simp [resolve, invoke, builtin]
      rw [hrun]
      split at hc
      · rename_i el hu
        cases hc
        simp only [DO.rel, vcO] at h
        split at h
        · rename_i hs
          rw [hs] at hx
          rw [(vr_p hx).1]
          exact y_cap hu _ hH hr h
        · rename_i g z b i o n cp y hs
          rw [hs] at hx
          obtain ⟨A, hv⟩ := vr_sa_n hx
          rw [hv]
          exact y_cap hu _ hH hr h
        · exact h.elim
      · cases hc
    · cases hc
  · -- copy
    split at hc
    · rename_i ty t2 x y h1 h2
      obtain rfl := hl h1
      obtain rfl := hl h2
      have hrun : (do let d ← resolve a.eval { callee := .builtin .copy, args := #[x, y], argTypes := #[ty, t2] } o.type; invoke d.target d.args : Sem Next) = (do pure (.value (← Builtin.copy_ #[ty, t2] o.type #[a.eval x, a.eval y]))) := by
        simp [resolve, invoke, builtin]
      rw [hrun]
      split at hc
      · rename_i el hu
        cases hg1 : tyI P el with
        | none => rw [hg1] at hc; cases hc
        | some g =>
          rw [hg1] at hc
          cases hc
          simp only [DO.rel, vcO] at h
          exact y_cpy hu (tyI_spec (g := g.1) (sz := g.2) hg1) _ hH hr (vr_ev hg ht x) (vr_ev hg ht y) h
      · cases hc
    · cases hc
  · -- delete
    split at hc
    · rename_i ty t2 x y h1 h2
      obtain rfl := hl h1
      obtain rfl := hl h2
      have hrun : (do let d ← resolve a.eval { callee := .builtin .delete, args := #[x, y], argTypes := #[ty, t2] } o.type; invoke d.target d.args : Sem Next) = (do pure (.value (← Builtin.delete_ #[ty, t2] o.type #[a.eval x, a.eval y]))) := by
        simp [resolve, invoke, builtin]
      rw [hrun]
      split at hc
      · rename_i kt et hu
        cases hck : kindOf P kt with
        | none => rw [hck] at hc; cases hc
        | some ck =>
          rw [hck] at hc
          cases hc
          obtain ⟨d, hd, hcd⟩ := kindOf_ck hck
          simp only [DO.rel, vcO] at h
          split at h
          · rename_i kv h1 h2
            have hv := vr_ev hg ht x
            rw [h1] at hv
            have hkv := vr_ev hg ht y
            rw [h2] at hkv
            rw [(vr_p hv).1, (vr_p hkv).1]
            exact y_mdel0 hu hd hcd hH hr h
          · rename_i b kv h1 h2
            have hv := vr_ev hg ht x
            rw [h1] at hv
            have hkv := vr_ev hg ht y
            rw [h2] at hkv
            rw [(vr_p hkv).1]
            split at h
            · rename_i es hb
              split at h
              · rename_i i hf
                exact y_mdel hu hd hcd hv hb hf hH hr h
              · rename_i hf
                exact y_mdel hu hd hcd hv hb hf hH hr h
              · exact h.elim
            · exact h.elim
          · exact h.elim
      · cases hc
    · cases hc
  · -- clear
    split at hc
    · rename_i ty x h1 h2
      obtain rfl := hl h1
      obtain rfl := hl h2
      have hrun : (do let d ← resolve a.eval { callee := .builtin .clear, args := #[x], argTypes := #[ty] } o.type; invoke d.target d.args : Sem Next) = (do pure (.value (← Builtin.clear_ #[ty] o.type #[a.eval x]))) := by
        simp [resolve, invoke, builtin]
      rw [hrun]
      split at hc
      · rename_i el hu
        split at hc
        · rename_i inf hi
          split at hc
          · rename_i z hz
            split at hc
            · rename_i hone
              cases hc
              simp only [DO.rel, vcO] at h
              split at h
              · rename_i b i o' n c' z' hs
                split at h
                · rename_i bsz els hb
                  split at h
                  · rename_i l hdl
                    obtain ⟨hx1, hk⟩ := h
                    have hv := vr_ev hg ht x
                    rw [hs] at hv
                    exact y_clr hu (fun w => by simp [zeroValue, typeInfo, hi, hz]) (one_cells hone) hone _ hH hr hv hb hdl hx1 hk
                  · exact h.elim
                · exact h.elim
              · exact h.elim
            · cases hc
          · cases hc
        · cases hc
      · cases hc
    · cases hc
  · -- a function
    split at hc
    · rename_i f hf
      cases hc
      simp only [DO.rel, vcO] at h
      have := y_call (ty := o.type) hf args hg ht hH hr h
      exact this
    · cases hc
  · -- a function's value
    rename_i n
    cases hc
    simp only [DO.rel, vcO, if_true] at h
    have hx := vr_ev hg ht (.tmp n)
    simp only [cOpd] at hx
    split at h
    · rename_i f first cap hs
      rw [hs] at hx
      obtain ⟨vs, us, hv, h1, h2⟩ : ∃ vs us, a.eval (.tmp n) = .func (.func f) vs us ∧ TR e first vs ∧ TR e cap us := by
        generalize a.eval (.tmp n) = v at hx
        cases hx with
        | fn hl h hl' h' => exact ⟨_, _, rfl, ⟨hl, h⟩, ⟨hl', h'⟩⟩
      have h3 := tr_map hg ht args.toList
      refine y_fn h.1 (TR.app (TR.app h1 (by simpa [← Array.toList_map] using h3)) h2) hg hH hr ?_ h.2
      simp only [resolve, hv, Deferred.ofValue, invoke, Sem.run_bind, Sem.run_pure, Result.andThen_ok]
    · exact h.elim
  · -- a method
    rename_i x name
    cases hc
    simp only [DO.rel, vcO, if_true] at h
    have hx := vr_ev hg ht x
    split at h
    · rename_i ty d hs
      rw [hs] at hx
      obtain ⟨u, hv, h1⟩ := vr_iface hx
      split at h
      · rename_i f hm
        have h3 := tr_map hg ht args.toList
        have h4 : TR e [d] #[u] := ⟨rfl, fun i hi hi' => by
          have : i = 0 := by simp at hi; exact hi
          subst this
          exact h1⟩
        refine y_fn h.1 (TR.app h4 (by simpa [← Array.toList_map] using h3)) hg hH hr ?_ h.2
        obtain ⟨n, hn⟩ : ∃ n, P.types.size + Made.depth = n + 1 := ⟨P.types.size + Made.depth - 1, by simp [Made.depth]⟩
        have h0 : (#[Value.iface ty u] ++ Array.map a.eval args)[0]? = some (.iface ty u) := by rw [Array.getElem?_append_left (by simp)]; rfl
        have h5 : (Array.map a.eval args).extract 0 args.size = Array.map a.eval args := by
          have : args.size = (Array.map a.eval args).size := by simp
          rw [this, Array.extract_size]
        simp [resolve, hv, invoke, callMethod, run_program, hn, run_method hm, h0, h5]
      · exact h.elim
    · exact h.elim
  · cases hc

theorem sound_op {o : Oper} {d : DO} (hc : cOp P o = some d) (hg : GR e G) (ht : TR e t a.tmps) (hH : e.H = w.heap) (hr : HR e) (h : vcO P G d (Opd.ev G t) e.h K) : Yields P (execOp a.eval o) w (After e w K) := by
  obtain ⟨dst, op, type, pos, after, guard⟩ := o
  unfold cOp at hc
  simp only at hc
  cases op
  case move x =>
    cases hc
    exact y_mov hH hr (vr_ev hg ht x) h
  case assign x =>
    cases hc
    exact y_mov hH hr (vr_ev hg ht x) h
  case pick c x y =>
    cases hc
    have hcv := vr_ev hg ht c
    simp only [vcO] at h
    split at h
    · rename_i b hb
      rw [hb] at hcv
      obtain ⟨h1, _⟩ := vr_p hcv
      have hrun : (execOp a.eval { dst, op := .pick c x y, type, pos, after, guard } : Sem Next) = (do pure (.value (if ← asBool (a.eval c) then a.eval x else a.eval y))) := rfl
      rw [hrun, h1]
      cases b
      · exact y_pure rfl hH hr (vr_ev hg ht y) (by simpa using h)
      · exact y_pure rfl hH hr (vr_ev hg ht x) (by simpa using h)
    · exact h.elim
  case binOp op ty x y yt =>
    have hne : ∀ d', some (DO.bin op (cOpd x) (cOpd y)) = some d' → vcO P G d' (Opd.ev G t) e.h K → Yields P (execOp a.eval { dst, op := .binOp op ty x y yt, type, pos, after, guard }) w (After e w K) := by
      intro d' hd h
      cases hd
      have hx := vr_ev hg ht x
      have hy := vr_ev hg ht y
      simp only [vcO] at h
      split at h
      · rename_i p q h1 h2
        rw [h1] at hx
        rw [h2] at hy
        obtain ⟨h3, _⟩ := vr_p hx
        obtain ⟨h4, _⟩ := vr_p hy
        obtain ⟨v, e1, e2, e3⟩ := run_binK (P := P) (xt := ty) (x := x) (y := y) w h
        refine y_pure ?_ hH hr (.p e2) e3
        show (do pure (.value (← (do eqGuard op ty x y (a.eval x) (a.eval y); binOp op ty (a.eval x) (a.eval y) : Sem Value))) : Sem Next).run P w = _
        rw [h3, h4, Sem.run_bind, e1]
        rfl
      · exact h.elim
    cases op
    case eql => exact s_cEq (neg := false) hc hg ht hH hr h
    case neq => exact s_cEq (neg := true) hc hg ht hH hr h
    all_goals exact hne _ hc h
  case unOp op ty x =>
    cases hc
    have hx := vr_ev hg ht x
    simp only [vcO] at h
    split at h
    · rename_i p h1
      rw [h1] at hx
      obtain ⟨h3, _⟩ := vr_p hx
      obtain ⟨v, e1, e2, e3⟩ := run_unK (P := P) w h
      refine y_pure ?_ hH hr (.p e2) e3
      show (do pure (.value (← Op.unary op (a.eval x))) : Sem Next).run P w = _
      rw [h3, Sem.run_bind, e1]
      rfl
    · exact h.elim
  case convert src dst' x => exact s_conv hc hg ht hH hr h
  case slice ty x lo hi mx =>
    cases mx with
    | some _ => cases hc
    | none =>
      simp only at hc
      split at hc
      · rename_i hu
        cases hc
        exact s_slcs hu hg ht hH hr h
      · rename_i el hu
        cases hty : tyI P el with
        | none => rw [hty] at hc; cases hc
        | some g =>
          rw [hty] at hc
          cases hc
          exact s_slcl hu (tyI_spec (g := g.1) (sz := g.2) hty) hg ht hH hr h
      · rename_i n el hu
        obtain ⟨g, hg1, hg2, rfl⟩ := bind_some_if hc
        exact s_slca (.inl hu) (tyI_spec (g := g.1) (sz := g.2) hg1) (fun h => hg2.resolve_left (by rw [h]; simp)) hg ht hH hr h
      · rename_i arr hu
        split at hc
        · rename_i n el hu2
          obtain ⟨g, hg1, hg2, rfl⟩ := bind_some_if hc
          exact s_slca (.inr ⟨arr, hu, hu2⟩) (tyI_spec (g := g.1) (sz := g.2) hg1) (fun h => hg2.resolve_left (by rw [h]; simp)) hg ht hH hr h
        · cases hc
      · cases hc
  case index ty x i =>
    have hx := vr_ev hg ht x
    have hi := vr_ev hg ht i
    simp only at hc
    split at hc
    · rename_i hu
      cases hc
      simp only [vcO] at h
      split at h
      · rename_i s k j h1 h2
        rw [h1] at hx
        rw [h2] at hi
        show Yields P (do pure (.value (← Instr.index ty (a.eval x) (a.eval i)))) w _
        rw [(vr_p hx).1, (vr_p hi).1]
        exact y_idxs hu hH hr h
      · exact h.elim
    · rename_i n el hu
      obtain ⟨g, hg1, hg2, rfl⟩ := bind_some_if hc
      simp only [vcO] at h
      refine y_idxa hu (tyI_spec (g := g.1) (sz := g.2) hg1) (g_one hg2) hH hr hx hi ?_
      split at h
      · rename_i cs k j h1 h2; first | exact h | (rw [h1, h2]; exact h)
      · exact h.elim
    · cases hc
  case field ty x f =>
    have hx := vr_ev hg ht x
    simp only at hc
    split at hc
    · rename_i fs hu
      split at hc
      · rename_i fd hf
        obtain ⟨g, hg1, hg2, rfl⟩ := bind_some_if hc
        simp only [vcO] at h
        refine y_fld hu hf (tyI_spec (g := g.1) (sz := g.2) hg1) (g_one hg2) hH hr hx ?_
        split at h
        · rename_i cs h1; first | exact h | (rw [h1]; exact h)
        · exact h.elim
      · cases hc
    · cases hc
  case build ty parts =>
    simp only at hc
    split at hc
    · rename_i z place hb
      split at hc
      · rename_i hz
        cases hp : parts.toList.mapM (fun p => (place p.1).map fun q => (q.1, q.2, cOpd p.2)) with
        | none => rw [hp] at hc; cases hc
        | some dp =>
          rw [hp] at hc
          cases hc
          simp only [vcO, foldl_fillD] at h
          exact y_bld hb hz (ev := Opd.ev G t) (fun x => vr_ev hg ht x) parts dp hp hH hr h
      · cases hc
    · cases hc
  case buildSlice ty n parts =>
    simp only at hc
    split at hc
    · rename_i el hu
      split at hc
      · rename_i i hi
        by_cases hcond : i.zero.isSome = true ∧ n * i.size ≤ 16777216 ∧ consec 0 parts.toList = true ∧ parts.size = n
        · rw [if_pos hcond] at hc
          cases hc
          obtain ⟨h1, h2, h3, h4⟩ := hcond
          simp only [vcO] at h
          have hlen : (parts.toList.map fun p => cOpd p.2).length = n := by simp [h4]
          rw [hlen] at h
          exact y_lit hu ⟨i, hi, rfl, h1⟩ h2 (ev := Opd.ev G t) (fun x => vr_ev hg ht x) parts h3 h4 hH hr h
        · rw [if_neg hcond] at hc; cases hc
      · cases hc
    · cases hc
  case alloc ty =>
    simp only at hc
    split at hc
    · rename_i i hi
      split at hc
      · rename_i z hz
        split at hc
        · rename_i hst
          cases hc
          exact y_alloc ⟨i, hi, hz⟩ (vr_ofV e z) hst hH hr h
        · cases hc
      · cases hc
    · cases hc
  case box ty x =>
    cases hc
    exact y_box hH hr (vr_ev hg ht x) h
  case load ty ad =>
    obtain ⟨g, hg1, hg2, rfl⟩ := bind_some_if hc
    simp only [vcO] at h
    refine y_load (tyI_spec (g := g.1) (sz := g.2) hg1) (g_one hg2) hH hr (vr_ev hg ht ad) ?_
    split at h
    · rename_i b i o x h1; first | exact h | (rw [h1]; exact h)
    · rename_i d h1; first | exact h | (rw [h1]; exact h)
    · rename_i q h1; first | exact h | (rw [h1]; exact h)
    · exact h.elim
  case store ty ad x =>
    simp only at hc
    cases hg1 : tyI P ty with
    | none => rw [hg1] at hc; cases hc
    | some g =>
      rw [hg1] at hc
      cases hc
      simp only [vcO] at h
      refine y_store (tyI_spec (g := g.1) (sz := g.2) hg1) hH hr (vr_ev hg ht ad) (vr_ev hg ht x) ?_
      split at h
      · rename_i b i o n h1; first | exact h | (rw [h1]; exact h)
      · exact h.elim
  case nilCheck x =>
    cases hc
    have hx := vr_ev hg ht x
    simp only [vcO] at h
    split at h
    · rename_i hn
      have hrun : (execOp a.eval { dst, op := .nilCheck x, type, pos, after, guard }).run P w = .ok (.value (a.eval x)) w := by
        have hv : (∃ q, a.eval x = .pointer (some q)) ∨ (∃ u y, a.eval x = .iface u y) := by
          generalize Opd.ev G t (cOpd x) = d at *
          generalize a.eval x = v at *
          cases hif : isIfT P type
          case true =>
            rw [hif] at hn
            simp only [if_true] at hn
            cases d with
            | p u => cases u <;> simp [isNilD] at hn
            | iface t d => obtain ⟨u, rfl, _⟩ := vr_iface hx; exact .inr ⟨_, _, rfl⟩
            | _ => simp [isNilD] at hn
          case false =>
            rw [hif] at hn
            simp only [Bool.false_eq_true, if_false] at hn
            cases d with
            | p u => cases u <;> first | (simp [isNilD] at hn; done) | (rename_i q; cases q <;> simp [isNilD] at hn)
            | ptr b i o x =>
              simp only [isNilD] at hn
              split at hn
              · rename_i bsz els hb
                split at hn
                · rename_i hx'
                  subst hx'
                  obtain ⟨_, q, _, rfl⟩ := vr_ptr hx (Env.key_of hb)
                  exact .inl ⟨_, rfl⟩
                · cases hn
              · cases hn
            | fp d => cases hx with | fp => exact .inl ⟨_, rfl⟩
            | _ => simp [isNilD] at hn
        rcases hv with ⟨q, hq⟩ | ⟨u, y, hq⟩ <;> simp only [execOp, hq] <;> rfl
      exact y_pure hrun hH hr hx h
    · exact h.elim
  case fieldAddr ty ad f =>
    simp only at hc
    split at hc
    · rename_i fs hu
      split at hc
      · rename_i fd hf
        obtain ⟨g, hg1, hg2, rfl⟩ := bind_some_if hc
        simp only [vcO] at h
        refine y_faddr hu hf (tyI_spec (g := g.1) (sz := g.2) hg1) hg2.2 (g_one hg2.1) hH hr (vr_ev hg ht ad) ?_
        split at h
        · rename_i b i o x h1; first | exact h | (rw [h1]; exact h)
        · rename_i d h1; first | exact h | (rw [h1]; exact h)
        · exact h.elim
      · cases hc
    · cases hc
  case indexAddr ty x i =>
    simp only at hc
    split at hc
    · rename_i el hu
      cases hg1 : tyI P el with
      | none => rw [hg1] at hc; cases hc
      | some g =>
        rw [hg1] at hc
        cases hc
        simp only [vcO] at h
        refine y_iaddr hu (tyI_spec (g := g.1) (sz := g.2) hg1) hH hr (vr_ev hg ht x) (vr_ev hg ht i) ?_
        split at h
        · rename_i b s n y k j h1 h2; first | exact h | (rw [h1, h2]; exact h)
        · rename_i sz l k j h1 h2; first | exact h | (rw [h1, h2]; exact h)
        · rename_i g' z b i o n y k j h1 h2; first | exact h | (rw [h1, h2]; exact h)
        · exact h.elim
    · rename_i n el hu
      obtain ⟨g, hg1, hg2, rfl⟩ := bind_some_if hc
      simp only [vcO] at h
      refine y_iaddra hu (tyI_spec (g := g.1) (sz := g.2) hg1) (g_one hg2.1) hg2.2 hH hr (vr_ev hg ht x) (vr_ev hg ht i) ?_
      split at h
      · rename_i b s o y k j h1 h2; first | exact h | (rw [h1, h2]; exact h)
      · rename_i d k j h1 h2; first | exact h | (rw [h1, h2]; exact h)
      · exact h.elim
    · cases hc
  case extract x i =>
    cases hc
    simp only [vcO] at h
    refine y_ext hH hr (vr_ev hg ht x) ?_
    split at h
    · rename_i vs h1; first | exact h | (rw [h1]; exact h)
    · exact h.elim
  case makeInterface ty x =>
    simp only at hc
    split at hc
    · rename_i hcc
      cases hc
      exact y_ifc hcc hH hr (vr_ev hg ht x) h
    · cases hc
  case call c => exact s_call rfl hc hg ht hH hr (vcO_rel h)
  case range ty x =>
    simp only at hc
    split at hc
    · rename_i hu
      cases hc
      simp only [vcO] at h
      split at h
      · rename_i s h1
        have hv := vr_ev hg ht x
        rw [h1] at hv
        have := (vr_p hv).1
        simp only [execOp, this]
        exact y_rngs hu hH hr h
      · exact h.elim
    · rename_i kt et hu
      cases hc
      simp only [vcO] at h
      split at h
      · rename_i h1
        have hv := vr_ev hg ht x
        rw [h1] at hv
        have := (vr_p hv).1
        simp only [execOp, this]
        exact y_rngm0 hu hH hr h
      · rename_i b h1
        have hv := vr_ev hg ht x
        rw [h1] at hv
        split at h
        · rename_i es hb
          exact y_rngm hu hv hb hH hr h
        · exact h.elim
      · exact h.elim
    · cases hc
  case next x isS =>
    simp only [Option.some.injEq] at hc
    subst hc
    cases isS with
    | true =>
      simp only [if_true, vcO] at h
      split at h
      · rename_i b h1
        have hv := vr_ev hg ht x
        rw [h1] at hv
        split at h
        · rename_i s pos hb
          exact y_nxts hv hb hH hr h.1 h.2
        · exact h.elim
      · exact h.elim
    | false =>
      simp only [Bool.false_eq_true, if_false, vcO] at h
      split at h
      · rename_i b h1
        have hv := vr_ev hg ht x
        rw [h1] at hv
        split at h
        · rename_i l hb
          exact y_nxtm0 hv hb hH hr h
        · rename_i m l hb
          split at h
          · rename_i es hm
            exact y_nxtm hv hb hm hH hr h.1 h.2
          · exact h.elim
        · exact h.elim
      · exact h.elim
  case entry x =>
    cases hc
    simp only [vcO] at h
    split at h
    · rename_i b h1
      have hv := vr_ev hg ht x
      rw [h1] at hv
      split at h
      · rename_i m l j hb
        split at h
        · rename_i es hm
          exact y_ent hv hb hm hH hr h.1 h.2
        · exact h.elim
      · exact h.elim
    · exact h.elim
  case makeMap ty res =>
    cases res with
    | none =>
      cases hc
      exact y_mkmap hH hr h
    | some z =>
      simp only [cOp] at hc
      split at hc
      · rename_i kt et hu
        cases hc
        simp only [vcO] at h
        split at h
        · rename_i k n h1
          have hv := vr_ev hg ht z
          rw [h1] at hv
          obtain ⟨hv, _⟩ := vr_p hv
          show Yields P (do pure (.value (← Instr.makeMap ty (some (a.eval z))))) w (After e w K)
          rw [hv]
          exact y_mkmapr hu hH hr h
        · exact h.elim
      · cases hc
  case mapUpdate ty m k x =>
    simp only at hc
    split at hc
    · rename_i kt et hu
      cases hck : kindOf P kt with
      | none => rw [hck] at hc; cases hc
      | some ck =>
        rw [hck] at hc
        cases hc
        obtain ⟨d, hd, hcd⟩ := kindOf_ck hck
        simp only [vcO] at h
        split at h
        · rename_i b kv h1 h2
          have hv := vr_ev hg ht m
          rw [h1] at hv
          have hkv := vr_ev hg ht k
          rw [h2] at hkv
          have hk' := (vr_p hkv).1
          split at h
          · rename_i es hb
            split at h
            · rename_i r hf
              simp only [execOp, hk']
              exact y_mupd hu hd hcd hv (vr_ev hg ht x) hb hf h.1 hH hr h.2
            · exact h.elim
          · exact h.elim
        · exact h.elim
    · cases hc
  case lookup ty m k ok =>
    simp only at hc
    split at hc
    · rename_i kt et hu
      split at hc
      · rename_i ck i hck hi
        split at hc
        · rename_i z hz
          cases hc
          obtain ⟨d, hd, hcd⟩ := kindOf_ck hck
          simp only [vcO] at h
          split at h
          · rename_i kv h1 h2
            have hv := vr_ev hg ht m
            rw [h1] at hv
            have hm' := (vr_p hv).1
            simp only [execOp, hm']
            exact y_look0 hu hd hcd ⟨i, hi, hz⟩ (fun e => vr_ofV e z) hH hr h
          · rename_i b kv h1 h2
            have hv := vr_ev hg ht m
            rw [h1] at hv
            have hkv := vr_ev hg ht k
            rw [h2] at hkv
            have hk' := (vr_p hkv).1
            split at h
            · rename_i es hb
              split at h
              · rename_i j hf
                simp only [execOp, hk']
                exact y_look hu hd hcd ⟨i, hi, hz⟩ (fun e => vr_ofV e z) hv hb hf hH hr h
              · rename_i hf
                simp only [execOp, hk']
                exact y_look hu hd hcd ⟨i, hi, hz⟩ (fun e => vr_ofV e z) hv hb hf hH hr h
              · exact h.elim
            · exact h.elim
          · exact h.elim
        · cases hc
      · cases hc
    · cases hc
  case makeSlice ty n c =>
    simp only at hc
    split at hc
    · rename_i el hu
      split at hc
      · rename_i i g sz hi hty
        split at hc
        · rename_i z hz
          by_cases hcond : z.cells.size = i.size ∧ 0 < i.bytes ∧ (ofV z).storable = true ∧ sz = i.size
          · rw [if_pos hcond] at hc
            cases hc
            simp only [vcO] at h
            split at h
            · rename_i kl l kr r h1 h2
              have hn := vr_ev hg ht n
              have hcv := vr_ev hg ht c
              rw [h1] at hn
              rw [h2] at hcv
              simp only [execOp, (vr_p hn).1, (vr_p hcv).1]
              exact y_mks (g := g) hu ⟨i, hi, rfl, rfl, hz, hcond.1⟩ hcond.2.1 hcond.2.2.1 hH hr h
            · exact h.elim
          · rw [if_neg hcond] at hc; cases hc
        · cases hc
      · cases hc
    · cases hc
  case typeAssert x xt ty ok =>
    simp only at hc
    split at hc
    · rename_i want i hu hi
      split at hc
      · rename_i hz
        cases hc
        simp only [vcO] at h
        refine y_tai hu ⟨i, hi, hz⟩ hH hr (vr_ev hg ht x) ?_
        split at h
        · rename_i u v h1; first | exact h | (rw [h1]; exact h)
        · rename_i h1; first | exact h | (rw [h1]; exact h)
        · exact h.elim
      · cases hc
    · rename_i d0 i hni hu hi
      split at hc
      · rename_i z hz
        cases hc
        simp only [vcO] at h
        refine y_tas (d0 := d0) hu (by cases d0 <;> first | rfl | exact (hni _ rfl).elim) ⟨i, hi, hz⟩ hH hr (vr_ev hg ht x) ?_
        split at h
        · rename_i u v h1; first | exact h | (rw [h1]; exact h)
        · rename_i h1; first | exact h | (rw [h1]; exact h)
        · exact h.elim
      · cases hc
    · cases hc
  case makeFunc f first cap =>
    cases hc
    simp only [vcO] at h
    have h3 := tr_map hg ht first.toList
    have h4 := tr_map hg ht cap.toList
    exact y_mkf (by simpa [← Array.toList_map] using h3) (by simpa [← Array.toList_map] using h4) hH hr h
  all_goals cases hc

theorem cEq_call {neg : Bool} {ty : TypeId} {x y : Operand} {d : DO} (hc : cEq P neg ty x y = some d) : d.rel = d := by
  unfold cEq at hc
  repeat' split at hc
  all_goals first
    | (cases hc; done)
    | (cases hc; rfl)
    | (simp only [Option.bind_eq_some_iff] at hc; obtain ⟨g, _, hc⟩ := hc; split at hc <;> first | (cases hc; done) | (cases hc; rfl))
theorem cConv_call {s d : TypeId} {x : Operand} {o : DO} (hc : cConv P s d x = some o) : o.rel = o := by
  unfold cConv at hc
  repeat' split at hc
  all_goals first | (cases hc; done) | (cases hc; rfl)
theorem cOp_call {o : Oper} {d : DO} (hc : cOp P o = some d) (ho : ∀ c, o.op ≠ .call c) : d.rel = d := by
  obtain ⟨dst, op, type, pos, after, guard⟩ := o
  unfold cOp at hc
  simp only at hc ho
  cases op
  case call c => exact absurd rfl (ho c)
  all_goals
    try simp only at hc
    try (repeat' split at hc)
    all_goals first
      | (cases hc; done)
      | (cases hc; rfl)
      | (simp only [Option.bind_eq_some_iff] at hc; obtain ⟨g, _, hc⟩ := hc; split at hc <;> first | (cases hc; done) | (cases hc; rfl))
      | (simp only [Option.map_eq_some_iff] at hc; obtain ⟨g, _, hc⟩ := hc; cases hc; rfl)
      | exact cEq_call hc
      | exact cConv_call hc
      | contradiction
theorem sound_opr {o : Oper} {d : DO} (hc : cOp P o = some d) (hg : GR e G) (ht : TR e t a.tmps) (hH : e.H = w.heap) (hr : HR e) (h : vcO P G d.rel (Opd.ev G t) e.h K) : Yields P (execOp a.eval o) w (After e w K) := by
  by_cases hd : ∃ c, o.op = .call c
  · obtain ⟨c, h1⟩ := hd
    obtain ⟨dst, op, type, pos, after, guard⟩ := o
    simp only at h1
    subst h1
    exact s_call rfl hc hg ht hH hr h
  · rw [cOp_call hc fun c hc => hd ⟨c, hc⟩] at h
    exact sound_op hc hg ht hH hr h

end
end Go.Den
