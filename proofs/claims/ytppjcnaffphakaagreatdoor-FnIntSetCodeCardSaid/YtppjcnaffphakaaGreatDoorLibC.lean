/- The library: contracts of functions over denoted values (LibC). -/
import Derived.Test.YtppjcnaffphakaaGreatDoorLibB
import Derived.Test.YtppjcnaffphakaaGreatDoorLibA
set_option linter.unusedVariables false
set_option linter.unusedSimpArgs false
set_option linter.unusedSectionVars false
set_option linter.unnecessarySimpa false
namespace Go.Den
open Go

section
variable {P : Program} {G : Nat → DV} {e : Env} {w : World} {K : DV → List Blk → Prop} {t : List DV} {a : Act}

theorem vcO_rel {d : DO} {h : List Blk} (H : vcO P G d (Opd.ev G t) h K) : vcO P G d.rel (Opd.ev G t) h K := by
  cases d <;> try exact H
  case call =>
    obtain ⟨v, h', h1, h2⟩ := H
    exact ⟨_, h1.toR, by rintro v1 h1 ⟨rfl, rfl⟩; exact h2⟩
  case app sz bytes x y =>
    simp only [DO.rel]
    split
    · rename_i hc
      obtain ⟨rfl, rfl, hx⟩ := hc
      have hxx : x = .c (.p (.slice none 0 0)) := by
        unfold nilSlC at hx
        split at hx
        · rfl
        · cases hx
      subst hxx
      have e1 : Opd.ev G t (.c (.p (.slice none 0 0))) = .p (.slice none 0 0) := rfl
      simp only [vcO, e1] at H ⊢
      cases hel : elemsOf h 1 (Opd.ev G t y) with
      | none => rw [hel] at H; exact H.elim
      | some ys =>
        rw [hel] at H
        simp only at H ⊢
        exact ⟨by omega, H.2.1, fun hh => .inl (H.2.2 hh)⟩
    · exact H
  case callv r x args =>
    simp only [DO.rel, vcO] at H ⊢
    split at H
    · refine ⟨H.1, ?_⟩
      cases r
      · obtain ⟨v, h', h1, h2⟩ := H.2
        exact ⟨_, h1.toR, by rintro v1 h1 ⟨rfl, rfl⟩; exact h2⟩
      · exact H.2
    · exact H.elim
  case inv r n x args =>
    simp only [DO.rel, vcO] at H ⊢
    split at H
    · split at H
      · refine ⟨H.1, ?_⟩
        cases r
        · obtain ⟨v, h', h1, h2⟩ := H.2
          exact ⟨_, h1.toR, by rintro v1 h1 ⟨rfl, rfl⟩; exact h2⟩
        · exact H.2
      · exact H.elim
    · exact H.elim

theorem kindOf_ck {kt : TypeId} {ck : CK} (h : kindOf P kt = some ck) : ∃ d, P.underlying kt = some d ∧ ckOf ck d = true := by
  unfold kindOf at h
  split at h <;> first | cases h | skip
  all_goals
    rename_i hu
    exact ⟨_, hu, rfl⟩

theorem s_call {o : Oper} {c : Call} (ho : o.op = .call c) {d : DO} (hc : cCall P c = some d) (hg : GR e G) (ht : TR e t a.tmps) (hH : e.H = w.heap) (hr : HR e) (h : vcO P G d.rel (Opd.ev G t) e.h K) :
    Yields P (do let d ← resolve a.eval c o.type; invoke d.target d.args) w (After e w K) := by
  obtain ⟨callee, args, argTypes⟩ := c
  unfold cCall at hc
  simp only at hc
  have hl : ∀ {α : Type} {xs : Array α} {l : List α}, xs.toList = l → xs = l.toArray := fun h => by rw [← h]
  split at hc
  · -- len
    split at hc
    · rename_i ty x h1 h2
      obtain rfl := hl h1
      obtain rfl := hl h2
      have hx := vr_ev hg ht x
      have hrun : (do let d ← resolve a.eval { callee := .builtin .len, args := #[x], argTypes := #[ty] } o.type; invoke d.target d.args : Sem Next) = (do pure (.value (← Builtin.len_ #[ty] o.type #[a.eval x]))) := by
        simp [resolve, invoke, builtin]
      rw [hrun]
      split at hc
      · rename_i hu
        cases hc
        simp only [DO.rel, vcO] at h
        split at h
        · rename_i s hs
          rw [hs] at hx
          rw [(vr_p hx).1]
          exact y_len_str hu _ hH hr h
        · exact h.elim
      · rename_i el hu
        cases hc
        simp only [DO.rel, vcO] at h
        split at h
        · rename_i hs
          rw [hs] at hx
          rw [(vr_p hx).1]
          exact y_len_sl hu _ hH hr h
        · rename_i sz l hs
          rw [hs] at hx
          obtain ⟨A, c, hv, _⟩ := vr_fz_n hx
          rw [hv]
          exact y_len_sl hu _ hH hr h
        · rename_i b i n y hs
          rw [hs] at hx
          obtain ⟨A, c, hv⟩ := vr_sl_n hx
          rw [hv]
          exact y_len_sl hu _ hH hr h
        · rename_i g z b i o n cp y hs
          rw [hs] at hx
          obtain ⟨A, hv⟩ := vr_sa_n hx
          rw [hv]
          exact y_len_sl hu _ hH hr h
        · exact h.elim
      · rename_i kt el hu
        cases hc
        refine y_len_map hu _ hH hr hx ?_
        simp only [DO.rel, vcO] at h
        split at h
        · rename_i hs; first | exact h | (rw [hs]; exact h)
        · rename_i b hs; first | exact h | (rw [hs]; exact h)
        · exact h.elim
      · cases hc
    · cases hc
  · -- append
    split at hc
    · rename_i ty t2 x y h1 h2
      obtain rfl := hl h1
      obtain rfl := hl h2
      have hx := vr_ev hg ht x
      have hy := vr_ev hg ht y
      have hrun : (do let d ← resolve a.eval { callee := .builtin .append, args := #[x, y], argTypes := #[ty, t2] } o.type; invoke d.target d.args : Sem Next) = (do pure (.value (← Builtin.append_ #[ty, t2] o.type #[a.eval x, a.eval y]))) := by
        simp [resolve, invoke, builtin]
      rw [hrun]
      have gen : ∀ {el : TypeId}, P.underlying ty = some (.slice el) → ((∃ el2, P.underlying t2 = some (.slice el2)) ∨ P.underlying t2 = some .string) → (match P.info? el with
        | some i => match i.zero with
          | some z => if z.cells.size = i.size ∧ 0 < i.bytes ∧ (i.size = 1 → (z.cells.all fun c => c.oneCell') = true) then some (DO.app i.size i.bytes (cOpd x) (cOpd y)) else none
          | none => none
        | none => none) = some d → Yields P (do pure (.value (← Builtin.append_ #[ty, t2] o.type #[a.eval x, a.eval y]))) w (After e w K) := by
        intro el hu hu2 hc
        cases hi : P.info? el with
        | none => rw [hi] at hc; cases hc
        | some i =>
          rw [hi] at hc
          simp only at hc
          cases hz : i.zero with
          | none => rw [hz] at hc; cases hc
          | some z =>
            rw [hz] at hc
            simp only at hc
            by_cases hcond : z.cells.size = i.size ∧ 0 < i.bytes ∧ (i.size = 1 → (z.cells.all fun c => c.oneCell') = true)
            · rw [if_pos hcond] at hc
              cases hc
              simp only [DO.rel] at h
              split at h
              · rename_i hcz
                obtain ⟨hs1, hb1, hx1⟩ := hcz
                have hxx : cOpd x = .c (.p (.slice none 0 0)) := by
                  unfold nilSlC at hx1
                  split at hx1
                  · assumption
                  · cases hx1
                rw [hxx] at hx
                have hx2 : VR e (.p (.slice none 0 0)) (a.eval x) := hx
                rw [(vr_p hx2).1]
                refine y_appz ⟨hu, hu2, ⟨i, z, hi, hs1, rfl, hz, hcond.1.trans hs1⟩, hcond.2.1⟩ (fun i' z' h1 h2 => ?_) hb1 _ hH hr hy ?_
                · rw [hi] at h1
                  cases h1
                  rw [hz] at h2
                  cases h2
                  exact hcond.2.2 hs1
                · simp only [vcO] at h
                  split at h
                  · rename_i ys h3; first | exact h | (rw [h3]; exact h)
                  · exact h.elim
              simp only [vcO] at h
              refine y_app ⟨hu, hu2, ⟨i, z, hi, rfl, rfl, hz, hcond.1⟩, hcond.2.1⟩ _ hH hr hx hy ?_
              split at h
              · rename_i ys h3 h4; first | exact h | (rw [h3, h4]; exact h)
              · rename_i ys b i n z h3 h4
                first | exact h | (rw [h3, h4]; exact h)
              · exact h.elim
            · rw [if_neg hcond] at hc; cases hc
      split at hc
      · rename_i el el2 hu hu2; exact gen hu (.inl ⟨_, hu2⟩) hc
      · rename_i el hu hu2; exact gen hu (.inr hu2) hc
      · cases hc
    · cases hc
  · -- min
    split at hc
    · rename_i x y h2
      obtain rfl := hl h2
      cases hc
      have hrun : (do let d ← resolve a.eval { callee := .builtin .min, args := #[x, y], argTypes } o.type; invoke d.target d.args : Sem Next) = (do pure (.value (← Builtin.min_ argTypes o.type #[a.eval x, a.eval y]))) := by
        simp [resolve, invoke, builtin]
      rw [hrun]
      exact s_mm (mx := false) (ats := argTypes) (ty := o.type) hg ht hH hr h
    · cases hc
  · -- max
    split at hc
    · rename_i x y h2
      obtain rfl := hl h2
      cases hc
      have hrun : (do let d ← resolve a.eval { callee := .builtin .max, args := #[x, y], argTypes } o.type; invoke d.target d.args : Sem Next) = (do pure (.value (← Builtin.max_ argTypes o.type #[a.eval x, a.eval y]))) := by
        simp [resolve, invoke, builtin]
      rw [hrun]
      exact s_mm (mx := true) (ats := argTypes) (ty := o.type) hg ht hH hr h
    · cases hc
  · -- cap
    split at hc
    · rename_i ty x h1 h2
      obtain rfl := hl h1
      obtain rfl := hl h2
      have hx := vr_ev hg ht x
      have hrun : (do let d ← resolve a.eval { callee := .builtin .cap, args := #[x], argTypes := #[ty] } o.type; invoke d.target d.args : Sem Next) = (do pure (.value (← Builtin.cap_ #[ty] o.type #[a.eval x]))) := by
        simp [resolve, invoke, builtin]
      rw [hrun]
      split at hc
      · rename_i el hu
        cases hc
        simp only [DO.rel, vcO] at h
        split at h
        · rename_i hs
          rw [hs] at hx
          rw [(vr_p hx).1]
          exact y_cap hu _ hH hr h
        · rename_i g z b i o n cp y hs
          rw [hs] at hx
          obtain ⟨A, hv⟩ := vr_sa_n hx
          rw [hv]
          exact y_cap hu _ hH hr h
        · exact h.elim
      · cases hc
    · cases hc
  · -- copy
    split at hc
    · rename_i ty t2 x y h1 h2
      obtain rfl := hl h1
      obtain rfl := hl h2
      have hrun : (do let d ← resolve a.eval { callee := .builtin .copy, args := #[x, y], argTypes := #[ty, t2] } o.type; invoke d.target d.args : Sem Next) = (do pure (.value (← Builtin.copy_ #[ty, t2] o.type #[a.eval x, a.eval y]))) := by
        simp [resolve, invoke, builtin]
      rw [hrun]
      split at hc
      · rename_i el hu
        cases hg1 : tyI P el with
        | none => rw [hg1] at hc; cases hc
        | some g =>
          rw [hg1] at hc
          cases hc
          simp only [DO.rel, vcO] at h
          exact y_cpy hu (tyI_spec (g := g.1) (sz := g.2) hg1) _ hH hr (vr_ev hg ht x) (vr_ev hg ht y) h
      · cases hc
    · cases hc
  · -- delete
    split at hc
    · rename_i ty t2 x y h1 h2
      obtain rfl := hl h1
      obtain rfl := hl h2
      have hrun : (do let d ← resolve a.eval { callee := .builtin .delete, args := #[x, y], argTypes := #[ty, t2] } o.type; invoke d.target d.args : Sem Next) = (do pure (.value (← Builtin.delete_ #[ty, t2] o.type #[a.eval x, a.eval y]))) := by
        simp [resolve, invoke, builtin]
      rw [hrun]
      split at hc
      · rename_i kt et hu
        cases hck : kindOf P kt with
        | none => rw [hck] at hc; cases hc
        | some ck =>
          rw [hck] at hc
          cases hc
          obtain ⟨d, hd, hcd⟩ := kindOf_ck hck
          simp only [DO.rel, vcO] at h
          split at h
          · rename_i kv h1 h2
            have hv := vr_ev hg ht x
            rw [h1] at hv
            have hkv := vr_ev hg ht y
            rw [h2] at hkv
            rw [(vr_p hv).1, (vr_p hkv).1]
            exact y_mdel0 hu hd hcd hH hr h
          · rename_i b kv h1 h2
            have hv := vr_ev hg ht x
            rw [h1] at hv
            have hkv := vr_ev hg ht y
            rw [h2] at hkv
            rw [(vr_p hkv).1]
            split at h
            · rename_i es hb
              split at h
              · rename_i i hf
                exact y_mdel hu hd hcd hv hb hf hH hr h
              · rename_i hf
                exact y_mdel hu hd hcd hv hb hf hH hr h
              · exact h.elim
            · exact h.elim
          · exact h.elim
      · cases hc
    · cases hc
  · -- clear
    split at hc
    · rename_i ty x h1 h2
      obtain rfl := hl h1
      obtain rfl := hl h2
      have hrun : (do let d ← resolve a.eval { callee := .builtin .clear, args := #[x], argTypes := #[ty] } o.type; invoke d.target d.args : Sem Next) = (do pure (.value (← Builtin.clear_ #[ty] o.type #[a.eval x]))) := by
        simp [resolve, invoke, builtin]
      rw [hrun]
      split at hc
      · rename_i el hu
        split at hc
        · rename_i inf hi
          split at hc
          · rename_i z hz
            split at hc
            · rename_i hone
              cases hc
              simp only [DO.rel, vcO] at h
              split at h
              · rename_i b i o' n c' z' hs
                split at h
                · rename_i bsz els hb
                  split at h
                  · rename_i l hdl
                    obtain ⟨hx1, hk⟩ := h
                    have hv := vr_ev hg ht x
                    rw [hs] at hv
                    exact y_clr hu (fun w => by simp [zeroValue, typeInfo, hi, hz]) (one_cells hone) hone _ hH hr hv hb hdl hx1 hk
                  · exact h.elim
                · exact h.elim
              · exact h.elim
            · cases hc
          · cases hc
        · cases hc
      · cases hc
    · cases hc
  · -- a function
    split at hc
    · rename_i f hf
      cases hc
      simp only [DO.rel, vcO] at h
      have := y_call (ty := o.type) hf args hg ht hH hr h
      exact this
    · cases hc
  · -- a function's value
    rename_i n
    cases hc
    simp only [DO.rel, vcO, if_true] at h
    have hx := vr_ev hg ht (.tmp n)
    simp only [cOpd] at hx
    split at h
    · rename_i f first cap hs
      rw [hs] at hx
      obtain ⟨vs, us, hv, h1, h2⟩ : ∃ vs us, a.eval (.tmp n) = .func (.func f) vs us ∧ TR e first vs ∧ TR e cap us := by
        generalize a.eval (.tmp n) = v at hx
        cases hx with
        | fn hl h hl' h' => exact ⟨_, _, rfl, ⟨hl, h⟩, ⟨hl', h'⟩⟩
      have h3 := tr_map hg ht args.toList
      refine y_fn h.1 (TR.app (TR.app h1 (by simpa [← Array.toList_map] using h3)) h2) hg hH hr ?_ h.2
      simp only [resolve, hv, Deferred.ofValue, invoke, Sem.run_bind, Sem.run_pure, Result.andThen_ok]
    · exact h.elim
  · -- a method
    rename_i x name
    cases hc
    simp only [DO.rel, vcO, if_true] at h
    have hx := vr_ev hg ht x
    split at h
    · rename_i ty d hs
      rw [hs] at hx
      obtain ⟨u, hv, h1⟩ := vr_iface hx
      split at h
      · rename_i f hm
        have h3 := tr_map hg ht args.toList
        have h4 : TR e [d] #[u] := ⟨rfl, fun i hi hi' => by
          have : i = 0 := by simp at hi; exact hi
          subst this
          exact h1⟩
        refine y_fn h.1 (TR.app h4 (by simpa [← Array.toList_map] using h3)) hg hH hr ?_ h.2
        obtain ⟨n, hn⟩ : ∃ n, P.types.size + Made.depth = n + 1 := ⟨P.types.size + Made.depth - 1, by simp [Made.depth]⟩
        have h0 : (#[Value.iface ty u] ++ Array.map a.eval args)[0]? = some (.iface ty u) := by rw [Array.getElem?_append_left (by simp)]; rfl
        have h5 : (Array.map a.eval args).extract 0 args.size = Array.map a.eval args := by
          have : args.size = (Array.map a.eval args).size := by simp
          rw [this, Array.extract_size]
        simp [resolve, hv, invoke, callMethod, run_program, hn, run_method hm, h0, h5]
      · exact h.elim
    · exact h.elim
  · cases hc

theorem sound_op {o : Oper} {d : DO} (hc : cOp P o = some d) (hg : GR e G) (ht : TR e t a.tmps) (hH : e.H = w.heap) (hr : HR e) (h : vcO P G d (Opd.ev G t) e.h K) : Yields P (execOp a.eval o) w (After e w K) := by
  obtain ⟨dst, op, type, pos, after, guard⟩ := o
  unfold cOp at hc
  simp only at hc
  cases op
  case move x =>
    cases hc
    exact y_mov hH hr (vr_ev hg ht x) h
  case assign x =>
    cases hc
    exact y_mov hH hr (vr_ev hg ht x) h
  case pick c x y =>
    cases hc
    have hcv := vr_ev hg ht c
    simp only [vcO] at h
    split at h
    · rename_i b hb
      rw [hb] at hcv
      obtain ⟨h1, _⟩ := vr_p hcv
      have hrun : (execOp a.eval { dst, op := .pick c x y, type, pos, after, guard } : Sem Next) = (do pure (.value (if ← asBool (a.eval c) then a.eval x else a.eval y))) := rfl
      rw [hrun, h1]
      cases b
      · exact y_pure rfl hH hr (vr_ev hg ht y) (by simpa using h)
      · exact y_pure rfl hH hr (vr_ev hg ht x) (by simpa using h)
    · exact h.elim
  case binOp op ty x y yt =>
    have hne : ∀ d', some (DO.bin op (cOpd x) (cOpd y)) = some d' → vcO P G d' (Opd.ev G t) e.h K → Yields P (execOp a.eval { dst, op := .binOp op ty x y yt, type, pos, after, guard }) w (After e w K) := by
      intro d' hd h
      cases hd
      have hx := vr_ev hg ht x
      have hy := vr_ev hg ht y
      simp only [vcO] at h
      split at h
      · rename_i p q h1 h2
        rw [h1] at hx
        rw [h2] at hy
        obtain ⟨h3, _⟩ := vr_p hx
        obtain ⟨h4, _⟩ := vr_p hy
        obtain ⟨v, e1, e2, e3⟩ := run_binK (P := P) (xt := ty) (x := x) (y := y) w h
        refine y_pure ?_ hH hr (.p e2) e3
        show (do pure (.value (← (do eqGuard op ty x y (a.eval x) (a.eval y); binOp op ty (a.eval x) (a.eval y) : Sem Value))) : Sem Next).run P w = _
        rw [h3, h4, Sem.run_bind, e1]
        rfl
      · exact h.elim
    cases op
    case eql => exact s_cEq (neg := false) hc hg ht hH hr h
    case neq => exact s_cEq (neg := true) hc hg ht hH hr h
    all_goals exact hne _ hc h
  case unOp op ty x =>
    cases hc
    have hx := vr_ev hg ht x
    simp only [vcO] at h
    split at h
    · rename_i p h1
      rw [h1] at hx
      obtain ⟨h3, _⟩ := vr_p hx
      obtain ⟨v, e1, e2, e3⟩ := run_unK (P := P) w h
      refine y_pure ?_ hH hr (.p e2) e3
      show (do pure (.value (← Op.unary op (a.eval x))) : Sem Next).run P w = _
      rw [h3, Sem.run_bind, e1]
      rfl
    · exact h.elim
  case convert src dst' x => exact s_conv hc hg ht hH hr h
  case slice ty x lo hi mx =>
    cases mx with
    | some _ => cases hc
    | none =>
      simp only at hc
      split at hc
      · rename_i hu
        cases hc
        exact s_slcs hu hg ht hH hr h
      · rename_i el hu
        cases hty : tyI P el with
        | none => rw [hty] at hc; cases hc
        | some g =>
          rw [hty] at hc
          cases hc
          exact s_slcl hu (tyI_spec (g := g.1) (sz := g.2) hty) hg ht hH hr h
      · rename_i n el hu
        obtain ⟨g, hg1, hg2, rfl⟩ := bind_some_if hc
        exact s_slca (.inl hu) (tyI_spec (g := g.1) (sz := g.2) hg1) (fun h => hg2.resolve_left (by rw [h]; simp)) hg ht hH hr h
      · rename_i arr hu
        split at hc
        · rename_i n el hu2
          obtain ⟨g, hg1, hg2, rfl⟩ := bind_some_if hc
          exact s_slca (.inr ⟨arr, hu, hu2⟩) (tyI_spec (g := g.1) (sz := g.2) hg1) (fun h => hg2.resolve_left (by rw [h]; simp)) hg ht hH hr h
        · cases hc
      · cases hc
  case index ty x i =>
    have hx := vr_ev hg ht x
    have hi := vr_ev hg ht i
    simp only at hc
    split at hc
    · rename_i hu
      cases hc
      simp only [vcO] at h
      split at h
      · rename_i s k j h1 h2
        rw [h1] at hx
        rw [h2] at hi
        show Yields P (do pure (.value (← Instr.index ty (a.eval x) (a.eval i)))) w _
        rw [(vr_p hx).1, (vr_p hi).1]
        exact y_idxs hu hH hr h
      · exact h.elim
    · rename_i n el hu
      obtain ⟨g, hg1, hg2, rfl⟩ := bind_some_if hc
      simp only [vcO] at h
      refine y_idxa hu (tyI_spec (g := g.1) (sz := g.2) hg1) (g_one hg2) hH hr hx hi ?_
      split at h
      · rename_i cs k j h1 h2; first | exact h | (rw [h1, h2]; exact h)
      · exact h.elim
    · cases hc
  case field ty x f =>
    have hx := vr_ev hg ht x
    simp only at hc
    split at hc
    · rename_i fs hu
      split at hc
      · rename_i fd hf
        obtain ⟨g, hg1, hg2, rfl⟩ := bind_some_if hc
        simp only [vcO] at h
        refine y_fld hu hf (tyI_spec (g := g.1) (sz := g.2) hg1) (g_one hg2) hH hr hx ?_
        split at h
        · rename_i cs h1; first | exact h | (rw [h1]; exact h)
        · exact h.elim
      · cases hc
    · cases hc
  case build ty parts =>
    simp only at hc
    split at hc
    · rename_i z place hb
      split at hc
      · rename_i hz
        cases hp : parts.toList.mapM (fun p => (place p.1).map fun q => (q.1, q.2, cOpd p.2)) with
        | none => rw [hp] at hc; cases hc
        | some dp =>
          rw [hp] at hc
          cases hc
          simp only [vcO, foldl_fillD] at h
          exact y_bld hb hz (ev := Opd.ev G t) (fun x => vr_ev hg ht x) parts dp hp hH hr h
      · cases hc
    · cases hc
  case buildSlice ty n parts =>
    simp only at hc
    split at hc
    · rename_i el hu
      split at hc
      · rename_i i hi
        by_cases hcond : i.zero.isSome = true ∧ n * i.size ≤ 16777216 ∧ consec 0 parts.toList = true ∧ parts.size = n
        · rw [if_pos hcond] at hc
          cases hc
          obtain ⟨h1, h2, h3, h4⟩ := hcond
          simp only [vcO] at h
          have hlen : (parts.toList.map fun p => cOpd p.2).length = n := by simp [h4]
          rw [hlen] at h
          exact y_lit hu ⟨i, hi, rfl, h1⟩ h2 (ev := Opd.ev G t) (fun x => vr_ev hg ht x) parts h3 h4 hH hr h
        · rw [if_neg hcond] at hc; cases hc
      · cases hc
    · cases hc
  case alloc ty =>
    simp only at hc
    split at hc
    · rename_i i hi
      split at hc
      · rename_i z hz
        split at hc
        · rename_i hst
          cases hc
          exact y_alloc ⟨i, hi, hz⟩ (vr_ofV e z) hst hH hr h
        · cases hc
      · cases hc
    · cases hc
  case box ty x =>
    cases hc
    exact y_box hH hr (vr_ev hg ht x) h
  case load ty ad =>
    obtain ⟨g, hg1, hg2, rfl⟩ := bind_some_if hc
    simp only [vcO] at h
    refine y_load (tyI_spec (g := g.1) (sz := g.2) hg1) (g_one hg2) hH hr (vr_ev hg ht ad) ?_
    split at h
    · rename_i b i o x h1; first | exact h | (rw [h1]; exact h)
    · rename_i d h1; first | exact h | (rw [h1]; exact h)
    · rename_i q h1; first | exact h | (rw [h1]; exact h)
    · exact h.elim
  case store ty ad x =>
    simp only at hc
    cases hg1 : tyI P ty with
    | none => rw [hg1] at hc; cases hc
    | some g =>
      rw [hg1] at hc
      cases hc
      simp only [vcO] at h
      refine y_store (tyI_spec (g := g.1) (sz := g.2) hg1) hH hr (vr_ev hg ht ad) (vr_ev hg ht x) ?_
      split at h
      · rename_i b i o n h1; first | exact h | (rw [h1]; exact h)
      · exact h.elim
  case nilCheck x =>
    cases hc
    have hx := vr_ev hg ht x
    simp only [vcO] at h
    split at h
    · rename_i hn
      have hrun : (execOp a.eval { dst, op := .nilCheck x, type, pos, after, guard }).run P w = .ok (.value (a.eval x)) w := by
        have hv : (∃ q, a.eval x = .pointer (some q)) ∨ (∃ u y, a.eval x = .iface u y) := by
          generalize Opd.ev G t (cOpd x) = d at *
          generalize a.eval x = v at *
          cases hif : isIfT P type
          case true =>
            rw [hif] at hn
            simp only [if_true] at hn
            cases d with
            | p u => cases u <;> simp [isNilD] at hn
            | iface t d => obtain ⟨u, rfl, _⟩ := vr_iface hx; exact .inr ⟨_, _, rfl⟩
            | _ => simp [isNilD] at hn
          case false =>
            rw [hif] at hn
            simp only [Bool.false_eq_true, if_false] at hn
            cases d with
            | p u => cases u <;> first | (simp [isNilD] at hn; done) | (rename_i q; cases q <;> simp [isNilD] at hn)
            | ptr b i o x =>
              simp only [isNilD] at hn
              split at hn
              · rename_i bsz els hb
                split at hn
                · rename_i hx'
                  subst hx'
                  obtain ⟨_, q, _, rfl⟩ := vr_ptr hx (Env.key_of hb)
                  exact .inl ⟨_, rfl⟩
                · cases hn
              · cases hn
            | fp d => cases hx with | fp => exact .inl ⟨_, rfl⟩
            | _ => simp [isNilD] at hn
        rcases hv with ⟨q, hq⟩ | ⟨u, y, hq⟩ <;> simp only [execOp, hq] <;> rfl
      exact y_pure hrun hH hr hx h
    · exact h.elim
  case fieldAddr ty ad f =>
    simp only at hc
    split at hc
    · rename_i fs hu
      split at hc
      · rename_i fd hf
        obtain ⟨g, hg1, hg2, rfl⟩ := bind_some_if hc
        simp only [vcO] at h
        refine y_faddr hu hf (tyI_spec (g := g.1) (sz := g.2) hg1) hg2.2 (g_one hg2.1) hH hr (vr_ev hg ht ad) ?_
        split at h
        · rename_i b i o x h1; first | exact h | (rw [h1]; exact h)
        · rename_i d h1; first | exact h | (rw [h1]; exact h)
        · exact h.elim
      · cases hc
    · cases hc
  case indexAddr ty x i =>
    simp only at hc
    split at hc
    · rename_i el hu
      cases hg1 : tyI P el with
      | none => rw [hg1] at hc; cases hc
      | some g =>
        rw [hg1] at hc
        cases hc
        simp only [vcO] at h
        refine y_iaddr hu (tyI_spec (g := g.1) (sz := g.2) hg1) hH hr (vr_ev hg ht x) (vr_ev hg ht i) ?_
        split at h
        · rename_i b s n y k j h1 h2; first | exact h | (rw [h1, h2]; exact h)
        · rename_i sz l k j h1 h2; first | exact h | (rw [h1, h2]; exact h)
        · rename_i g' z b i o n y k j h1 h2; first | exact h | (rw [h1, h2]; exact h)
        · exact h.elim
    · rename_i n el hu
      obtain ⟨g, hg1, hg2, rfl⟩ := bind_some_if hc
      simp only [vcO] at h
      refine y_iaddra hu (tyI_spec (g := g.1) (sz := g.2) hg1) (g_one hg2.1) hg2.2 hH hr (vr_ev hg ht x) (vr_ev hg ht i) ?_
      split at h
      · rename_i b s o y k j h1 h2; first | exact h | (rw [h1, h2]; exact h)
      · rename_i d k j h1 h2; first | exact h | (rw [h1, h2]; exact h)
      · exact h.elim
    · cases hc
  case extract x i =>
    cases hc
    simp only [vcO] at h
    refine y_ext hH hr (vr_ev hg ht x) ?_
    split at h
    · rename_i vs h1; first | exact h | (rw [h1]; exact h)
    · exact h.elim
  case makeInterface ty x =>
    simp only at hc
    split at hc
    · rename_i hcc
      cases hc
      exact y_ifc hcc hH hr (vr_ev hg ht x) h
    · cases hc
  case call c => exact s_call rfl hc hg ht hH hr (vcO_rel h)
  case range ty x =>
    simp only at hc
    split at hc
    · rename_i hu
      cases hc
      simp only [vcO] at h
      split at h
      · rename_i s h1
        have hv := vr_ev hg ht x
        rw [h1] at hv
        have := (vr_p hv).1
        simp only [execOp, this]
        exact y_rngs hu hH hr h
      · exact h.elim
    · rename_i kt et hu
      cases hc
      simp only [vcO] at h
      split at h
      · rename_i h1
        have hv := vr_ev hg ht x
        rw [h1] at hv
        have := (vr_p hv).1
        simp only [execOp, this]
        exact y_rngm0 hu hH hr h
      · rename_i b h1
        have hv := vr_ev hg ht x
        rw [h1] at hv
        split at h
        · rename_i es hb
          exact y_rngm hu hv hb hH hr h
        · exact h.elim
      · exact h.elim
    · cases hc
  case next x isS =>
    simp only [Option.some.injEq] at hc
    subst hc
    cases isS with
    | true =>
      simp only [if_true, vcO] at h
      split at h
      · rename_i b h1
        have hv := vr_ev hg ht x
        rw [h1] at hv
        split at h
        · rename_i s pos hb
          exact y_nxts hv hb hH hr h.1 h.2
        · exact h.elim
      · exact h.elim
    | false =>
      simp only [Bool.false_eq_true, if_false, vcO] at h
      split at h
      · rename_i b h1
        have hv := vr_ev hg ht x
        rw [h1] at hv
        split at h
        · rename_i l hb
          exact y_nxtm0 hv hb hH hr h
        · rename_i m l hb
          split at h
          · rename_i es hm
            exact y_nxtm hv hb hm hH hr h.1 h.2
          · exact h.elim
        · exact h.elim
      · exact h.elim
  case entry x =>
    cases hc
    simp only [vcO] at h
    split at h
    · rename_i b h1
      have hv := vr_ev hg ht x
      rw [h1] at hv
      split at h
      · rename_i m l j hb
        split at h
        · rename_i es hm
          exact y_ent hv hb hm hH hr h.1 h.2
        · exact h.elim
      · exact h.elim
    · exact h.elim
  case makeMap ty res =>
    cases res with
    | none =>
      cases hc
      exact y_mkmap hH hr h
    | some z =>
      simp only [cOp] at hc
      split at hc
      · rename_i kt et hu
        cases hc
        simp only [vcO] at h
        split at h
        · rename_i k n h1
          have hv := vr_ev hg ht z
          rw [h1] at hv
          obtain ⟨hv, _⟩ := vr_p hv
          show Yields P (do pure (.value (← Instr.makeMap ty (some (a.eval z))))) w (After e w K)
          rw [hv]
          exact y_mkmapr hu hH hr h
        · exact h.elim
      · cases hc
  case mapUpdate ty m k x =>
    simp only at hc
    split at hc
    · rename_i kt et hu
      cases hck : kindOf P kt with
      | none => rw [hck] at hc; cases hc
      | some ck =>
        rw [hck] at hc
        cases hc
        obtain ⟨d, hd, hcd⟩ := kindOf_ck hck
        simp only [vcO] at h
        split at h
        · rename_i b kv h1 h2
          have hv := vr_ev hg ht m
          rw [h1] at hv
          have hkv := vr_ev hg ht k
          rw [h2] at hkv
          have hk' := (vr_p hkv).1
          split at h
          · rename_i es hb
            split at h
            · rename_i r hf
              simp only [execOp, hk']
              exact y_mupd hu hd hcd hv (vr_ev hg ht x) hb hf h.1 hH hr h.2
            · exact h.elim
          · exact h.elim
        · exact h.elim
    · cases hc
  case insert ty m k x =>
    simp only at hc
    split at hc
    · rename_i kt et hu
      cases hck : kindOf P kt with
      | none => rw [hck] at hc; cases hc
      | some ck =>
        rw [hck] at hc
        cases hc
        obtain ⟨d, hd, hcd⟩ := kindOf_ck hck
        simp only [vcO] at h
        split at h
        · rename_i b kv h1 h2
          have hv := vr_ev hg ht m
          rw [h1] at hv
          have hkv := vr_ev hg ht k
          rw [h2] at hkv
          have hk' := (vr_p hkv).1
          split at h
          · rename_i es hb
            split at h
            · rename_i r hf
              simp only [execOp, hk']
              exact y_mupd hu hd hcd hv (vr_ev hg ht x) hb hf h.1 hH hr h.2
            · exact h.elim
          · exact h.elim
        · exact h.elim
    · cases hc
  case lookup ty m k ok =>
    simp only at hc
    split at hc
    · rename_i kt et hu
      split at hc
      · rename_i ck i hck hi
        split at hc
        · rename_i z hz
          cases hc
          obtain ⟨d, hd, hcd⟩ := kindOf_ck hck
          simp only [vcO] at h
          split at h
          · rename_i kv h1 h2
            have hv := vr_ev hg ht m
            rw [h1] at hv
            have hm' := (vr_p hv).1
            simp only [execOp, hm']
            exact y_look0 hu hd hcd ⟨i, hi, hz⟩ (fun e => vr_ofV e z) hH hr h
          · rename_i b kv h1 h2
            have hv := vr_ev hg ht m
            rw [h1] at hv
            have hkv := vr_ev hg ht k
            rw [h2] at hkv
            have hk' := (vr_p hkv).1
            split at h
            · rename_i es hb
              split at h
              · rename_i j hf
                simp only [execOp, hk']
                exact y_look hu hd hcd ⟨i, hi, hz⟩ (fun e => vr_ofV e z) hv hb hf hH hr h
              · rename_i hf
                simp only [execOp, hk']
                exact y_look hu hd hcd ⟨i, hi, hz⟩ (fun e => vr_ofV e z) hv hb hf hH hr h
              · exact h.elim
            · exact h.elim
          · rename_i ks ds kv h1 h2
            have hv := vr_ev hg ht m
            rw [h1] at hv
            have hkv := vr_ev hg ht k
            rw [h2] at hkv
            have hk' := (vr_p hkv).1
            obtain ⟨h3, h4, h⟩ := h
            split at h
            · rename_i j hf
              simp only [execOp, hk']
              exact y_lookf hu hd hcd ⟨i, hi, hz⟩ (fun e => vr_ofV e z) hv h3 h4 hf hH hr h
            · rename_i hf
              simp only [execOp, hk']
              exact y_lookf hu hd hcd ⟨i, hi, hz⟩ (fun e => vr_ofV e z) hv h3 h4 hf hH hr h
            · exact h.elim
          · exact h.elim
        · cases hc
      · cases hc
    · cases hc
  case makeSlice ty n c =>
    simp only at hc
    split at hc
    · rename_i el hu
      split at hc
      · rename_i i g sz hi hty
        split at hc
        · rename_i z hz
          by_cases hcond : z.cells.size = i.size ∧ 0 < i.bytes ∧ (ofV z).storable = true ∧ sz = i.size
          · rw [if_pos hcond] at hc
            cases hc
            simp only [vcO] at h
            split at h
            · rename_i kl l kr r h1 h2
              have hn := vr_ev hg ht n
              have hcv := vr_ev hg ht c
              rw [h1] at hn
              rw [h2] at hcv
              simp only [execOp, (vr_p hn).1, (vr_p hcv).1]
              exact y_mks (g := g) hu ⟨i, hi, rfl, rfl, hz, hcond.1⟩ hcond.2.1 hcond.2.2.1 hH hr h
            · exact h.elim
          · rw [if_neg hcond] at hc; cases hc
        · cases hc
      · cases hc
    · cases hc
  case typeAssert x xt ty ok =>
    simp only at hc
    split at hc
    · rename_i want i hu hi
      split at hc
      · rename_i hz
        cases hc
        simp only [vcO] at h
        refine y_tai hu ⟨i, hi, hz⟩ hH hr (vr_ev hg ht x) ?_
        split at h
        · rename_i u v h1; first | exact h | (rw [h1]; exact h)
        · rename_i h1; first | exact h | (rw [h1]; exact h)
        · exact h.elim
      · cases hc
    · rename_i d0 i hni hu hi
      split at hc
      · rename_i z hz
        cases hc
        simp only [vcO] at h
        refine y_tas (d0 := d0) hu (by cases d0 <;> first | rfl | exact (hni _ rfl).elim) ⟨i, hi, hz⟩ hH hr (vr_ev hg ht x) ?_
        split at h
        · rename_i u v h1; first | exact h | (rw [h1]; exact h)
        · rename_i h1; first | exact h | (rw [h1]; exact h)
        · exact h.elim
      · cases hc
    · cases hc
  case makeFunc f first cap =>
    cases hc
    simp only [vcO] at h
    have h3 := tr_map hg ht first.toList
    have h4 := tr_map hg ht cap.toList
    exact y_mkf (by simpa [← Array.toList_map] using h3) (by simpa [← Array.toList_map] using h4) hH hr h
  all_goals cases hc

theorem cEq_call {neg : Bool} {ty : TypeId} {x y : Operand} {d : DO} (hc : cEq P neg ty x y = some d) : d.rel = d := by
  unfold cEq at hc
  repeat' split at hc
  all_goals first
    | (cases hc; done)
    | (cases hc; rfl)
    | (simp only [Option.bind_eq_some_iff] at hc; obtain ⟨g, _, hc⟩ := hc; split at hc <;> first | (cases hc; done) | (cases hc; rfl))
theorem cConv_call {s d : TypeId} {x : Operand} {o : DO} (hc : cConv P s d x = some o) : o.rel = o := by
  unfold cConv at hc
  repeat' split at hc
  all_goals first | (cases hc; done) | (cases hc; rfl)
theorem cOp_call {o : Oper} {d : DO} (hc : cOp P o = some d) (ho : ∀ c, o.op ≠ .call c) : d.rel = d := by
  obtain ⟨dst, op, type, pos, after, guard⟩ := o
  unfold cOp at hc
  simp only at hc ho
  cases op
  case call c => exact absurd rfl (ho c)
  all_goals
    try simp only at hc
    try (repeat' split at hc)
    all_goals first
      | (cases hc; done)
      | (cases hc; rfl)
      | (simp only [Option.bind_eq_some_iff] at hc; obtain ⟨g, _, hc⟩ := hc; split at hc <;> first | (cases hc; done) | (cases hc; rfl))
      | (simp only [Option.map_eq_some_iff] at hc; obtain ⟨g, _, hc⟩ := hc; cases hc; rfl)
      | exact cEq_call hc
      | exact cConv_call hc
      | contradiction
theorem sound_opr {o : Oper} {d : DO} (hc : cOp P o = some d) (hg : GR e G) (ht : TR e t a.tmps) (hH : e.H = w.heap) (hr : HR e) (h : vcO P G d.rel (Opd.ev G t) e.h K) : Yields P (execOp a.eval o) w (After e w K) := by
  by_cases hd : ∃ c, o.op = .call c
  · obtain ⟨c, h1⟩ := hd
    obtain ⟨dst, op, type, pos, after, guard⟩ := o
    simp only at h1
    subst h1
    exact s_call rfl hc hg ht hH hr h
  · rw [cOp_call hc fun c hc => hd ⟨c, hc⟩] at h
    exact sound_op hc hg ht hH hr h

end
end Go.Den

namespace Go.Den
open Go

section
variable {P : Program} {G : Nat → DV} {e : Env} {w : World} {K : DV → List Blk → Prop} {t : List DV} {a : Act}

theorem lit_only {o : Oper} {sz : Nat} {els : List Opd} (hc : cOp P o = some (.lit sz els)) : ∃ ty n parts, o.op = .buildSlice ty n parts := by
  obtain ⟨dst, op, type, pos, after, guard⟩ := o
  cases op
  case buildSlice ty n parts => exact ⟨ty, n, parts, rfl⟩
  case binOp op ty x y z =>
    exfalso
    cases op <;> simp only [cOp, cEq] at hc <;> (repeat' split at hc) <;> simp_all [Option.bind_eq_some_iff]
  case slice t x lo hi mx =>
    exfalso
    cases mx <;> simp only [cOp] at hc <;> (repeat' split at hc) <;> first | (simp only [Option.bind_eq_some_iff] at hc; obtain ⟨g, _, hc⟩ := hc; split at hc <;> cases hc) | simp_all [Option.map_eq_some_iff]
  case makeMap ty r =>
    exfalso
    cases r <;> simp only [cOp] at hc <;> (repeat' split at hc) <;> simp_all
  case call c =>
    exfalso
    simp only [cOp, cCall] at hc
    repeat' split at hc
    all_goals simp_all
  all_goals
    exfalso
    simp only [cOp, cConv] at hc
    repeat' split at hc
    all_goals simp_all [Option.map_eq_some_iff, Option.bind_eq_some_iff]

theorem sound_litz {o : Oper} {sz : Nat} {els : List Opd} (hc : cOp P o = some (.lit sz els)) (hg : GR e G) (ht : TR e t a.tmps) (hH : e.H = w.heap) (hr : HR e) (h : vcO P G (DO.litz sz els) (Opd.ev G t) e.h K) : Yields P (execOp a.eval o) w (After e w K) := by
  obtain ⟨ty, n, parts, ho⟩ := lit_only hc
  obtain ⟨dst, op, type, pos, after, guard⟩ := o
  simp only at ho
  subst ho
  simp only [cOp] at hc
  split at hc
  · rename_i el hu
    split at hc
    · rename_i i hi
      by_cases hcond : i.zero.isSome = true ∧ n * i.size ≤ 16777216 ∧ consec 0 parts.toList = true ∧ parts.size = n
      · rw [if_pos hcond] at hc
        cases hc
        obtain ⟨h1, h2, h3, h4⟩ := hcond
        simp only [vcO] at h
        exact y_litz hu ⟨i, hi, rfl, h1⟩ h2 (ev := Opd.ev G t) (fun x => vr_ev hg ht x) parts h3 h4 hH hr h
      · rw [if_neg hcond] at hc; cases hc
    · cases hc
  · cases hc
end
end Go.Den

namespace Go.Den
open Go

/-- An operation made small; what isn't covered must not be reached. -/
def cOpS (P : Program) (o : Oper) : DO := (cOp P o).getD .stop
def cOper (P : Program) (ops : Array Oper) (o : Oper) : Option DOper :=
  match o.guard with
  | none => some ⟨o.dst, cOpS P o, none⟩
  | some (j, want) => match (ops[j]?).bind (·.dst) with
    | some g => some ⟨o.dst, cOpS P o, some (g, want)⟩
    | none => none

def cOps (P : Program) (ops : Array Oper) : List Oper → Option (List DOper)
  | [] => some []
  | o :: l => match cOper P ops o, cOps P ops l with
    | some d, some r => some (d :: r)
    | _, _ => none

/-- What comes ahead of an operation for certain: the edges that always bind. -/
def depsOf (o : Oper) : List Nat := (o.after.toList.filter (Region.binds .any ·)).map (·.on)
/-- All that comes ahead, as bits. -/
def maskOf (m : List Nat) (o : Oper) : Nat := (depsOf o).foldl (fun s d => s ||| (2 ^ d ||| m.getD d 0)) 0
def masksFrom (m : List Nat) : List Oper → List Nat
  | [] => m
  | o :: l => masksFrom (m ++ [maskOf m o]) l
def looks (d : DOper) : List Nat := d.op.opds.filterMap (fun | .t n => some n | _ => none) ++ (match d.guard with | some (g, _) => [g] | none => [])
def isHeavy (d : DOper) : Bool := d.op.heavy
/-- How many of the first i are heavy. -/
def cnt (l : List DOper) (i : Nat) : Nat := (l.take i).countP isHeavy
def aOf (l : List DOper) (m : Nat) : Nat → Nat
  | 0 => 0
  | i + 1 => if m.testBit i && ((l[i]?).map isHeavy).getD false then cnt l i + 1 else aOf l m i
def frOf (l : List DOper) (M : List Nat) (i : Nat) : List Nat :=
  (((List.range l.length).filter fun j => ((l[j]?).map fun d => !isHeavy d && !d.op.plain).getD false && !(M.getD i 0).testBit j && !(M.getD j 0).testBit i && decide (aOf l (M.getD j 0) l.length ≤ cnt l i)).map fun j => aOf l (M.getD j 0) l.length).eraseDups
def annot (l : List DOper) (M : List Nat) : List DDOp :=
  (List.range l.length).map fun i => ⟨l.getD i default, aOf l (M.getD i 0) l.length, frOf l M i⟩

/-- What must hold of a region that is drawn, so that its text's order stands for all. -/
structure Chk (ops : List Oper) (l : List DDOp) (M : List Nat) : Prop where
  len : l.length = ops.length
  det : ∀ x, x ∈ l → x.o.op.det = true
  deps : ∀ i, i < ops.length → ∀ o, ops[i]? = some o → ∀ d, d ∈ depsOf o → d < i
  mask : ∀ i, i < ops.length → ∀ o, ops[i]? = some o → M.getD i 0 = maskOf M o
  dst : ∀ i, i < l.length → ∀ j, j < l.length → ∀ x y, l[i]? = some x → l[j]? = some y → ∀ s, x.o.dst = some s → (i ≠ j → y.o.dst ≠ some s) ∧ (s ∈ looks y.o → i = j ∨ (M.getD j 0).testBit i = true ∨ (M.getD i 0).testBit j = true)
  heavy : ∀ i, i < l.length → ∀ j, j < l.length → ∀ x y, l[i]? = some x → l[j]? = some y → i < j → isHeavy x.o = true → isHeavy y.o = true → (M.getD j 0).testBit i = true
  light : ∀ j, j < l.length → ∀ y, l[j]? = some y → isHeavy y.o = false → y.a = 0 ∨ ∃ i, i < l.length ∧ ∃ x, l[i]? = some x ∧ isHeavy x.o = true ∧ (M.getD j 0).testBit i = true ∧ cnt (l.map (·.o)) i + 1 = y.a
  free : ∀ i, i < l.length → ∀ j, j < l.length → ∀ x y, l[i]? = some x → l[j]? = some y → isHeavy x.o = true → isHeavy y.o = false → y.o.op.plain = true ∨ y.a ∈ x.fr ∨ (M.getD i 0).testBit j = true ∨ cnt (l.map (·.o)) i < y.a

def allP (n : Nat) (f : Nat → Bool) : Bool := (List.range n).all f
theorem allP_iff {n : Nat} {f : Nat → Bool} (h : allP n f = true) : ∀ i, i < n → f i = true := fun i hi => by
  have := List.all_eq_true.1 h i (List.mem_range.2 hi)
  exact this

def chk (ops : List Oper) (l : List DDOp) (M : List Nat) : Bool :=
  (l.length == ops.length && l.all (fun x => x.o.op.det)) &&
  allP ops.length (fun i => ((ops[i]?).map fun o => (depsOf o).all (· < i)).getD true) &&
  allP ops.length (fun i => ((ops[i]?).map fun o => M.getD i 0 == maskOf M o).getD true) &&
  allP l.length (fun i => ((l[i]?).map fun x => match x.o.dst with
    | none => true
    | some s => allP l.length fun j => ((l[j]?).map fun y => (i == j || y.o.dst != some s) && (!(looks y.o).contains s || i == j || (M.getD j 0).testBit i || (M.getD i 0).testBit j)).getD true).getD true) &&
  allP l.length (fun i => ((l[i]?).map fun x => !isHeavy x.o || allP l.length fun j => ((l[j]?).map fun y => !(decide (i < j)) || !isHeavy y.o || (M.getD j 0).testBit i).getD true).getD true) &&
  allP l.length (fun j => ((l[j]?).map fun y => isHeavy y.o || y.a == 0 || (List.range l.length).any fun i => ((l[i]?).map fun x => isHeavy x.o && (M.getD j 0).testBit i && cnt (l.map (·.o)) i + 1 == y.a).getD false).getD true) &&
  allP l.length (fun i => ((l[i]?).map fun x => !isHeavy x.o || allP l.length fun j => ((l[j]?).map fun y => isHeavy y.o || y.o.op.plain || x.fr.contains y.a || (M.getD i 0).testBit j || decide (cnt (l.map (·.o)) i < y.a)).getD true).getD true)

theorem chk_sound {ops : List Oper} {l : List DDOp} {M : List Nat} (h : chk ops l M = true) : Chk ops l M := by
  simp only [chk, Bool.and_eq_true] at h
  obtain ⟨⟨⟨⟨⟨⟨h1, h2⟩, h3⟩, h4⟩, h5⟩, h6⟩, h7⟩ := h
  refine ⟨by simpa using h1.1, List.all_eq_true.1 h1.2, fun i hi o ho d hd => ?_, fun i hi o ho => ?_, fun i hi j hj x y hx hy s hs => ?_, fun i hi j hj x y hx hy hij hhx hhy => ?_, fun j hj y hy hhy => ?_, fun i hi j hj x y hx hy hhx hhy => ?_⟩
  · have := allP_iff h2 i hi
    simp only [ho, Option.map_some, Option.getD_some, List.all_eq_true, decide_eq_true_eq] at this
    exact this d hd
  · have := allP_iff h3 i hi
    simpa [ho] using this
  · have := allP_iff h4 i hi
    simp only [hx, hs, Option.map_some, Option.getD_some] at this
    have := allP_iff this j hj
    simp only [hy, Option.map_some, Option.getD_some, Bool.and_eq_true, Bool.or_eq_true, beq_iff_eq, bne_iff_ne, Bool.not_eq_true', List.contains_eq_mem, decide_eq_false_iff_not] at this
    refine ⟨fun hij => this.1.resolve_left hij, fun hl => ?_⟩
    rcases this.2 with ((h | h) | h) | h
    · exact (h hl).elim
    · exact .inl h
    · exact .inr (.inl h)
    · exact .inr (.inr h)
  · have := allP_iff h5 i hi
    simp only [hx, hhx, Option.map_some, Option.getD_some, Bool.not_true, Bool.false_or] at this
    have := allP_iff this j hj
    simpa [hy, hhy, hij] using this
  · have := allP_iff h6 j hj
    simp only [hy, hhy, Option.map_some, Option.getD_some, Bool.false_or, Bool.or_eq_true, beq_iff_eq, List.any_eq_true] at this
    rcases this with h | ⟨i, hi, h⟩
    · exact .inl h
    · cases hx : l[i]? with
      | none => rw [hx] at h; simp at h
      | some x =>
        rw [hx] at h
        simp only [Option.map_some, Option.getD_some, Bool.and_eq_true, beq_iff_eq] at h
        exact .inr ⟨i, List.mem_range.1 hi, x, hx, h.1.1, h.1.2, h.2⟩
  · have := allP_iff h7 i hi
    simp only [hx, hhx, Option.map_some, Option.getD_some, Bool.not_true, Bool.false_or] at this
    have := allP_iff this j hj
    simp only [hy, hhy, Option.map_some, Option.getD_some, Bool.false_or, Bool.or_eq_true, decide_eq_true_eq, List.contains_eq_mem] at this
    rcases this with ((h | h) | h) | h
    · exact .inl h
    · exact .inr (.inl h)
    · exact .inr (.inr (.inl h))
    · exact .inr (.inr (.inr h))

def frzO (d : DOper) : DOper := ⟨d.dst, d.op.frz, d.guard⟩
def purO (d : DOper) : DOper := ⟨d.dst, d.op.pur, d.guard⟩

/-- A region that is drawn, made small: only where its text's order stands for all (the literal slices living, else frozen). -/
def cDraw (P : Program) (ops : Array Oper) : Option (List DDOp) :=
  match cOps P ops ops.toList with
  | none => none
  | some l =>
    let M := masksFrom [] ops.toList
    let r := annot l M
    let r' := annot (l.map frzO) M
    if chk ops.toList r M && P.follows .mixedOrders then some r
    else if chk ops.toList r' M && P.follows .mixedOrders then some r'
    else
      let r2 := annot (l.map purO) M
      if chk ops.toList r2 M && P.follows .mixedOrders then some r2 else none

/-- The small operations of a region: as they are, or their literals frozen. -/
def Comp (P : Program) (ops : Array Oper) (dl : List DOper) : Prop := ∃ l, cOps P ops ops.toList = some l ∧ (dl = l ∨ dl = l.map frzO ∨ dl = l.map purO)

theorem annot_map (l : List DOper) (M : List Nat) : (annot l M).map (·.o) = l := by
  refine List.ext_getElem (by simp [annot]) fun i h1 h2 => ?_
  simp [annot, List.getD, h2]

theorem cDraw_spec {P : Program} {ops : Array Oper} {r : List DDOp} (h : cDraw P ops = some r) : Comp P ops (r.map (·.o)) ∧ Chk ops.toList r (masksFrom [] ops.toList) ∧ P.follows .mixedOrders = true := by
  unfold cDraw at h
  split at h
  · cases h
  · rename_i l hl
    simp only at h
    split at h
    · rename_i hc
      cases h
      simp only [Bool.and_eq_true] at hc
      rw [annot_map]
      exact ⟨⟨l, hl, .inl rfl⟩, chk_sound hc.1, hc.2⟩
    · split at h
      · rename_i hc
        cases h
        simp only [Bool.and_eq_true] at hc
        rw [annot_map]
        exact ⟨⟨l, hl, .inr (.inl rfl)⟩, chk_sound hc.1, hc.2⟩
      · split at h
        · rename_i hc
          cases h
          simp only [Bool.and_eq_true] at hc
          rw [annot_map]
          exact ⟨⟨l, hl, .inr (.inr rfl)⟩, chk_sound hc.1, hc.2⟩
        · cases h

section
variable {P : Program} {G : Nat → DV}

/-- What one operation did, in the text's order. -/
def DoF (P : Program) (G : Nat → DV) (d : DDOp) (t : List DV) (Hs : List (List Blk)) (h : List Blk) (v : DV) (h1 : List Blk) : Prop :=
  (isHeavy d.o = true → vcO P G d.o.op (Opd.ev G t) h (fun v1 h2 => v1 = v ∧ h2 = h1) ∧ (∀ m, m ∈ d.fr → HV (Hs.getD m []) h1)) ∧
  (isHeavy d.o = false → vcO P G d.o.op (Opd.ev G t) (Hs.getD d.a []) (fun v1 _ => v1 = v))
def StepF (P : Program) (G : Nat → DV) (d : DDOp) (t : List DV) (Hs : List (List Blk)) (h : List Blk) (v : DV) (Hs1 : List (List Blk)) (h1 : List Blk) : Prop :=
  (isHeavy d.o = true → Hs1 = Hs ++ [h1]) ∧ (isHeavy d.o = false → Hs1 = Hs ∧ h1 = h) ∧
  match d.o.guard with
  | none => DoF P G d t Hs h v h1
  | some (g, want) => (∃ b, t.getD g .any = .p (.bool b) ∧ (b = want → DoF P G d t Hs h v h1) ∧ (b ≠ want → v = .tup [] ∧ h1 = h)) ∨ (t.getD g .any = .tup [] ∧ v = .tup [] ∧ h1 = h)

inductive Trc (P : Program) (G : Nat → DV) : List DDOp → List DV → List (List Blk) → List Blk → List DV → List DV → List (List Blk) → List Blk → Prop
  | nil {t Hs h} : Trc P G [] t Hs h [] t Hs h
  | cons {d l t Hs h v Hs1 h1 vs t' Hs' h'} : StepF P G d t Hs h v Hs1 h1 → Trc P G l (putL t d.o.dst v) Hs1 h1 vs t' Hs' h' → Trc P G (d :: l) t Hs h (v :: vs) t' Hs' h'

theorem stepD_det {d : DDOp} (hdet : d.o.op.det = true) {t : List DV} {Hs : List (List Blk)} {h : List Blk} {K : DV → List (List Blk) → List Blk → Prop} (H : stepD P G d t Hs h K) :
    ∃ v Hs1 h1, (isHeavy d.o = true → Hs1 = Hs ++ [h1]) ∧ (isHeavy d.o = false → Hs1 = Hs ∧ h1 = h) ∧ DoF P G d t Hs h v h1 ∧ K v Hs1 h1 := by
  unfold stepD at H
  split at H
  · rename_i hh
    obtain ⟨v, h', h1, h2, h3⟩ := vcO_det hdet H
    have hh' : isHeavy d.o = true := hh
    exact ⟨v, _, h', fun _ => rfl, fun h => absurd (hh'.symm.trans h) (by decide), ⟨fun _ => ⟨h1, h2⟩, fun h => absurd (hh'.symm.trans h) (by decide)⟩, h3⟩
  · rename_i hh
    obtain ⟨v, h', h1, h3⟩ := vcO_det hdet H
    have hh' : isHeavy d.o = false := by simpa [isHeavy] using hh
    exact ⟨v, _, h, fun h => absurd (hh'.symm.trans h) (by decide), fun _ => ⟨rfl, rfl⟩, ⟨fun h => absurd (hh'.symm.trans h) (by decide), fun _ => vcO_mono (fun v1 h1 hv => hv.1) h1⟩, h3⟩

theorem vcD_trace {K : List DV → List Blk → Prop} : ∀ (l : List DDOp) (t : List DV) (Hs : List (List Blk)) (h : List Blk), (∀ x, x ∈ l → x.o.op.det = true) → vcD P G l t Hs h K → ∃ vs t' Hs' h', Trc P G l t Hs h vs t' Hs' h' ∧ K t' h'
  | [], t, Hs, h, hdet, H => ⟨[], t, Hs, h, .nil, by rw [vcD] at H; exact H⟩
  | d :: l, t, Hs, h, hdet, H => by
    rw [vcD] at H
    have hdl : ∀ x, x ∈ l → x.o.op.det = true := fun x hx => hdet x (List.mem_cons_of_mem _ hx)
    have hd0 := hdet d List.mem_cons_self
    split at H
    · rename_i hg
      obtain ⟨v, Hs1, h1, g1, g2, g3, g4⟩ := stepD_det hd0 H
      obtain ⟨vs, t', Hs', h', g5, g6⟩ := vcD_trace l _ _ _ hdl g4
      exact ⟨v :: vs, t', Hs', h', .cons ⟨g1, g2, by rw [hg]; exact g3⟩ g5, g6⟩
    · rename_i g want hg
      split at H
      · rename_i b hb
        by_cases hbw : b = want
        · rw [if_pos hbw] at H
          obtain ⟨v, Hs1, h1, g1, g2, g3, g4⟩ := stepD_det hd0 H
          obtain ⟨vs, t', Hs', h', g5, g6⟩ := vcD_trace l _ _ _ hdl g4
          exact ⟨v :: vs, t', Hs', h', .cons ⟨g1, g2, by rw [hg]; exact .inl ⟨b, hb, fun _ => g3, fun h => (h hbw).elim⟩⟩ g5, g6⟩
        · rw [if_neg hbw] at H
          obtain ⟨vs, t', Hs', h', g5, g6⟩ := vcD_trace l _ _ _ hdl H
          refine ⟨.tup [] :: vs, t', Hs', h', .cons (Hs1 := if d.o.op.heavy = true then Hs ++ [h] else Hs) (h1 := h) ⟨fun hh => ?_, fun hh => ?_, by rw [hg]; exact .inl ⟨b, hb, fun h => (hbw h).elim, fun _ => ⟨rfl, rfl⟩⟩⟩ g5, g6⟩
          · have : d.o.op.heavy = true := hh
            rw [if_pos this]
          · have : d.o.op.heavy = false := hh
            rw [if_neg (by rw [this]; decide)]
            exact ⟨rfl, rfl⟩
      · rename_i hb
        obtain ⟨vs, t', Hs', h', g5, g6⟩ := vcD_trace l _ _ _ hdl H
        refine ⟨.tup [] :: vs, t', Hs', h', .cons (Hs1 := if d.o.op.heavy = true then Hs ++ [h] else Hs) (h1 := h) ⟨fun hh => ?_, fun hh => ?_, by rw [hg]; exact .inr ⟨hb, rfl, rfl⟩⟩ g5, g6⟩
        · have : d.o.op.heavy = true := hh
          rw [if_pos this]
        · have : d.o.op.heavy = false := hh
          rw [if_neg (by rw [this]; decide)]
          exact ⟨rfl, rfl⟩
      · exact H.elim

/-- The slots, where some of the operations were run. -/
def putD (D : Nat → Bool) : Nat → List DDOp → List DV → List DV → List DV
  | i, d :: l, v :: vs, t => putD D (i + 1) l vs (if D i = true then putL t d.o.dst v else t)
  | _, _, _, t => t

theorem putL_length (t : List DV) (dst : Option Nat) (v : DV) : (putL t dst v).length = t.length := by cases dst <;> simp [putL]
theorem putD_length (D : Nat → Bool) : ∀ (i : Nat) (l : List DDOp) (vs t : List DV), (putD D i l vs t).length = t.length
  | i, d :: l, v :: vs, t => by rw [putD, putD_length D]; split <;> simp [putL_length]
  | _, [], _, _ => by simp [putD]
  | _, _ :: _, [], _ => by simp [putD]
theorem putL_get {t : List DV} {dst : Option Nat} {v : DV} {x : Nat} (hx : dst ≠ some x) : (putL t dst v).getD x .any = t.getD x .any := by
  cases dst with
  | none => rfl
  | some d =>
    have : d ≠ x := fun h => hx (by rw [h])
    simp [putL, List.getD, List.getElem?_set_ne this]
theorem putL_same {t : List DV} {v : DV} {x : Nat} (hx : x < t.length) : (putL t (some x) v).getD x .any = v := by
  simp [putL, List.getD, hx]

theorem putD_other (D : Nat → Bool) (x : Nat) : ∀ (i : Nat) (l : List DDOp) (vs t : List DV), (∀ j d, l[j]? = some d → d.o.dst = some x → D (i + j) = false) → (putD D i l vs t).getD x .any = t.getD x .any
  | i, d :: l, v :: vs, t, h => by
    rw [putD, putD_other D x (i + 1) l vs _ (fun j d' hd hx => by rw [show i + 1 + j = i + (j + 1) by omega]; exact h (j + 1) d' (by simpa using hd) hx)]
    split
    · rename_i hD
      refine putL_get fun hx => ?_
      have := h 0 d rfl hx
      rw [Nat.add_zero] at this
      rw [this] at hD; cases hD
    · rfl
  | _, [], _, _, _ => by simp [putD]
  | _, _ :: _, [], _, _ => by simp [putD]

theorem putD_one (D : Nat → Bool) (x : Nat) : ∀ (i : Nat) (l : List DDOp) (vs t : List DV), vs.length = l.length → x < t.length → ∀ j d, l[j]? = some d → d.o.dst = some x → D (i + j) = true → (∀ j' d', l[j']? = some d' → d'.o.dst = some x → j' = j) → (putD D i l vs t).getD x .any = vs.getD j .any
  | i, d :: l, v :: vs, t, hl, hx, 0, d0, hd, hdx, hD, hu => by
    simp only [List.getElem?_cons_zero, Option.some.injEq] at hd
    subst hd
    rw [Nat.add_zero] at hD
    rw [putD, if_pos hD, putD_other D x (i + 1) l vs _ (fun j d' hd' hx' => by have := hu (j + 1) d' (by simpa using hd') hx'; omega), hdx, putL_same hx]
    rfl
  | i, d :: l, v :: vs, t, hl, hx, j + 1, d0, hd, hdx, hD, hu => by
    rw [putD, putD_one D x (i + 1) l vs _ (by simpa using hl) (by split <;> simpa [putL_length] using hx) j d0 (by simpa using hd) hdx (by rw [show i + 1 + j = i + (j + 1) by omega]; exact hD) (fun j' d' hd' hx' => by have := hu (j' + 1) d' (by simpa using hd') hx'; omega)]
    simp [List.getD]
  | _, [], _, _, _, _, j, _, hd, _, _, _ => by simp at hd
  | _, _ :: _, [], _, hl, _, _, _, _, _, _, _ => by simp at hl

theorem putD_none {D : Nat → Bool} : ∀ (i : Nat) (l : List DDOp) (vs t : List DV), (∀ j, i ≤ j → D j = false) → putD D i l vs t = t
  | i, d :: l, v :: vs, t, h => by rw [putD, if_neg (by rw [h i (Nat.le_refl _)]; decide)]; exact putD_none (i + 1) l vs t fun j hj => h j (by omega)
  | _, [], _, _, _ => by simp [putD]
  | _, _ :: _, [], _, _ => by simp [putD]

def cntD (l : List DDOp) (i : Nat) : Nat := cnt (l.map (·.o)) i
theorem cntD_zero (l : List DDOp) : cntD l 0 = 0 := by simp [cntD, cnt]
theorem cntD_succ (d : DDOp) (l : List DDOp) (i : Nat) : cntD (d :: l) (i + 1) = (if isHeavy d.o = true then 1 else 0) + cntD l i := by
  simp only [cntD, cnt, List.map_cons, List.take_succ_cons, List.countP_cons]
  omega

theorem Trc.at {l : List DDOp} {t : List DV} {Hs : List (List Blk)} {h : List Blk} {vs t' : List DV} {Hs' : List (List Blk)} {h' : List Blk} (H : Trc P G l t Hs h vs t' Hs' h') : ∀ (i0 : Nat) (Rs : List (List Blk)), Rs.length = Hs.length → (∃ X, Rs = X ++ [h]) → ∃ Rs',
    vs.length = l.length ∧ t' = putD (fun _ => true) i0 l vs t ∧ Hs <+: Hs' ∧ Hs'.length = Hs.length + cntD l l.length ∧ Rs <+: Rs' ∧ Rs'.length = Hs'.length ∧ (∃ X, Rs' = X ++ [h']) ∧ (∀ k, Hs.length ≤ k → Rs'[k]? = Hs'[k]?) ∧
    ∀ i d, l[i]? = some d → StepF P G d (putD (fun j => decide (j < i0 + i)) i0 l vs t) (Hs'.take (Hs.length + cntD l i)) (Rs'.getD (Hs.length - 1 + cntD l i) []) (vs.getD i .any) (Hs'.take (Hs.length + cntD l (i + 1))) (Rs'.getD (Hs.length - 1 + cntD l (i + 1)) []) := by
  induction H with
  | nil =>
    intro i0 Rs hlR hX
    exact ⟨Rs, rfl, by simp [putD], List.prefix_refl _, by simp [cntD, cnt], List.prefix_refl _, hlR, hX, fun k hk => by rw [List.getElem?_eq_none (by omega), List.getElem?_eq_none hk], fun i d hi => by simp at hi⟩
  | @cons d l t Hs h v Hs1 h1 vs t' Hs' h' hs ht ih =>
    intro i0 Rs hlR hX
    have hX1 : ∃ X, (if isHeavy d.o = true then Rs ++ [h1] else Rs) = X ++ [h1] := by
      cases hh : isHeavy d.o with
      | true => exact ⟨Rs, by simp⟩
      | false => obtain ⟨g1, g2⟩ := hs.2.1 hh; rw [g2]; simpa using hX
    have hl1 : Hs1.length = Hs.length + (if isHeavy d.o = true then 1 else 0) := by
      cases hh : isHeavy d.o with
      | true => rw [hs.1 hh]; simp
      | false => rw [(hs.2.1 hh).1]; simp
    have hlR1 : (if isHeavy d.o = true then Rs ++ [h1] else Rs).length = Hs1.length := by
      rw [hl1]
      split <;> simp [hlR]
    have hp1 : Hs <+: Hs1 := by
      cases hh : isHeavy d.o with
      | true => rw [hs.1 hh]; exact List.prefix_append _ _
      | false => rw [(hs.2.1 hh).1]; exact List.prefix_refl _
    have hpR1 : Rs <+: (if isHeavy d.o = true then Rs ++ [h1] else Rs) := by
      split
      · exact List.prefix_append _ _
      · exact List.prefix_refl _
    obtain ⟨Rs', g1, g2, g3, g4, g3R, g4R, g5, gk, g6⟩ := ih (i0 + 1) _ hlR1 hX1
    have hlen : Hs.length ≠ 0 := by obtain ⟨X, hX⟩ := hX; rw [← hlR, hX]; simp
    have lastOf : ∀ {A B : List (List Blk)} {y : List Blk}, (∃ X, A = X ++ [y]) → A <+: B → B.getD (A.length - 1) [] = y := by
      intro A B y ⟨X, hA⟩ ⟨Y, hB⟩
      rw [← hB, hA]
      simp [List.getD]
    refine ⟨Rs', by simp [g1], by rw [g2]; simp [putD], hp1.trans g3, by rw [g4, hl1, List.length_cons, cntD_succ]; try omega, hpR1.trans g3R, g4R, g5, fun k hk => ?_, fun i d' hi => ?_⟩
    · by_cases hk1 : Hs1.length ≤ k
      · exact gk k hk1
      · cases hh : isHeavy d.o with
        | false => rw [hh] at hl1; simp at hl1; omega
        | true =>
          rw [hh] at hl1
          simp at hl1
          obtain rfl : k = Hs.length := by omega
          obtain ⟨Y, hY⟩ := g3R
          obtain ⟨Z, hZ⟩ := g3
          rw [hh] at hY
          rw [← hY, ← hZ, hs.1 hh]
          simp [hlR]
    cases i with
    | zero =>
      simp only [List.getElem?_cons_zero, Option.some.injEq] at hi
      subst hi
      rw [putD_none _ _ _ _ (fun j hj => by simp; omega), cntD_zero, cntD_succ, cntD_zero, Nat.add_zero, Nat.add_zero, Nat.add_zero]
      have e1 : Hs'.take Hs.length = Hs := (List.prefix_iff_eq_take.1 (hp1.trans g3)).symm
      have e2 : Hs'.take (Hs.length + (if isHeavy d.o = true then 1 else 0)) = Hs1 := by rw [← hl1]; exact (List.prefix_iff_eq_take.1 g3).symm
      have e3 : Rs'.getD (Hs.length - 1) [] = h := by rw [← hlR]; exact lastOf hX (hpR1.trans g3R)
      have e4 : Rs'.getD (Hs.length - 1 + (if isHeavy d.o = true then 1 else 0)) [] = h1 := by
        have := lastOf hX1 g3R
        rw [hlR1, hl1] at this
        rw [show Hs.length - 1 + (if isHeavy d.o = true then 1 else 0) = Hs.length + (if isHeavy d.o = true then 1 else 0) - 1 by omega]
        exact this
      rw [e1, e2, e3, e4]
      exact hs
    | succ i =>
      have := g6 i d' (by simpa using hi)
      have e1 : putD (fun j => decide (j < i0 + 1 + i)) (i0 + 1) l vs (putL t d.o.dst v) = putD (fun j => decide (j < i0 + (i + 1))) i0 (d :: l) (v :: vs) t := by
        rw [putD, if_pos (by simp)]
        congr 1
        funext j
        simp only [decide_eq_decide]
        try omega
      rw [e1, hl1] at this
      rw [cntD_succ, cntD_succ]
      simp only [List.getD_cons_succ]
      rw [show Hs.length + ((if isHeavy d.o = true then 1 else 0) + cntD l i) = Hs.length + (if isHeavy d.o = true then 1 else 0) + cntD l i by omega,
        show Hs.length + ((if isHeavy d.o = true then 1 else 0) + cntD l (i + 1)) = Hs.length + (if isHeavy d.o = true then 1 else 0) + cntD l (i + 1) by omega,
        show Hs.length - 1 + ((if isHeavy d.o = true then 1 else 0) + cntD l i) = Hs.length + (if isHeavy d.o = true then 1 else 0) - 1 + cntD l i by omega,
        show Hs.length - 1 + ((if isHeavy d.o = true then 1 else 0) + cntD l (i + 1)) = Hs.length + (if isHeavy d.o = true then 1 else 0) - 1 + cntD l (i + 1) by omega]
      exact this

/-! Counting. -/
theorem cntD_next (l : List DDOp) (i : Nat) (x : DDOp) (hx : l[i]? = some x) : cntD l (i + 1) = cntD l i + (if isHeavy x.o = true then 1 else 0) := by
  induction l generalizing i with
  | nil => simp at hx
  | cons d l ih =>
    cases i with
    | zero =>
      simp only [List.getElem?_cons_zero, Option.some.injEq] at hx
      subst hx
      rw [cntD_succ, cntD_zero, cntD_zero]
      omega
    | succ i =>
      rw [cntD_succ, cntD_succ, ih i (by simpa using hx)]
      omega
theorem cntD_mono (l : List DDOp) (i j : Nat) (h : i ≤ j) : cntD l i ≤ cntD l j := by
  simp only [cntD, cnt]
  exact List.Sublist.countP_le (List.take_sublist_take_left h)
theorem cntD_lt (l : List DDOp) (i j : Nat) (h : i < j) (x : DDOp) (hx : l[i]? = some x) (hh : isHeavy x.o = true) : cntD l i < cntD l j := by
  have h1 := cntD_next l i x hx
  have h2 := cntD_mono l (i + 1) j h
  rw [if_pos hh] at h1
  omega
theorem cntD_last (l : List DDOp) : ∀ i, i ≤ l.length → cntD l i = 0 ∨ ∃ j x, j < i ∧ l[j]? = some x ∧ isHeavy x.o = true ∧ cntD l j + 1 = cntD l i
  | 0, _ => .inl (cntD_zero l)
  | i + 1, hi => by
    have hx : l[i]? = some l[i] := List.getElem?_eq_getElem (by omega)
    have h1 := cntD_next l i _ hx
    cases hh : isHeavy l[i].o with
    | true => rw [if_pos hh] at h1; exact .inr ⟨i, _, by omega, hx, hh, h1.symm⟩
    | false =>
      rw [if_neg (by rw [hh]; decide), Nat.add_zero] at h1
      rcases cntD_last l i (by omega) with h | ⟨j, x, h2, h3, h4, h5⟩
      · exact .inl (by rw [h1]; exact h)
      · exact .inr ⟨j, x, by omega, h3, h4, by rw [h1]; exact h5⟩
theorem cntD_find (l : List DDOp) (m : Nat) : ∀ i, i ≤ l.length → m < cntD l i → ∃ j x, j < i ∧ l[j]? = some x ∧ isHeavy x.o = true ∧ cntD l j = m
  | 0, _, h => by rw [cntD_zero] at h; omega
  | i + 1, hi, h => by
    have hx : l[i]? = some l[i] := List.getElem?_eq_getElem (by omega)
    have h1 := cntD_next l i _ hx
    by_cases hm : m < cntD l i
    · obtain ⟨j, x, h2, h3⟩ := cntD_find l m i (by omega) hm
      exact ⟨j, x, by omega, h3⟩
    · cases hh : isHeavy l[i].o with
      | true => rw [if_pos hh] at h1; exact ⟨i, _, by omega, hx, hh, by omega⟩
      | false => rw [if_neg (by rw [hh]; decide)] at h1; omega

/-! What comes ahead. -/
theorem mask_fold (m : List Nat) : ∀ (ds : List Nat) (s x : Nat), (ds.foldl (fun s d => s ||| (2 ^ d ||| m.getD d 0)) s).testBit x = true → s.testBit x = true ∨ ∃ d, d ∈ ds ∧ (d = x ∨ (m.getD d 0).testBit x = true)
  | [], s, x, h => .inl h
  | d :: ds, s, x, h => by
    rw [List.foldl_cons] at h
    rcases mask_fold m ds _ x h with h | ⟨d', h1, h2⟩
    · rw [Nat.testBit_or, Nat.testBit_or, Bool.or_eq_true, Bool.or_eq_true] at h
      rcases h with h | h | h
      · exact .inl h
      · rw [Nat.testBit_two_pow] at h
        exact .inr ⟨d, List.mem_cons_self, .inl (by simpa using h)⟩
      · exact .inr ⟨d, List.mem_cons_self, .inr h⟩
    · exact .inr ⟨d', List.mem_cons_of_mem _ h1, h2⟩
theorem mask_spec {M : List Nat} {o : Oper} {x : Nat} (h : (maskOf M o).testBit x = true) : ∃ d, d ∈ depsOf o ∧ (d = x ∨ (M.getD d 0).testBit x = true) := by
  rcases mask_fold M (depsOf o) 0 x h with h | h
  · simp at h
  · exact h

theorem mask_in {ops : List Oper} {l : List DDOp} {M : List Nat} (C : Chk ops l M) {D : Nat → Bool} (hc : ∀ i, D i = true → i < ops.length ∧ ∀ o, ops[i]? = some o → ∀ d, d ∈ depsOf o → D d = true) :
    ∀ (j : Nat), D j = true → ∀ x, (M.getD j 0).testBit x = true → D x = true := by
  intro j
  induction j using Nat.strongRecOn with
  | _ j ih =>
    intro hj x hx
    obtain ⟨h1, h2⟩ := hc j hj
    have ho : ops[j]? = some ops[j] := List.getElem?_eq_getElem h1
    rw [C.mask j h1 _ ho] at hx
    obtain ⟨d, h3, h4⟩ := mask_spec hx
    have hd := h2 _ ho d h3
    rcases h4 with rfl | h4
    · exact hd
    · exact ih d (C.deps j h1 _ ho d h3) hd x h4
theorem mask_ready {ops : List Oper} {l : List DDOp} {M : List Nat} (C : Chk ops l M) {D : Nat → Bool} (hc : ∀ i, D i = true → i < ops.length ∧ ∀ o, ops[i]? = some o → ∀ d, d ∈ depsOf o → D d = true)
    {j : Nat} {o : Oper} (hj : j < ops.length) (ho : ops[j]? = some o) (hd : ∀ d, d ∈ depsOf o → D d = true) {x : Nat} (hx : (M.getD j 0).testBit x = true) : D x = true := by
  rw [C.mask j hj _ ho] at hx
  obtain ⟨d, h3, h4⟩ := mask_spec hx
  rcases h4 with rfl | h4
  · exact hd _ h3
  · exact mask_in C hc d (hd d h3) x h4
theorem mask_lt {ops : List Oper} {l : List DDOp} {M : List Nat} (C : Chk ops l M) : ∀ (j : Nat), j < ops.length → ∀ x, (M.getD j 0).testBit x = true → x < j := by
  intro j
  induction j using Nat.strongRecOn with
  | _ j ih =>
    intro hj x hx
    have ho : ops[j]? = some ops[j] := List.getElem?_eq_getElem hj
    rw [C.mask j hj _ ho] at hx
    obtain ⟨d, h3, h4⟩ := mask_spec hx
    have hd := C.deps j hj _ ho d h3
    rcases h4 with rfl | h4
    · exact hd
    · have := ih d hd (by omega) x h4
      omega

theorem cOps_get {ops : Array Oper} : ∀ (l : List Oper) (dl : List DOper), cOps P ops l = some dl → dl.length = l.length ∧ ∀ (i : Nat) (o : Oper) (x : DOper), l[i]? = some o → dl[i]? = some x → cOper P ops o = some x
  | [], dl, h => by cases h; exact ⟨rfl, fun i o x h => by simp at h⟩
  | o :: l, dl, h => by
    simp only [cOps] at h
    cases hd : cOper P ops o with
    | none => rw [hd] at h; cases h
    | some d =>
    cases hrest : cOps P ops l with
    | none => rw [hd, hrest] at h; cases h
    | some dr =>
    rw [hd, hrest] at h
    cases h
    obtain ⟨h1, h2⟩ := cOps_get l dr hrest
    refine ⟨by simp [h1], fun i o' x ho hx => ?_⟩
    cases i with
    | zero => simp at ho hx; rw [← ho, ← hx]; exact hd
    | succ i => exact h2 i o' x (by simpa using ho) (by simpa using hx)

theorem list_ext_getD {a b : List DV} (hl : a.length = b.length) (h : ∀ x, x < a.length → a.getD x .any = b.getD x .any) : a = b := by
  refine List.ext_getElem hl fun x h1 h2 => ?_
  have := h x h1
  simpa [List.getD, h1, h2] using this

/-- One more operation was run. -/
theorem putD_more {l : List DDOp} {vs t : List DV} {D D' : Nat → Bool} (hv : vs.length = l.length) {i : Nat} {x : DDOp} (hx : l[i]? = some x) (hD : D i = false) (hD' : ∀ j, D' j = (D j || decide (j = i)))
    (hu : ∀ (j j' : Nat) (y y' : DDOp), l[j]? = some y → l[j']? = some y' → ∀ s, y.o.dst = some s → y'.o.dst = some s → j = j') : putL (putD D 0 l vs t) x.o.dst (vs.getD i .any) = putD D' 0 l vs t := by
  refine list_ext_getD (by simp [putL_length, putD_length]) fun s hs => ?_
  rw [putL_length, putD_length] at hs
  by_cases hxs : x.o.dst = some s
  · rw [hxs, putL_same (by rw [putD_length]; exact hs), putD_one D' s 0 l vs t hv hs i x hx hxs (by rw [Nat.zero_add, hD']; simp) (fun j' d' h1 h2 => hu j' i d' x h1 hx s h2 hxs)]
  · rw [putL_get hxs]
    by_cases hex : ∃ (j : Nat) (y : DDOp), l[j]? = some y ∧ y.o.dst = some s
    · obtain ⟨j, y, hy, hys⟩ := hex
      have hji : j ≠ i := fun h => by subst h; rw [hx] at hy; cases hy; exact hxs hys
      have hDj : D' j = D j := by rw [hD']; simp [hji]
      cases hj : D j with
      | true => rw [putD_one D s 0 l vs t hv hs j y hy hys (by rw [Nat.zero_add]; exact hj) (fun j' d' h1 h2 => hu j' j d' y h1 hy s h2 hys), putD_one D' s 0 l vs t hv hs j y hy hys (by rw [Nat.zero_add, hDj]; exact hj) (fun j' d' h1 h2 => hu j' j d' y h1 hy s h2 hys)]
      | false =>
        rw [putD_other D s 0 l vs t (fun j' d' h1 h2 => by rw [hu j' j d' y h1 hy s h2 hys, Nat.zero_add]; exact hj), putD_other D' s 0 l vs t (fun j' d' h1 h2 => by rw [hu j' j d' y h1 hy s h2 hys, Nat.zero_add, hDj]; exact hj)]
    · rw [putD_other D s 0 l vs t (fun j' d' h1 h2 => (hex ⟨j', d', h1, h2⟩).elim), putD_other D' s 0 l vs t (fun j' d' h1 h2 => (hex ⟨j', d', h1, h2⟩).elim)]

theorem putD_congr {D D' : Nat → Bool} : ∀ (i : Nat) (l : List DDOp) (vs t : List DV), (∀ j, j < l.length → D (i + j) = D' (i + j)) → putD D i l vs t = putD D' i l vs t
  | i, d :: l, v :: vs, t, h => by
    rw [putD, putD, show D i = D' i from h 0 (by simp)]
    exact putD_congr (i + 1) l vs _ fun j hj => by have := h (j + 1) (by simpa using hj); rw [show i + 1 + j = i + (j + 1) by omega]; exact this
  | _, [], _, _, _ => by simp [putD]
  | _, _ :: _, [], _, _ => by simp [putD]


/-- An operation as it is, or its literal frozen. -/
def cOpR (P : Program) (o : Oper) (d : DO) : Prop := d = cOpS P o ∨ d = (cOpS P o).frz ∨ d = (cOpS P o).pur
theorem opR {o : Oper} {x x0 : DOper} (h0 : x0.op = cOpS P o) (hx : x = x0 ∨ x = frzO x0 ∨ x = purO x0) : cOpR P o x.op := by
  rcases hx with hx | hx | hx
  · exact .inl (by rw [hx, h0])
  · exact .inr (.inl (by rw [hx, ← h0]; rfl))
  · exact .inr (.inr (by rw [hx, ← h0]; rfl))
/-- A call that leaves the memory as it is, is a call. -/
theorem vcO_pur {d : DO} {ev : Opd → DV} {h : List Blk} {K : DV → List Blk → Prop} (H : vcO P G d.pur ev h K) : vcO P G d ev h K := by
  cases d <;> first | exact H | skip
  rename_i f args
  obtain ⟨v, h1, h2⟩ := H
  exact ⟨v, h, h1 h (HV.refl h), h2⟩
theorem sound_opS {e : Env} {w : World} {t : List DV} {a : Act} {K : DV → List Blk → Prop} {o : Oper} (hg : GR e G) (ht : TR e t a.tmps) (hH : e.H = w.heap) (hr : HR e) (h : vcO P G (cOpS P o) (Opd.ev G t) e.h K) : Yields P (execOp a.eval o) w (After e w K) := by
  unfold cOpS at h
  cases hc : cOp P o with
  | none => rw [hc] at h; exact h.elim
  | some d => rw [hc] at h; exact sound_op hc hg ht hH hr h
theorem sound_oprS {e : Env} {w : World} {t : List DV} {a : Act} {K : DV → List Blk → Prop} {o : Oper} (hg : GR e G) (ht : TR e t a.tmps) (hH : e.H = w.heap) (hr : HR e) (h : vcO P G (cOpS P o).rel (Opd.ev G t) e.h K) : Yields P (execOp a.eval o) w (After e w K) := by
  unfold cOpS at h
  cases hc : cOp P o with
  | none => rw [hc] at h; exact h.elim
  | some d => rw [hc] at h; exact sound_opr hc hg ht hH hr h
theorem sound_opR {e : Env} {w : World} {t : List DV} {a : Act} {K : DV → List Blk → Prop} {o : Oper} {d : DO} (hc : cOpR P o d) (hg : GR e G) (ht : TR e t a.tmps) (hH : e.H = w.heap) (hr : HR e) (h : vcO P G d (Opd.ev G t) e.h K) : Yields P (execOp a.eval o) w (After e w K) := by
  rcases hc with rfl | rfl | rfl
  · exact sound_opS hg ht hH hr h
  rotate_left
  · exact sound_opS hg ht hH hr (vcO_pur h)
  · unfold cOpS at h
    cases h0 : cOp P o with
    | none => rw [h0] at h; exact h.elim
    | some d0 =>
      rw [h0] at h
      simp only [Option.getD_some] at h
      cases d0 <;> first | exact sound_op h0 hg ht hH hr h | skip
      rename_i sz els
      exact sound_litz h0 hg ht hH hr h

/-- A state, since the call began. -/
structure RelE (G : Nat → DV) (D : List Deferred) (n : Nat) (e0 : Env) (w0 : World) (e : Env) (s : St) (a : Act) (w : World) : Prop where
  r : RelS G D e s a w
  ev : Ev n e0 e
  ws : WS w0 w
  le : n ≤ e0.h.length

variable {D : List Deferred}
theorem RelE.step {n : Nat} {e0 : Env} {w0 : World} {e : Env} {s : St} {a : Act} {w : World} (h : RelE G D n e0 w0 e s a w) {e' : Env} {d : DV} {v : Value} {w' : World} (hH : e'.H = w'.heap) (hw : WS w w') (hr : HR e') (ev : Ev e.h.length e e') (hv : VR e' d v) (dst : Option Nat) :
    RelE G D n e0 w0 e' (s.put dst d e'.h) (a.put dst v) w' := by
  refine ⟨⟨by cases dst <;> rfl, hH, hr, h.r.gr.mono ev, (h.r.tr.mono ev).put dst hv _, ?_⟩, h.ev.trans ev (h.ev.len), h.ws.trans hw, h.le⟩
  cases dst <;> exact h.r.df

theorem guard_yielded {t : List DV} {a : Act} {e : Env} (ht : TR e t a.tmps) {ops : Array Oper} {j g : Nat} (hg : (ops[j]?).bind (·.dst) = some g) {b : Bool} (hb : t.getD g .any = .p (.bool b)) : yielded ops a.tmps j = some b := by
  unfold yielded
  rw [hg]
  simp only [Option.bind_some]
  by_cases h : g < t.length
  · have := ht.2 g h (ht.1 ▸ h)
    rw [show t.getD g .any = t[g] by simp [List.getD, h]] at hb
    rw [hb] at this
    have hv := (vr_p this).1
    rw [Array.getElem?_eq_getElem (ht.1 ▸ h), hv]
  · simp [List.getD, List.getElem?_eq_none (Nat.le_of_not_lt h)] at hb


theorem vr_undef {e : Env} : VR e (.tup []) undef := .tup rfl (fun i hi => absurd hi (by simp))
theorem guard_none {t : List DV} {a : Act} {e : Env} (ht : TR e t a.tmps) {ops : Array Oper} {j g : Nat} (hg : (ops[j]?).bind (·.dst) = some g) (hb : t.getD g .any = .tup []) : yielded ops a.tmps j = none := by
  unfold yielded
  rw [hg]
  simp only [Option.bind_some]
  by_cases h : g < t.length
  · have := ht.2 g h (ht.1 ▸ h)
    rw [show t.getD g .any = t[g] by simp [List.getD, h]] at hb
    rw [hb] at this
    obtain ⟨us, hv, hl, _⟩ := vr_tup this
    rw [Array.getElem?_eq_getElem (ht.1 ▸ h), hv]
  · simp [List.getD, List.getElem?_eq_none (Nat.le_of_not_lt h)] at hb

def DL (listed : Array Bool) (i : Nat) : Bool := listed.getD i false

/-- How it stands, somewhere on the way. -/
structure Mid (P : Program) (G : Nat → DV) (D : List Deferred) (n : Nat) (e0 : Env) (w0 : World) (ops : List Oper) (l : List DDOp) (vs t0 : List DV) (Hf : Nat → List Blk) (listed : Array Bool) (k : Nat) (e : Env) (a : Act) (w : World) : Prop where
  size : listed.size = ops.length
  closed : ∀ i, DL listed i = true → ∀ o, ops[i]? = some o → ∀ d, d ∈ depsOf o → DL listed d = true
  hk : ∀ i x, l[i]? = some x → isHeavy x.o = true → (DL listed i = true ↔ cntD l i < k)
  kle : k ≤ cntD l l.length
  rel : RelE G D n e0 w0 e ⟨putD (DL listed) 0 l vs t0, Hf k⟩ a w

theorem DL_set {listed : Array Bool} {i : Nat} (hi : i < listed.size) (j : Nat) : DL (listed.setIfInBounds i true) j = (DL listed j || decide (j = i)) := by
  unfold DL
  simp only [Array.getD_eq_getD_getElem?]
  by_cases h : i = j
  · subst h
    simp [Array.getElem?_setIfInBounds_self_of_lt hi]
  · rw [Array.getElem?_setIfInBounds_ne h]
    have : ¬ j = i := fun e => h e.symm
    simp [this]

theorem ready_spec {ops : Array Oper} {listed : Array Bool} {i : Nat} (hs : listed.size = ops.size) (h : i ∈ Region.ready .any ops listed) : i < ops.size ∧ DL listed i = false ∧ ∀ o, ops[i]? = some o → ∀ d, d ∈ depsOf o → DL listed d = true := by
  simp only [Region.ready, List.mem_filter, List.mem_range, Bool.and_eq_true, Bool.not_eq_true'] at h
  obtain ⟨h1, h2, h3⟩ := h
  refine ⟨h1, ?_, fun o ho d hd => ?_⟩
  · unfold DL
    rw [Array.getD_eq_getD_getElem?] at h2 ⊢
    rw [Array.getElem?_eq_getElem (by omega)] at h2 ⊢
    simpa using h2
  · rw [ho] at h3
    simp only [Option.map_some, Option.getD_some, Array.all_eq_true_iff_forall_mem, Bool.or_eq_true, Bool.not_eq_true'] at h3
    simp only [depsOf, List.mem_map, List.mem_filter, Array.mem_toList_iff] at hd
    obtain ⟨e, ⟨he1, he2⟩, rfl⟩ := hd
    rcases h3 e he1 with h | h
    · rw [h] at he2; cases he2
    · exact h

theorem ready_nil {ops : Array Oper} {l : List DDOp} {M : List Nat} (C : Chk ops.toList l M) {listed : Array Bool} (hs : listed.size = ops.size) (h : Region.ready .any ops listed = []) : ∀ i, i < ops.size → DL listed i = true := by
  intro i
  induction i using Nat.strongRecOn with
  | _ i ih =>
    intro hi
    cases hD : DL listed i with
    | true => rfl
    | false =>
      have : i ∈ Region.ready .any ops listed := by
        simp only [Region.ready, List.mem_filter, List.mem_range, Bool.and_eq_true, Bool.not_eq_true']
        have ho : ops[i]? = some ops[i] := Array.getElem?_eq_getElem hi
        have ho' : ops.toList[i]? = some ops[i] := by simpa using ho
        refine ⟨hi, ?_, ?_⟩
        · unfold DL at hD
          rw [Array.getD_eq_getD_getElem?] at hD ⊢
          rw [Array.getElem?_eq_getElem (by omega)] at hD ⊢
          simpa using hD
        · rw [ho]
          simp only [Option.map_some, Option.getD_some, Array.all_eq_true_iff_forall_mem, Bool.or_eq_true, Bool.not_eq_true']
          intro e he
          cases hb : Region.binds .any e with
          | false => exact .inl rfl
          | true =>
            have hd : e.on ∈ depsOf ops[i] := by
              simp only [depsOf, List.mem_map, List.mem_filter, Array.mem_toList_iff]
              exact ⟨e, ⟨he, hb⟩, rfl⟩
            have hlt := C.deps i (by simpa using hi) _ ho' _ hd
            exact .inr (ih e.on hlt (by omega))
      rw [h] at this
      cases this

/-- How many are still to be run. -/
def left (n : Nat) (listed : Array Bool) : Nat := ((List.range n).filter fun i => !DL listed i).length
theorem left_lt {n : Nat} {listed : Array Bool} {i : Nat} (hs : listed.size = n) (hi : i < n) (hD : DL listed i = false) : left n (listed.setIfInBounds i true) < left n listed := by
  unfold left
  have : (List.range n).filter (fun j => !DL (listed.setIfInBounds i true) j) = ((List.range n).filter fun j => !DL listed j).filter fun j => decide (j ≠ i) := by
    rw [List.filter_filter]
    refine List.filter_congr fun j _ => ?_
    rw [DL_set (by omega)]
    by_cases h : j = i <;> simp [h]
  rw [this]
  exact List.length_filter_lt_length_iff_exists.2 ⟨i, by simp [hi, hD], by simp⟩
theorem left_zero {n : Nat} {listed : Array Bool} (h : left n listed = 0) : ∀ i, i < n → DL listed i = true := by
  intro i hi
  unfold left at h
  rw [List.length_eq_zero_iff, List.filter_eq_nil_iff] at h
  have := h i (List.mem_range.2 hi)
  simpa using this


section
variable {n : Nat} {e0 : Env} {w0 : World} {ops : Array Oper} {l : List DDOp} {M : List Nat} {vs t0 : List DV} {Hs Rs : List (List Blk)}

def Facts (P : Program) (G : Nat → DV) (l : List DDOp) (vs t0 : List DV) (Hs Rs : List (List Blk)) : Prop :=
  ∀ i d, l[i]? = some d → StepF P G d (putD (fun j => decide (j < i)) 0 l vs t0) (Hs.take (1 + cntD l i)) (Rs.getD (cntD l i) []) (vs.getD i .any) (Hs.take (1 + cntD l (i + 1))) (Rs.getD (cntD l (i + 1)) [])

theorem uniq_dst (C : Chk ops.toList l M) : ∀ (j j' : Nat) (y y' : DDOp), l[j]? = some y → l[j']? = some y' → ∀ s, y.o.dst = some s → y'.o.dst = some s → j = j' := by
  intro j j' y y' h1 h2 s h3 h4
  by_cases h : j = j'
  · exact h
  · have hj : j < l.length := (List.getElem?_eq_some_iff.1 h1).1
    have hj' : j' < l.length := (List.getElem?_eq_some_iff.1 h2).1
    exact ((C.dst j hj j' hj' y y' h1 h2 s h3).1 h h4).elim

theorem mid_closed {listed : Array Bool} {k : Nat} {e : Env} {a : Act} {w : World} (m : Mid P G D n e0 w0 ops.toList l vs t0 (fun k => Hs.getD k []) listed k e a w) :
    ∀ i, DL listed i = true → i < ops.toList.length ∧ ∀ o, ops.toList[i]? = some o → ∀ d, d ∈ depsOf o → DL listed d = true := by
  intro i hi
  refine ⟨?_, m.closed i hi⟩
  rw [← m.size]
  unfold DL at hi
  rw [Array.getD_eq_getD_getElem?] at hi
  rcases Nat.lt_or_ge i listed.size with h | h
  · exact h
  · rw [Array.getElem?_eq_none h] at hi; cases hi

theorem slots_eq (C : Chk ops.toList l M) (hv : vs.length = l.length) {D : Nat → Bool} {i : Nat} {x : DDOp} (hx : l[i]? = some x) (hD : D i = false) (hin : ∀ j, (M.getD i 0).testBit j = true → D j = true ∧ j < i) (hout : ∀ j, j < l.length → (M.getD j 0).testBit i = true → D j = false ∧ i < j) {s : Nat} (hs : s ∈ looks x.o) :
    (putD D 0 l vs t0).getD s .any = (putD (fun j => decide (j < i)) 0 l vs t0).getD s .any := by
  by_cases hlt : s < t0.length
  · by_cases hex : ∃ (j : Nat) (y : DDOp), l[j]? = some y ∧ y.o.dst = some s
    · obtain ⟨j, y, hy, hys⟩ := hex
      have hj : j < l.length := (List.getElem?_eq_some_iff.1 hy).1
      have hi : i < l.length := (List.getElem?_eq_some_iff.1 hx).1
      have u : ∀ j' d', l[j']? = some d' → d'.o.dst = some s → j' = j := fun j' d' h1 h2 => uniq_dst C j' j d' y h1 hy s h2 hys
      have both : ∀ b, D j = b → decide (j < i) = b → (putD D 0 l vs t0).getD s .any = (putD (fun j => decide (j < i)) 0 l vs t0).getD s .any := by
        intro b h1 h2
        cases b with
        | true => rw [putD_one D s 0 l vs t0 hv hlt j y hy hys (by rw [Nat.zero_add]; exact h1) u, putD_one _ s 0 l vs t0 hv hlt j y hy hys (by rw [Nat.zero_add]; exact h2) u]
        | false => rw [putD_other D s 0 l vs t0 (fun j' d' g1 g2 => by rw [u j' d' g1 g2, Nat.zero_add]; exact h1), putD_other _ s 0 l vs t0 (fun j' d' g1 g2 => by rw [u j' d' g1 g2, Nat.zero_add]; exact h2)]
      rcases (C.dst j hj i hi y x hy hx s hys).2 hs with h | h | h
      · subst h
        exact both false hD (by simp)
      · obtain ⟨h1, h2⟩ := hin j h
        exact both true h1 (by simp [h2])
      · obtain ⟨h1, h2⟩ := hout j hj h
        exact both false h1 (by simp; omega)
    · rw [putD_other D s 0 l vs t0 (fun j' d' h1 h2 => (hex ⟨j', d', h1, h2⟩).elim), putD_other _ s 0 l vs t0 (fun j' d' h1 h2 => (hex ⟨j', d', h1, h2⟩).elim)]
  · have hn : ∀ D', (putD D' 0 l vs t0).getD s .any = .any := fun D' => by simp [List.getD, List.getElem?_eq_none (show (putD D' 0 l vs t0).length ≤ s by rw [putD_length]; omega)]
    rw [hn, hn]

theorem drawn_step (C : Chk ops.toList l M) (hco : Comp P ops (l.map (·.o))) (hv : vs.length = l.length) (hF : Facts P G l vs t0 Hs Rs) (hVR : ∀ k, k ≤ cntD l l.length → HV (Hs.getD k []) (Rs.getD k [])) {Q : Exit → Act → World → Prop} {Kk : Act → World → Prop}
    {listed : Array Bool} {k : Nat} {e : Env} {a : Act} {w : World} (m : Mid P G D n e0 w0 ops.toList l vs t0 (fun k => Rs.getD k []) listed k e a w) {i : Nat} (hi : i ∈ Region.ready .any ops listed)
    (hK : ∀ k' e' a' w', Mid P G D n e0 w0 ops.toList l vs t0 (fun k => Rs.getD k []) (listed.setIfInBounds i true) k' e' a' w' → Kk a' w') : wpOp P ops Q i Kk a w := by
  have hsz : listed.size = ops.size := by rw [m.size]; simp
  obtain ⟨h1, hDi, hdeps⟩ := ready_spec hsz hi
  have ho : ops[i]? = some ops[i] := Array.getElem?_eq_getElem h1
  have ho' : ops.toList[i]? = some ops[i] := by simpa using ho
  generalize ops[i] = o at ho ho'
  have hil : i < l.length := by rw [C.len]; simpa using h1
  have hx : l[i]? = some l[i] := List.getElem?_eq_getElem hil
  generalize l[i] = x at hx
  have hcl := mid_closed m
  obtain ⟨x0, hcO, hx0⟩ : ∃ x0, cOper P ops o = some x0 ∧ (x.o = x0 ∨ x.o = frzO x0 ∨ x.o = purO x0) := by
    obtain ⟨l0, q1, q2⟩ := hco
    have hlen := (cOps_get ops.toList _ q1).1
    have hx0 : l0[i]? = some (l0[i]'(by rw [hlen]; simpa using h1)) := List.getElem?_eq_getElem _
    refine ⟨_, (cOps_get ops.toList _ q1).2 i o _ ho' hx0, ?_⟩
    rcases q2 with q2 | q2 | q2
    · have : (l.map (·.o))[i]? = some x.o := by simp [hx]
      rw [q2, hx0] at this
      exact .inl (by simpa using this.symm)
    · have : (l.map (·.o))[i]? = some x.o := by simp [hx]
      rw [q2, List.getElem?_map, hx0] at this
      exact .inr (.inl (by simpa using this.symm))
    · have : (l.map (·.o))[i]? = some x.o := by simp [hx]
      rw [q2, List.getElem?_map, hx0] at this
      exact .inr (.inr (by simpa using this.symm))
  have hxd : x.o.dst = x0.dst := by rcases hx0 with h | h | h <;> rw [h] <;> rfl
  have hxg : x.o.guard = x0.guard := by rcases hx0 with h | h | h <;> rw [h] <;> rfl
  have hin : ∀ j, (M.getD i 0).testBit j = true → DL listed j = true ∧ j < i := fun j hj => ⟨mask_ready C hcl (by simpa using h1) ho' (hdeps o ho) hj, mask_lt C i (by simpa using h1) j hj⟩
  have hout : ∀ j, j < l.length → (M.getD j 0).testBit i = true → DL listed j = false ∧ i < j := fun j hj hb => by
    refine ⟨?_, mask_lt C j (by rw [← C.len]; exact hj) i hb⟩
    cases hd : DL listed j with
    | false => rfl
    | true => have := mask_in C hcl j hd i hb; rw [hDi] at this; cases this
  have hsl : ∀ s, s ∈ looks x.o → (putD (DL listed) 0 l vs t0).getD s .any = (putD (fun j => decide (j < i)) 0 l vs t0).getD s .any := fun s hs => slots_eq C hv hx hDi hin hout hs
  have hev : ∀ z, z ∈ x.o.op.opds → Opd.ev G (putD (fun j => decide (j < i)) 0 l vs t0) z = Opd.ev G (putD (DL listed) 0 l vs t0) z := by
    intro z hz
    cases z with
    | t s =>
      simp only [Opd.ev]
      exact (hsl s (by simp only [looks, List.mem_append, List.mem_filterMap]; exact .inl ⟨.t s, hz, rfl⟩)).symm
    | c v => rfl
    | g q => rfl
  have hcn := cntD_next l i x hx
  -- the heap's number
  have hkge : cntD l i ≤ k ∨ isHeavy x.o = false := by
    cases hh : isHeavy x.o with
    | false => exact .inr rfl
    | true =>
      left
      rcases cntD_last l i (by omega) with h | ⟨j, y, g1, g2, g3, g4⟩
      · omega
      · have hb := C.heavy j (by omega) i hil y x g2 hx g1 g3 hh
        have := (m.hk j y g2 g3).1 (hin j hb).1
        omega
  have hkeq : isHeavy x.o = true → k = cntD l i := fun hh => by
    have h2 : ¬ cntD l i < k := fun h => by have := (m.hk i x hx hh).2 h; rw [hDi] at this; cases this
    rcases hkge with h | h
    · omega
    · rw [h] at hh; cases hh
  -- what follows
  have fin : ∀ (v : Value) (e' : Env) (w' : World) (hd : List Blk), e'.H = w'.heap → WS w w' → HR e' → Ev e.h.length e e' → VR e' (vs.getD i .any) v → e'.h = hd →
      (isHeavy x.o = true → hd = Rs.getD (cntD l (i + 1)) []) → (isHeavy x.o = false → hd = Rs.getD k []) → Kk (a.put o.dst v) w' := by
    intro v e' w' hd g1 g2 g3 g4 g5 g6 g7 g8
    have hdst : o.dst = x.o.dst := by
      rw [hxd]
      unfold cOper at hcO
      split at hcO
      · simp only [Option.some.injEq] at hcO; rw [← hcO]
      · split at hcO
        · simp only [Option.some.injEq] at hcO; rw [← hcO]
        · cases hcO
    have hs := m.rel.step g1 g2 g3 g4 g5 o.dst
    have hmore := putD_more (t := t0) hv hx hDi (fun j => DL_set (listed := listed) (by omega) j) (uniq_dst C)
    have est : (⟨putD (DL listed) 0 l vs t0, Rs.getD k []⟩ : St).put o.dst (vs.getD i .any) e'.h = ⟨putD (DL (listed.setIfInBounds i true)) 0 l vs t0, hd⟩ := by
      rw [← hmore, hdst, g6]
      cases x.o.dst <;> rfl
    rw [est] at hs
    have mk : ∀ k', hd = Rs.getD k' [] → (∀ j y, l[j]? = some y → isHeavy y.o = true → (DL (listed.setIfInBounds i true) j = true ↔ cntD l j < k')) → k' ≤ cntD l l.length → Kk (a.put o.dst v) w' := by
      intro k' q1 q2 q3
      refine hK k' e' _ _ ⟨by simp [m.size], fun j hj o' ho2 d hd' => ?_, q2, q3, by rw [q1] at hs; exact hs⟩
      rw [DL_set (by omega)] at hj ⊢
      simp only [Bool.or_eq_true, decide_eq_true_eq] at hj ⊢
      rcases hj with hj | hj
      · exact .inl (m.closed j hj o' ho2 d hd')
      · subst hj
        rw [ho'] at ho2
        cases ho2
        exact .inl (hdeps o ho d hd')
    cases hh : isHeavy x.o with
    | true =>
      rw [if_pos hh] at hcn
      have hk := hkeq hh
      refine mk (cntD l (i + 1)) (g7 hh) (fun j y hy hyh => ?_) (cntD_mono l _ _ hil)
      rw [DL_set (by omega)]
      simp only [Bool.or_eq_true, decide_eq_true_eq]
      rw [m.hk j y hy hyh]
      constructor
      · rintro (h | h)
        · omega
        · subst h; omega
      · intro h
        by_cases hji : j = i
        · exact .inr hji
        · left
          rcases Nat.lt_or_gt_of_ne hji with h2 | h2
          · have := cntD_lt l j i h2 y hy hyh; omega
          · have := cntD_lt l i j h2 x hx hh; omega
    | false =>
      refine mk k (g8 hh) (fun j y hy hyh => ?_) m.kle
      rw [DL_set (by omega)]
      simp only [Bool.or_eq_true, decide_eq_true_eq]
      rw [← m.hk j y hy hyh]
      constructor
      · rintro (h | h)
        · exact h
        · subst h; rw [hx] at hy; cases hy; rw [hh] at hyh; cases hyh
      · exact .inl
  obtain ⟨f1, f2, f3⟩ := hF i x hx
  have hpre : x.o.op.plain = false → isHeavy x.o = false → HV ((Hs.take (1 + cntD l i)).getD x.a []) (Rs.getD k []) := by
    intro hp hh
    by_cases ha : x.a < (Hs.take (1 + cntD l i)).length
    · have e1 : (Hs.take (1 + cntD l i)).getD x.a [] = Hs.getD x.a [] := by
        rw [List.length_take] at ha
        simp only [List.getD]
        rw [List.getElem?_take_of_lt (by omega)]
      rw [e1]
      have hak : x.a ≤ k := by
        rcases C.light i hil x hx hh with h | ⟨j, hj, y, hy, hyh, hb, hc⟩
        · omega
        · have := (m.hk j y hy hyh).1 (hin j hb).1
          simp only [cntD] at this
          omega
      have chain : ∀ q, x.a + q ≤ k → HV (Hs.getD x.a []) (Rs.getD (x.a + q) []) := by
        intro q
        induction q with
        | zero => intro hq; exact hVR _ (by have := m.kle; omega)
        | succ q ih =>
          intro hq
          have ih := ih (by omega)
          obtain ⟨j, y, hj, hy, hyh, hc⟩ := cntD_find l (x.a + q) l.length (Nat.le_refl _) (by have := m.kle; omega)
          have hDj : DL listed j = true := (m.hk j y hy hyh).2 (by omega)
          have hfr : x.a ∈ y.fr := by
            rcases C.free j hj i hil y x hy hx hyh hh with h | h | h | h
            · rw [hp] at h; cases h
            · exact h
            · have := (hout j hj h).1; rw [hDj] at this; cases this
            · simp only [cntD] at hc; omega
          have hcj := cntD_next l j y hy
          rw [if_pos hyh] at hcj
          obtain ⟨_, _, q3⟩ := hF j y hy
          have hsnap : (Hs.take (1 + cntD l j)).getD x.a [] = Hs.getD x.a [] := by
            simp only [List.getD]
            rw [List.getElem?_take_of_lt (by omega)]
          have hdo : ∀ {t v}, DoF P G y t (Hs.take (1 + cntD l j)) (Rs.getD (cntD l j) []) v (Rs.getD (cntD l (j + 1)) []) → HV (Hs.getD x.a []) (Rs.getD (x.a + (q + 1)) []) := by
            intro t v hd
            have := (hd.1 hyh).2 x.a hfr
            rw [hsnap, hcj, hc] at this
            exact this
          cases hg : y.o.guard with
          | none => rw [hg] at q3; exact hdo q3
          | some gp =>
            obtain ⟨g, want⟩ := gp
            rw [hg] at q3
            rcases q3 with ⟨b, _, q4, q5⟩ | ⟨_, _, q5⟩
            · by_cases hbw : b = want
              · exact hdo (q4 hbw)
              · have := (q5 hbw).2
                rw [hcj, hc] at this
                rw [show x.a + (q + 1) = x.a + q + 1 by omega, this]
                exact ih
            · rw [hcj, hc] at q5
              rw [show x.a + (q + 1) = x.a + q + 1 by omega, q5]
              exact ih
      have := chain (k - x.a) (by omega)
      rw [show x.a + (k - x.a) = k by omega] at this
      exact this
    · have e1 : (Hs.take (1 + cntD l i)).getD x.a [] = [] := by simp [List.getD, List.getElem?_eq_none (Nat.le_of_not_lt ha)]
      rw [e1]
      intro b q hb
      simp at hb
  have run : cOpR P o x.o.op → DoF P G x (putD (fun j => decide (j < i)) 0 l vs t0) (Hs.take (1 + cntD l i)) (Rs.getD (cntD l i) []) (vs.getD i .any) (Rs.getD (cntD l (i + 1)) []) → o.wp P a w Kk Q := by
    intro hop hdo
    have hrh : e.h = Rs.getD k [] := m.rel.r.h
    cases hh : isHeavy x.o with
    | true =>
      have hv0 := vcO_ev hev (hdo.1 hh).1
      rw [← hkeq hh, ← hrh] at hv0
      have hy := sound_opR (e := e) (w := w) hop m.rel.r.gr m.rel.r.tr m.rel.r.H m.rel.r.hr hv0
      refine hy.wp fun v w' ⟨e', dv, g1, g2, g3, g4, g5, g6⟩ => ?_
      rw [g6.1] at g5
      exact fin v e' w' e'.h g1 g2 g3 g4 g5 rfl (fun _ => g6.2) (fun h => by rw [hh] at h; cases h)
    | false =>
      have hv0 := vcO_ev hev (hdo.2 hh)
      have hv1 : vcO P G x.o.op (Opd.ev G (putD (DL listed) 0 l vs t0)) (Rs.getD k []) (fun v1 h2 => v1 = vs.getD i .any ∧ h2 = Rs.getD k []) := by
        cases hp : x.o.op.plain with
        | true => exact vcO_plain hp (fun v h => ⟨h, rfl⟩) hv0
        | false => exact vcO_ext hh (hpre hp hh) (fun v h => ⟨h, rfl⟩) hv0
      rw [← hrh] at hv1
      have hy := sound_opR (e := e) (w := w) hop m.rel.r.gr m.rel.r.tr m.rel.r.H m.rel.r.hr hv1
      refine hy.wp fun v w' ⟨e', dv, g1, g2, g3, g4, g5, g6⟩ => ?_
      rw [g6.1] at g5
      exact fin v e' w' e'.h g1 g2 g3 g4 g5 rfl (fun h => by rw [hh] at h; cases h) (fun _ => g6.2.trans hrh)
  unfold wpOp
  rw [ho]
  simp only
  unfold cOper at hcO
  cases hgd : o.guard with
  | none =>
    rw [hgd] at hcO
    simp only [Option.some.injEq] at hcO
    have q1 : x.o.guard = none := by rw [hxg, ← hcO]
    have q2 : cOpR P o x.o.op := opR (x0 := x0) (by rw [← hcO]) hx0
    rw [q1] at f3
    simp only [Region.wanted, hgd, if_true]
    exact .inl (run q2 f3)
  | some gp =>
    obtain ⟨j, want⟩ := gp
    rw [hgd] at hcO
    simp only at hcO
    cases hgj : (ops[j]?).bind (·.dst) with
    | none => rw [hgj] at hcO; cases hcO
    | some g =>
      rw [hgj] at hcO
      simp only [Option.some.injEq] at hcO
      have q1 : x.o.guard = some (g, want) := by rw [hxg, ← hcO]
      have q2 : cOpR P o x.o.op := opR (x0 := x0) (by rw [← hcO]) hx0
      rw [q1] at f3
      rcases f3 with ⟨b, hb, p1, p2⟩ | ⟨hb, p3, p4⟩
      · have hb' : (putD (DL listed) 0 l vs t0).getD g .any = .p (.bool b) := by
          rw [hsl g (by simp only [looks, q1, List.mem_append]; exact .inr (by simp))]
          exact hb
        have hyd := guard_yielded m.rel.r.tr hgj hb'
        simp only [Region.wanted, hgd, hyd]
        by_cases hbw : b = want
        · rw [if_pos (by simp [hbw])]
          exact .inl (run q2 (p1 hbw))
        · rw [if_neg (by simp [hbw])]
          obtain ⟨p3, p4⟩ := p2 hbw
          refine fin undef e w (Rs.getD k []) m.rel.r.H (WS.refl w) m.rel.r.hr (Ev.refl e) (by rw [p3]; exact vr_undef) m.rel.r.h (fun hh => ?_) (fun _ => rfl)
          rw [p4, hkeq hh]
      · have hb' : (putD (DL listed) 0 l vs t0).getD g .any = .tup [] := by
          rw [hsl g (by simp only [looks, q1, List.mem_append]; exact .inr (by simp))]
          exact hb
        have hyd := guard_none m.rel.r.tr hgj hb'
        simp only [Region.wanted, hgd, hyd]
        rw [if_neg (by simp)]
        refine fin undef e w (Rs.getD k []) m.rel.r.H (WS.refl w) m.rel.r.hr (Ev.refl e) (by rw [p3]; exact vr_undef) m.rel.r.h (fun hh => ?_) (fun _ => rfl)
        rw [p4, hkeq hh]

/-- A REGION THAT IS DRAWN: what holds in the text's order holds in each. -/
theorem drawn_any (C : Chk ops.toList l M) (hco : Comp P ops (l.map (·.o))) (hv : vs.length = l.length) (hF : Facts P G l vs t0 Hs Rs) (hVR : ∀ k, k ≤ cntD l l.length → HV (Hs.getD k []) (Rs.getD k [])) {Q : Exit → Act → World → Prop}
    (hQ : ∀ e a w, RelE G D n e0 w0 e ⟨putD (fun _ => true) 0 l vs t0, Rs.getD (cntD l l.length) []⟩ a w → Q .normal a w) :
    ∀ (fuel : Nat) (listed : Array Bool) (k : Nat) (e : Env) (a : Act) (w : World), left ops.size listed ≤ fuel → Mid P G D n e0 w0 ops.toList l vs t0 (fun k => Rs.getD k []) listed k e a w → wpAny P .any ops Q fuel listed a w := by
  have done : ∀ (listed : Array Bool) (k : Nat) (e : Env) (a : Act) (w : World), (∀ i, i < ops.size → DL listed i = true) → Mid P G D n e0 w0 ops.toList l vs t0 (fun k => Rs.getD k []) listed k e a w → Q .normal a w := by
    intro listed k e a w hall m
    have hlen : l.length = ops.size := by rw [C.len]; simp
    have hk : k = cntD l l.length := by
      have := m.kle
      rcases cntD_last l l.length (Nat.le_refl _) with h | ⟨j, y, g1, g2, g3, g4⟩
      · omega
      · have := (m.hk j y g2 g3).1 (hall j (by omega))
        omega
    refine hQ e a w ?_
    have := m.rel
    rw [hk, putD_congr (D := DL listed) (D' := fun _ => true) 0 l vs t0 (fun j hj => by rw [Nat.zero_add]; exact hall j (by omega))] at this
    exact this
  intro fuel
  induction fuel with
  | zero =>
    intro listed k e a w hl m
    have hall := left_zero (Nat.le_zero.1 hl)
    refine ⟨?_, done listed k e a w hall m⟩
    cases hr : Region.ready .any ops listed with
    | nil => rfl
    | cons i r =>
      obtain ⟨h1, h2, _⟩ := ready_spec (ops := ops) (listed := listed) (i := i) (by rw [m.size]; simp) (by rw [hr]; exact List.mem_cons_self)
      rw [hall i h1] at h2
      cases h2
  | succ fuel ih =>
    intro listed k e a w hl m
    have hsz : listed.size = ops.size := by rw [m.size]; simp
    refine ⟨fun hr => done listed k e a w (ready_nil C hsz hr) m, fun i hi => ?_⟩
    obtain ⟨h1, h2, _⟩ := ready_spec hsz hi
    refine drawn_step C hco hv hF hVR m hi fun k' e' a' w' m' => ?_
    exact ih _ k' e' a' w' (by have := left_lt hsz h1 h2; omega) m'

theorem drawn_view {r : List DDOp} (hc : cDraw P ops = some r) {e : Env} {s : St} {a : Act} {w : World} {K : List DV → List Blk → Prop} (hr : RelE G D n e0 w0 e s a w) {hv0 : List Blk} (hvw : HV hv0 s.h) (h : vcD P G r s.t [hv0] s.h K) {id : Nat} {Q : Exit → Act → World → Prop}
    (hQ : ∀ e a w t h, RelE G D n e0 w0 e ⟨t, h⟩ a w → K t h → Q .normal a w) : (Code.region id ops true).wp P Q a w := by
  obtain ⟨hco, C, hm⟩ := cDraw_spec hc
  obtain ⟨vs, t', Hs', h', T, hk⟩ := vcD_trace r s.t [hv0] s.h C.det h
  obtain ⟨Rs', g1, g2, g3, g4, g3R, g4R, g5, gk, g6⟩ := T.at 0 [s.h] rfl ⟨[], rfl⟩
  have hF : Facts P G r vs s.t Hs' Rs' := by
    intro i d hi
    have := g6 i d hi
    simpa only [Nat.zero_add, List.length_singleton, Nat.sub_self] using this
  have h0 : Rs'.getD 0 [] = s.h := by
    obtain ⟨Y, hY⟩ := g3R
    rw [← hY]
    simp [List.getD]
  have h0' : Hs'.getD 0 [] = hv0 := by
    obtain ⟨Y, hY⟩ := g3
    rw [← hY]
    simp [List.getD]
  have hVR : ∀ k, k ≤ cntD r r.length → HV (Hs'.getD k []) (Rs'.getD k []) := fun k _ => by
    cases k with
    | zero => rw [h0, h0']; exact hvw
    | succ k =>
      have := gk (k + 1) (by simp)
      simp only [List.getD, this]
      exact HV.refl _
  have hlast : Rs'.getD (cntD r r.length) [] = h' := by
    obtain ⟨X, hX⟩ := g5
    have : X.length = cntD r r.length := by rw [g4] at g4R; rw [hX] at g4R; simp at g4R; omega
    rw [hX, ← this]
    simp [List.getD]
  have hfalse : ∀ i, DL (Array.replicate ops.size false) i = false := fun i => by
    unfold DL
    rw [Array.getD_eq_getD_getElem?]
    by_cases h : i < ops.size
    · simp [Array.getElem?_replicate, h]
    · simp [Array.getElem?_replicate, h]
  refine wp_region_any hm (drawn_any (n := n) (e0 := e0) (w0 := w0) C hco g1 hF hVR (fun e a w hr => hQ e a w _ _ hr ?_) ops.size _ 0 e a _ ?_ ⟨by simp, fun i hi => absurd ((hfalse i).symm.trans hi) (by decide), fun i x hx hh => ?_, Nat.zero_le _, ?_⟩)
  · rw [← g2, hlast]; exact hk
  · unfold left
    refine Nat.le_trans (List.length_filter_le _ _) (by simp)
  · rw [hfalse]; simp
  · have e1 : putD (DL (Array.replicate ops.size false)) 0 r vs s.t = s.t := putD_none 0 r vs s.t fun j _ => hfalse j
    rw [e1, h0]
    exact ⟨⟨hr.r.h, hr.r.H, hr.r.hr, hr.r.gr, hr.r.tr, hr.r.df⟩, hr.ev, ⟨hr.ws.os, hr.ws.tape, hr.ws.output⟩, hr.le⟩
theorem drawn_sound {r : List DDOp} (hc : cDraw P ops = some r) {e : Env} {s : St} {a : Act} {w : World} {K : List DV → List Blk → Prop} (hr : RelE G D n e0 w0 e s a w) (h : vcD P G r s.t [s.h] s.h K) {id : Nat} {Q : Exit → Act → World → Prop}
    (hQ : ∀ e a w t h, RelE G D n e0 w0 e ⟨t, h⟩ a w → K t h → Q .normal a w) : (Code.region id ops true).wp P Q a w := drawn_view hc hr (HV.refl _) h hQ
end

end
end Go.Den
