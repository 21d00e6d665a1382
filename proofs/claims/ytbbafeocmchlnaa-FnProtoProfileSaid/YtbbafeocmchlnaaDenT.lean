/- The library: contracts of functions over denoted values (T). -/
import Derived.Test.YtbbafeocmchlnaaDenZ
set_option linter.unusedVariables false
set_option linter.unusedSimpArgs false
set_option linter.unusedSectionVars false
set_option linter.unnecessarySimpa false
namespace Go.Den
open Go

/-- The same operation, its call one of more than one outcome. -/
def DOper.rel (o : DOper) : DOper := ⟨o.dst, o.op.rel, o.guard⟩

def cCode (P : Program) : Code → Option DC
  | .skip => some .skip
  | .region _ ops false => (cOps P ops ops.toList).map fun l => .rg (l.map DOper.rel)
  | .region _ ops true => (cDraw P ops).map .rgd
  | .seq a b => match cCode P a, cCode P b with
    | some x, some y => some (.seq x y)
    | _, _ => none
  | .cond c a b => match cCode P a, cCode P b with
    | some x, some y => some (.cond (cOpd c) x y)
    | _, _ => none
  | .block id a => (cCode P a).map (.block id)
  | .loop a => (cCode P a).map .loop
  | .exit id => some (.exit id)
  | .ret => some .ret
  | _ => none

section
variable {P : Program} {G : Nat → DV} {D : List Deferred} {h0 : List Blk} {e0 : Env} {w0 : World}

theorem vcL_soundT {n : Nat} {ops : Array Oper} {Q : Exit → Act → World → Prop} {K : St → Prop} (tail : List Nat) : ∀ (l : List Oper) (dl : List DOper) (i : Nat), cOps P ops l = some dl → (∀ j, j < l.length → l[j]? = ops[i + j]?) → ∀ (e : Env) (s : St) (a : Act) (w : World), RelE G D n e0 w0 e s a w → vcL P G (dl.map DOper.rel) s K →
    (∀ e' s' a' w', RelE G D n e0 w0 e' s' a' w' → K s' → wpOps P ops Q tail a' w') → wpOps P ops Q (List.range' i l.length ++ tail) a w
  | [], dl, i, hc, hl, e, s, a, w, hr, h, hK => by
    simp only [cOps, Option.some.injEq] at hc
    subst hc
    exact hK e s a w hr h
  | o :: l, dl, i, hc, hl, e, s, a, w, hr, h, hK => by
    simp only [cOps] at hc
    cases hd : cOper P ops o with
    | none => rw [hd] at hc; cases hc
    | some d =>
    cases hrest : cOps P ops l with
    | none => rw [hd, hrest] at hc; cases hc
    | some dr =>
    rw [hd, hrest] at hc
    cases hc
    have ho : ops[i]? = some o := by simpa using (hl 0 (by simp)).symm
    have hl' : ∀ j, j < l.length → l[j]? = ops[i + 1 + j]? := fun j hj => by
      have := hl (j + 1) (by simp; omega)
      rw [show i + 1 + j = i + (j + 1) by omega]
      simpa using this
    simp only [List.length_cons, List.range'_succ, List.cons_append, wpOps, ho]
    unfold cOper at hd
    have next : ∀ (d' : DOper), d'.dst = o.dst → d'.op = cOpS P o → vcO P G d'.op.rel (Opd.ev G s.t) s.h (fun v h => vcL P G (dr.map DOper.rel) (s.put d'.dst v h) K) → o.wp P a w (wpOps P ops Q (List.range' (i + 1) l.length ++ tail)) Q := by
      intro d' h1 h2 hv
      have hy := sound_oprS (K := fun v h => vcL P G (dr.map DOper.rel) (s.put d'.dst v h) K) (e := e) (w := w) (o := o) hr.r.gr hr.r.tr hr.r.H hr.r.hr (by rw [hr.r.h, ← h2]; exact hv)
      refine hy.wp fun v w' ⟨e', dv, g1, g2, g3, g4, g5, g6⟩ => ?_
      have hs := hr.step g1 g2 g3 g4 g5 o.dst
      rw [h1] at g6
      exact vcL_soundT tail l dr (i + 1) hrest hl' e' _ _ w' hs g6 hK
    cases hgd : o.guard with
    | none =>
      rw [hgd] at hd
      cases hd
      simp only [Region.wanted, hgd, if_true]
      simp only [List.map_cons, DOper.rel, vcL] at h
      exact .inl (next ⟨o.dst, cOpS P o, none⟩ rfl rfl h)
    | some gp =>
      obtain ⟨j, want⟩ := gp
      rw [hgd] at hd
      simp only at hd
      cases hgj : (ops[j]?).bind (·.dst) with
      | none => rw [hgj] at hd; cases hd
      | some g =>
        rw [hgj] at hd
        cases hd
        simp only [List.map_cons, DOper.rel, vcL] at h
        split at h
        · rename_i b hb
          have hyd := guard_yielded hr.r.tr hgj hb
          simp only [Region.wanted, hgd, hyd]
          by_cases hbw : b = want
          · rw [if_pos hbw] at h
            rw [if_pos (by simp [hbw])]
            exact .inl (next ⟨o.dst, cOpS P o, none⟩ rfl rfl h)
          · rw [if_neg hbw] at h
            rw [if_neg (by simp [hbw])]
            have hs := hr.step hr.r.H (WS.refl w) hr.r.hr (Ev.refl e) (d := .tup []) (v := undef) vr_undef o.dst
            rw [hr.r.h] at hs
            exact vcL_soundT tail l dr (i + 1) hrest hl' e _ _ w hs h hK
        · rename_i hb
          have hyd := guard_none hr.r.tr hgj hb
          simp only [Region.wanted, hgd, hyd]
          rw [if_neg (by simp)]
          have hs := hr.step hr.r.H (WS.refl w) hr.r.hr (Ev.refl e) (d := .tup []) (v := undef) vr_undef o.dst
          rw [hr.r.h] at hs
          exact vcL_soundT tail l dr (i + 1) hrest hl' e _ _ w hs h hK
        · exact h.elim

theorem vcL_sound {n : Nat} {ops : Array Oper} {Q : Exit → Act → World → Prop} {K : St → Prop} (l : List Oper) (dl : List DOper) (i : Nat) (hc : cOps P ops l = some dl) (hl : ∀ j, l[j]? = ops[i + j]?) (e : Env) (s : St) (a : Act) (w : World) (hr : RelE G D n e0 w0 e s a w) (h : vcL P G (dl.map DOper.rel) s K)
    (hK : ∀ e' s' a' w', RelE G D n e0 w0 e' s' a' w' → K s' → Q .normal a' w') : wpOps P ops Q (List.range' i l.length) a w := by
  have := vcL_soundT (Q := Q) [] l dl i hc (fun j _ => hl j) e s a w hr h hK
  simpa using this

/-- What the machine's exits are. -/
def QQ (G : Nat → DV) (D : List Deferred) (n : Nat) (e0 : Env) (w0 : World) (Q : DX → St → Prop) : Exit → Act → World → Prop
  | .normal, a, w => ∃ e s, RelE G D n e0 w0 e s a w ∧ Q .nrm s
  | .exit i, a, w => ∃ e s, RelE G D n e0 w0 e s a w ∧ Q (.ext i) s
  | .ret, a, w => ∃ e s, RelE G D n e0 w0 e s a w ∧ Q .ret s
  | _, _, _ => False

theorem QQ.mono {n : Nat} {Q Q' : DX → St → Prop} (h : ∀ x s, Q x s → Q' x s) : ∀ x a w, QQ G D n e0 w0 Q x a w → QQ G D n e0 w0 Q' x a w := by
  intro x a w hq
  cases x <;> first
    | exact hq.elim
    | exact (let ⟨e, s, hr, hq⟩ := hq; ⟨e, s, hr, h _ _ hq⟩)

theorem Wk.rel {n : Nat} (hn : n = h0.length) (hw : HWF h0) {s s' : St} (h : Wk G h0 s s') {e : Env} {a : Act} {w : World} (hr : RelE G D n e0 w0 e s a w) : ∃ e', RelE G D n e0 w0 e' s' a w := by
  obtain ⟨e', h1, h2⟩ := h hw _ e a w hr.r (by rw [← hn]; exact hr.ev.len)
  exact ⟨e', h1, hr.ev.trans (hn ▸ h2) (Nat.le_refl _), hr.ws, hr.le⟩

theorem vc_sound (hw : HWF h0) : ∀ (c : Code) (d : DC), cCode P c = some d → ∀ (Q : DX → St → Prop) (e : Env) (s : St) (a : Act) (w : World), RelE G D h0.length e0 w0 e s a w → vc P G h0 d s Q → c.wp P (QQ G D h0.length e0 w0 Q) a w := by
  intro c
  induction c with
  | skip =>
    intro d hc Q e s a w hr h
    cases hc
    exact wp_skip ⟨e, s, hr, h⟩
  | region id ops draw =>
    intro d hc Q e s a w hr h
    cases draw with
    | true =>
      simp only [cCode] at hc
      cases ho : cDraw P ops with
      | none => rw [ho] at hc; cases hc
      | some r =>
        rw [ho] at hc
        cases hc
        exact drawn_sound ho hr h (fun e' a' w' t' h' hr' hk => ⟨e', ⟨t', h'⟩, hr', hk⟩)
    | false =>
      simp only [cCode] at hc
      cases ho : cOps P ops ops.toList with
      | none => rw [ho] at hc; cases hc
      | some dl =>
        rw [ho] at hc
        cases hc
        refine wp_region ?_
        have := vcL_sound (Q := QQ G D h0.length e0 w0 Q) ops.toList dl 0 ho (fun j => by simp) e s a w hr h (fun e' s' a' w' hr' hk => ⟨e', s', hr', hk⟩)
        simpa [List.range_eq_range'] using this
  | seq x y ihx ihy =>
    intro d hc Q e s a w hr h
    simp only [cCode] at hc
    split at hc
    · rename_i dx dy h1 h2
      cases hc
      refine wp_seq (wp_mono (ihx dx h1 _ e s a w hr h) fun ex a' w' hq => ?_)
      cases ex with
      | normal =>
        obtain ⟨e', s', hr', hq⟩ := hq
        exact ihy dy h2 Q e' s' a' w' hr' hq
      | exit i => exact hq
      | ret => exact hq
      | _ => exact hq.elim
    · cases hc
  | cond c x y ihx ihy =>
    intro d hc Q e s a w hr h
    simp only [cCode] at hc
    split at hc
    · rename_i dx dy h1 h2
      cases hc
      simp only [vc] at h
      split at h
      · rename_i b hb
        have hv := vr_ev hr.r.gr hr.r.tr c
        rw [hb] at hv
        cases b with
        | true => exact wp_cond_true (vr_p hv).1 (ihx dx h1 Q e s a w hr (by simpa using h))
        | false => exact wp_cond_false (vr_p hv).1 (ihy dy h2 Q e s a w hr (by simpa using h))
      · exact h.elim
    · cases hc
  | block id x ih =>
    intro d hc Q e s a w hr h
    simp only [cCode] at hc
    cases hx : cCode P x with
    | none => rw [hx] at hc; cases hc
    | some dx =>
      rw [hx] at hc
      cases hc
      refine wp_block (wp_mono (ih dx hx _ e s a w hr h) fun ex a' w' hq => ?_)
      cases ex with
      | normal => exact hq
      | exit i =>
        obtain ⟨e', s', hr', hq⟩ := hq
        simp only [Exit.inBlock]
        by_cases hi : i = id
        · rw [if_pos hi]; simp only [hi, if_true] at hq; exact ⟨e', s', hr', hq⟩
        · rw [if_neg hi]; simp only [hi, if_false] at hq; exact ⟨e', s', hr', hq⟩
      | ret => exact hq
      | _ => exact hq.elim
  | loop x ih =>
    intro d hc Q e s a w hr h
    simp only [cCode] at hc
    cases hx : cCode P x with
    | none => rw [hx] at hc; cases hc
    | some dx =>
      rw [hx] at hc
      cases hc
      obtain ⟨I, μ, ⟨s', hwk, hI⟩, hround⟩ := h
      obtain ⟨e', hr'⟩ := hwk.rel rfl hw hr
      intro b k cs
      have key : ∀ m (s : St) (e : Env) (a : Act) (w : World), μ s = m → I s → RelE G D h0.length e0 w0 e s a w →
          ∃ ex a' w', QQ G D h0.length e0 w0 Q ex a' w' ∧ Arrives P (lone (b.at a (.code x :: .inLoop x :: k)) cs w) b k cs ex a' w' := by
        intro m
        induction m using Nat.strongRecOn with
        | _ m ihm =>
          intro s e a w hm hI hr
          obtain ⟨ex, a1, w1, hq, harr⟩ := ih dx hx _ e s a w hr (hround s hI) b (.inLoop x :: k) cs
          cases ex with
          | normal =>
            obtain ⟨e1, s1, hr1, s2, hwk2, hI2, hlt⟩ := hq
            obtain ⟨e2, hr2⟩ := hwk2.rel rfl hw hr1
            obtain ⟨ex2, a2, w2, hq2, harr2⟩ := ihm (μ s2) (hm ▸ hlt) s2 e2 a1 w1 rfl hI2 hr2
            exact ⟨ex2, a2, w2, hq2, .of_steps (Steps.trans harr (.one step_inLoop)) harr2⟩
          | exit i =>
            obtain ⟨e1, s1, hr1, hq1⟩ := hq
            exact ⟨.exit i, a1, w1, ⟨e1, s1, hr1, hq1⟩, .pass (x := .inLoop x) rfl (fun _ _ => .inl (by simp)) harr⟩
          | ret =>
            obtain ⟨e1, s1, hr1, hq1⟩ := hq
            exact ⟨.ret, a1, w1, ⟨e1, s1, hr1, hq1⟩, .pass (x := .inLoop x) rfl (fun _ _ => .inl (by simp)) harr⟩
          | _ => exact hq.elim
      obtain ⟨ex, a', w', hq, harr⟩ := key _ s' e' a w rfl hI hr'
      exact ⟨ex, a', w', hq, .of_steps (.one step_loop) harr⟩
  | exit id =>
    intro d hc Q e s a w hr h
    cases hc
    exact wp_exit ⟨e, s, hr, h⟩
  | ret =>
    intro d hc Q e s a w hr h
    cases hc
    exact wp_ret ⟨e, s, hr, h⟩
  | _ => intro d hc; cases hc

end
end Go.Den
