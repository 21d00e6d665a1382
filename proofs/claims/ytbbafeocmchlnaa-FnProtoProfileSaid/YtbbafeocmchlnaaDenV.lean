/- The library: contracts of functions over denoted values (V). -/
import Derived.Test.YtbbafeocmchlnaaDenU
import Derived.Test.YtbbafeocmchlnaaDenY
import Derived.Below
set_option linter.unusedVariables false
set_option linter.unusedSimpArgs false
set_option linter.unusedSectionVars false
set_option linter.unnecessarySimpa false
namespace Go.Den
open Go

/-- Only some of the blocks are spoken of any longer. -/
theorem WkV.trunc {h0 h h' : List Blk} {d : DV} (hn : h0.length ≤ h'.length) (hd : ∀ (b : Nat) (k : Blk), h'[b]? = some k → h[b]? = some k ∨ k = .dead) (hw : HWF h0 → HWF h') (hwd : WF (· < h'.length) d) : WkV h0 d h d h' := by
  intro h0w e v he hr hv hl
  subst he
  obtain ⟨ev, hh⟩ := env_drop hr h' hd
  exact ⟨⟨e.ρ, h', e.H⟩, rfl, rfl, hh (hw h0w), hv.gen ev hwd, ⟨hn, Nat.le_refl _, ev.ro, fun b hb k' hk => ev.key b (Nat.lt_of_lt_of_le hb hn) k' hk⟩⟩

/-- What the call made for itself is no longer spoken of. -/
theorem WkV.junk {h0 j : List Blk} {d : DV} (hwd : WF (· < h0.length) d) : WkV h0 d (h0 ++ j) d h0 :=
  WkV.trunc (Nat.le_refl _) (fun b k hb => .inl (by
    have : b < h0.length := by
      rcases Nat.lt_or_ge b h0.length with h | h
      · exact h
      · rw [List.getElem?_eq_none h] at hb; cases hb
    rw [List.getElem?_append_left this]; exact hb)) id hwd

theorem WkV.same {h0 : List Blk} {d : DV} : WkV h0 d h0 d h0 := WkV.refl

/-- The frame at a loop: slots that nobody reads again, blocks that nobody speaks of. -/
theorem Wk.of {G : Nat → DV} {h0 : List Blk} {s s' : St} (hlen : s'.t.length = s.t.length) (ht : ∀ i (hi : i < s'.t.length) (hi' : i < s.t.length), s'.t[i] = .any ∨ (s'.t[i] = s.t[i] ∧ WF (· < s'.h.length) s'.t[i]))
    (hn : h0.length ≤ s'.h.length) (hd : ∀ (b : Nat) (k : Blk), s'.h[b]? = some k → s.h[b]? = some k ∨ k = .dead) (hw : HWF h0 → HWF s'.h) (hG : ∀ g, WF (· < s'.h.length) (G g)) : Wk G h0 s s' := by
  intro h0w D e a w hr hl
  have hr1 := hr.hr
  obtain ⟨ev, hh⟩ := env_drop hr.hr s'.h (fun b k hb => by rw [hr.h]; exact hd b k hb)
  refine ⟨⟨e.ρ, s'.h, e.H⟩, ⟨rfl, hr.H, hh (hw h0w), fun g => (hr.gr g).gen ev (hG g), ⟨by rw [hlen]; exact hr.tr.1, fun i hi hi' => ?_⟩, hr.df⟩, ⟨hn, Nat.le_refl _, ev.ro, fun b hb k' hk => ev.key b (Nat.lt_of_lt_of_le hb hn) k' hk⟩⟩
  rcases ht i hi (hlen ▸ hi) with h1 | ⟨h1, h2⟩
  · rw [h1]; exact .any
  · have := hr.tr.2 i (hlen ▸ hi) hi'
    rw [← h1] at this
    exact this.gen ev h2

theorem Wk.refl {G : Nat → DV} {h0 : List Blk} {s : St} : Wk G h0 s s := fun _ D e a w hr hl => ⟨e, hr, Ev.refl' e hl⟩

/-- Slots forgotten, the memory as it is. -/
def forget (keep : List Nat) : Nat → List DV → List DV
  | _, [] => []
  | i, d :: l => (if keep.contains i then d else .any) :: forget keep (i + 1) l

theorem forget_length (keep : List Nat) : ∀ (i : Nat) (l : List DV), (forget keep i l).length = l.length
  | _, [] => rfl
  | i, d :: l => by simp [forget, forget_length keep (i + 1) l]
theorem forget_get (keep : List Nat) : ∀ (i : Nat) (l : List DV) (j : Nat) (hj : j < (forget keep i l).length) (hj' : j < l.length), (forget keep i l)[j] = .any ∨ (forget keep i l)[j] = l[j]
  | _, [], j, hj, _ => by simp [forget] at hj
  | i, d :: l, 0, _, _ => by
    simp only [forget, List.getElem_cons_zero]
    split
    · exact .inr rfl
    · exact .inl rfl
  | i, d :: l, j + 1, hj, hj' => by
    simp only [forget, List.getElem_cons_succ]
    exact forget_get keep (i + 1) l j _ _

/-- At a loop's head: only the slots that live on, and the blocks h' at the front. -/
theorem Wk.forget {G : Nat → DV} {h0 : List Blk} {s : St} (keep : List Nat) : Wk G h0 s ⟨forget keep 0 s.t, s.h⟩ := by
  intro h0w D e a w hr hl
  refine ⟨e, ⟨hr.h, hr.H, hr.hr, hr.gr, ⟨by rw [forget_length]; exact hr.tr.1, fun i hi hi' => ?_⟩, hr.df⟩, Ev.refl' e hl⟩
  rw [forget_length] at hi
  rcases forget_get keep 0 s.t i (by rw [forget_length]; exact hi) hi with h | h
  · simp only [h]; exact .any
  · simp only [h]; exact hr.tr.2 i hi hi'

theorem Wk.trans {G : Nat → DV} {h0 : List Blk} {s s' s'' : St} (h : Wk G h0 s s') (h' : Wk G h0 s' s'') : Wk G h0 s s'' := by
  intro h0w D e a w hr hl
  obtain ⟨e', h1, h2⟩ := h h0w D e a w hr hl
  obtain ⟨e'', h3, h4⟩ := h' h0w D e' a w h1 h2.len
  exact ⟨e'', h3, h2.trans h4 (Nat.le_refl _)⟩

/-- WHAT A LAW'S CONTRACT SAYS OF THE MACHINE: nothing that was there has turned. -/
theorem Ok.law {P : Program} {f : FuncId} {args : List DV} {v : DV} (h : Ok P (fun _ => .any) f args [] v []) (w : World) (vs : Array Value) (ht : TR ⟨fun _ => none, [], w.heap⟩ args vs) :
    Calls P f vs w fun en w' => (∃ v' e', en = .returned v' ∧ VR e' v v') ∧ Go.RowKit.Below w.heap.size w w' := by
  refine (h ⟨fun _ => none, [], w.heap⟩ w vs rfl rfl ⟨fun b b' q q' _ _ hq => (by cases hq), fun b k hb => (by simp at hb)⟩ (fun _ => .any) ht).mono fun en w' ⟨v', e', h1, h2, h3, h4, h5, h6, h7⟩ => ⟨⟨v', e', h1, h6⟩, ?_⟩
  refine ⟨h4.os, h4.tape, h4.output, by rw [← h2]; exact h7.size, fun k hk => ?_⟩
  rw [← h2]
  exact (h7.ro k ⟨hk, fun b q _ hq => (by cases hq)⟩).2

/-- A loop, not yet looked at. -/
def vcLoop (P : Program) (G : Nat → DV) (n : List Blk) (a : DC) (s : St) (Q : DX → St → Prop) : Prop :=
  ∃ (I : St → Prop) (μ : St → Nat), (∃ s', Wk G n s s' ∧ I s') ∧ ∀ s, I s → vc P G n a s fun x s1 => match x with | .nrm => ∃ s2, Wk G n s1 s2 ∧ I s2 ∧ μ s2 < μ s | x => Q x s1

section
variable {P : Program} {G : Nat → DV} {n : List Blk} {Q : DX → St → Prop} {s s' : St}
theorem vc_skip : vc P G n .skip s Q = Q .nrm s := by simp only [vc]
theorem vc_rg {ops : List DOper} : vc P G n (.rg ops) s Q = vcL P G ops s (Q .nrm) := by simp only [vc]
theorem vc_rgd {ops : List DDOp} : vc P G n (.rgd ops) s Q = vcD P G ops s.t [s.h] s.h (fun t h => Q .nrm ⟨t, h⟩) := by simp only [vc]
theorem vc_seq {a b : DC} : vc P G n (.seq a b) s Q = vc P G n a s (fun x s' => match x with | .nrm => vc P G n b s' Q | x => Q x s') := by rw [vc]; rfl
theorem vc_cond {c : Opd} {a b : DC} : vc P G n (.cond c a b) s Q = match c.ev G s.t with
    | .p (.bool t) => if t = true then vc P G n a s Q else vc P G n b s Q
    | _ => False := by simp only [vc]; rfl
theorem vc_block {id : Nat} {a : DC} : vc P G n (.block id a) s Q = vc P G n a s fun x s' => match x with | .ext i => if i = id then Q .nrm s' else Q (.ext i) s' | x => Q x s' := by rw [vc]; rfl
theorem vc_loop {a : DC} : vc P G n (.loop a) s Q = vcLoop P G n a s Q := by rw [vc, vcLoop]; rfl
theorem vc_exit {id : Nat} : vc P G n (.exit id) s Q = Q (.ext id) s := by simp only [vc]
theorem vc_ret : vc P G n .ret s Q = Q .ret s := by simp only [vc]
theorem vc_congr {a : DC} (h : s = s') : vc P G n a s Q = vc P G n a s' Q := by rw [h]
theorem vcLoop_congr {a : DC} (h : s = s') : vcLoop P G n a s Q = vcLoop P G n a s' Q := by rw [h]
theorem vcL_congr {l : List DOper} {K : St → Prop} (h : s = s') : vcL P G l s K = vcL P G l s' K := by rw [h]
theorem vcO_congr {o : DO} {ev ev' : Opd → DV} {h h' : List Blk} {K : DV → List Blk → Prop} (h1 : ev = ev') (h2 : h = h') : vcO P G o ev h K = vcO P G o ev' h' K := by rw [h1, h2]
theorem binK_congr {o : BinOp} {x x' y y' : Value} {K : Value → Prop} (h1 : x = x') (h2 : y = y') : binK o x y K = binK o x' y' K := by rw [h1, h2]
theorem unK_congr {o : UnOp} {x x' : Value} {K : Value → Prop} (h1 : x = x') : unK o x K = unK o x' K := by rw [h1]

theorem vcL_mono {K K' : St → Prop} (hK : ∀ s, K s → K' s) : ∀ (l : List DOper) (s : St), vcL P G l s K → vcL P G l s K'
  | [], s, H => by rw [vcL] at H ⊢; exact hK _ H
  | o :: l, s, H => by
    rw [vcL] at H ⊢
    split at H
    · exact vcO_mono (fun v h hv => vcL_mono hK l _ hv) H
    · rename_i g want _
      split at H
      · rename_i t _
        by_cases hc : t = want
        · rw [if_pos hc] at H ⊢
          exact vcO_mono (fun v h hv => vcL_mono hK l _ hv) H
        · rw [if_neg hc] at H ⊢
          exact vcL_mono hK l _ H
      · exact vcL_mono hK l _ H
      · exact H.elim
theorem stepD_mono {d : DDOp} {t : List DV} {Hs : List (List Blk)} {h : List Blk} {K K' : DV → List (List Blk) → List Blk → Prop} (hK : ∀ v Hs h, K v Hs h → K' v Hs h) : stepD P G d t Hs h K → stepD P G d t Hs h K' := by
  intro H
  unfold stepD at H ⊢
  split
  · rename_i hh
    rw [if_pos hh] at H
    exact vcO_mono (fun v h ⟨h1, h2⟩ => ⟨h1, hK _ _ _ h2⟩) H
  · rename_i hh
    rw [if_neg hh] at H
    exact vcO_mono (fun v h h1 => hK _ _ _ h1) H
theorem vcD_mono {K K' : List DV → List Blk → Prop} (hK : ∀ t h, K t h → K' t h) : ∀ (l : List DDOp) (t : List DV) (Hs : List (List Blk)) (h : List Blk), vcD P G l t Hs h K → vcD P G l t Hs h K'
  | [], t, Hs, h, H => by rw [vcD] at H ⊢; exact hK _ _ H
  | d :: l, t, Hs, h, H => by
    rw [vcD] at H ⊢
    split at H
    · exact stepD_mono (fun v Hs h hv => vcD_mono hK l _ _ _ hv) H
    · rename_i g want _
      split at H
      · rename_i t _
        by_cases hc : t = want
        · rw [if_pos hc] at H ⊢
          exact stepD_mono (fun v Hs h hv => vcD_mono hK l _ _ _ hv) H
        · rw [if_neg hc] at H ⊢
          exact vcD_mono hK l _ _ _ H
      · exact vcD_mono hK l _ _ _ H
      · exact H.elim
theorem vc_mono : ∀ (a : DC) {s : St} {Q Q' : DX → St → Prop}, (∀ x s, Q x s → Q' x s) → vc P G n a s Q → vc P G n a s Q'
  | .skip, s, Q, Q', hQ, H => by rw [vc_skip] at H ⊢; exact hQ _ _ H
  | .rg ops, s, Q, Q', hQ, H => by rw [vc_rg] at H ⊢; exact vcL_mono (hQ _) _ _ H
  | .rgd ops, s, Q, Q', hQ, H => by rw [vc_rgd] at H ⊢; exact vcD_mono (fun t h => hQ _ _) _ _ _ _ H
  | .seq a b, s, Q, Q', hQ, H => by
    rw [vc_seq] at H ⊢
    refine vc_mono a (fun x s hx => ?_) H
    cases x
    · exact vc_mono b hQ hx
    · exact hQ _ _ hx
    · exact hQ _ _ hx
  | .cond c a b, s, Q, Q', hQ, H => by
    rw [vc_cond] at H ⊢
    split at H
    · rename_i t _
      by_cases hc : t = true
      · rw [if_pos hc] at H ⊢
        exact vc_mono a hQ H
      · rw [if_neg hc] at H ⊢
        exact vc_mono b hQ H
    · exact H.elim
  | .block id a, s, Q, Q', hQ, H => by
    rw [vc_block] at H ⊢
    refine vc_mono a (fun x s hx => ?_) H
    cases x
    · exact hQ _ _ hx
    · rename_i i
      by_cases hc : i = id
      · simp only [if_pos hc] at hx ⊢
        exact hQ _ _ hx
      · simp only [if_neg hc] at hx ⊢
        exact hQ _ _ hx
    · exact hQ _ _ hx
  | .loop a, s, Q, Q', hQ, H => by
    rw [vc_loop, vcLoop] at H ⊢
    obtain ⟨I, μ, h0, h1⟩ := H
    refine ⟨I, μ, h0, fun s hs => vc_mono a (fun x s hx => ?_) (h1 s hs)⟩
    cases x
    · exact hx
    · exact hQ _ _ hx
    · exact hQ _ _ hx
  | .exit id, s, Q, Q', hQ, H => by rw [vc_exit] at H ⊢; exact hQ _ _ H
  | .ret, s, Q, Q', hQ, H => by rw [vc_ret] at H ⊢; exact hQ _ _ H

/-- A cut: what holds behind the first piece. -/
theorem vc_cut {a : DC} (R : DX → St → Prop) (h1 : vc P G n a s R) (h2 : ∀ x s, R x s → Q x s) : vc P G n a s Q := vc_mono a h2 h1

/-- A loop by what holds at its head, and what holds behind it. -/
theorem vcLoop_by {a : DC} (I : St → Prop) (μ : St → Nat) (R : DX → St → Prop) (h0 : ∃ s', Wk G n s s' ∧ I s')
    (h1 : ∀ s, I s → vc P G n a s fun x s1 => match x with | .nrm => ∃ s2, Wk G n s1 s2 ∧ I s2 ∧ μ s2 < μ s | x => R x s1)
    (h2 : ∀ x s, R x s → Q x s) : vcLoop P G n a s Q :=
  ⟨I, μ, h0, fun s hs => vc_mono a (fun x s' hx => by cases x <;> first | exact hx | exact h2 _ _ hx) (h1 s hs)⟩
end


theorem replicate_lit (n : Nat) (d : DV) : List.replicate (n + 1) d = d :: List.replicate n d := rfl

end Go.Den
