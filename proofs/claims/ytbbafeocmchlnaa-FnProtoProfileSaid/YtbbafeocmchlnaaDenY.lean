/- The library: contracts of functions over denoted values (Y). -/
import Derived.Test.YtbbafeocmchlnaaDenC
set_option linter.unusedVariables false
set_option linter.unusedSimpArgs false
set_option linter.unusedSectionVars false
set_option linter.unnecessarySimpa false
namespace Go.Den
open Go

theorem HPre.refl (h : List Blk) : HPre h h := fun _ _ x => x
theorem HPre.trans {a b c : List Blk} (h : HPre a b) (h' : HPre b c) : HPre a c := fun x k hx => h' x k (h x k hx)
theorem HPre.append (h x : List Blk) : HPre h (h ++ x) := fun b k hb => by
  have : b < h.length := by
    rcases Nat.lt_or_ge b h.length with h1 | h1
    · exact h1
    · rw [List.getElem?_eq_none h1] at hb; cases hb
  rw [List.getElem?_append_left this]; exact hb

section
variable {P : Program} {G : Nat → DV} {h : List Blk} {ev ev' : Opd → DV} {K : DV → List Blk → Prop}

theorem binK_mono {o : BinOp} {x y : Value} {K K' : Value → Prop} (hK : ∀ v, K v → K' v) : binK o x y K → binK o x y K' := by
  intro h
  unfold binK at h ⊢
  repeat' split at h
  all_goals (first | exact hK _ h | exact ⟨h.1, hK _ h.2⟩ | exact ⟨h.1, h.2.1, hK _ h.2.2⟩ | exact h.elim)
theorem unK_mono {o : UnOp} {x : Value} {K K' : Value → Prop} (hK : ∀ v, K v → K' v) : unK o x K → unK o x K' := by
  intro h
  unfold unK at h ⊢
  split at h
  all_goals (first | exact hK _ h | exact h.elim)
theorem vcO_mono {o : DO} {K' : DV → List Blk → Prop} (hK : ∀ v h, K v h → K' v h) : vcO P G o ev h K → vcO P G o ev h K' := by
  intro H
  cases o
  case bin => 
    simp only [vcO] at H ⊢
    split at H
    · exact binK_mono (fun v hv => hK _ _ hv) H
    · exact H.elim
  case un => 
    simp only [vcO] at H ⊢
    split at H
    · exact unK_mono (fun v hv => hK _ _ hv) H
    · exact H.elim
  case call => 
    obtain ⟨v, h', h1, h2⟩ := H
    exact ⟨v, h', h1, hK _ _ h2⟩
  case stop => exact H.elim
  case callr =>
    obtain ⟨R, h1, h2⟩ := H
    exact ⟨R, h1, fun v h' hr => hK _ _ (h2 v h' hr)⟩
  case callv rel x args =>
    simp only [vcO] at H ⊢
    split at H
    · refine ⟨H.1, ?_⟩
      cases rel
      · obtain ⟨v, h', h1, h2⟩ := H.2
        exact ⟨v, h', h1, hK _ _ h2⟩
      · obtain ⟨R, h1, h2⟩ := H.2
        exact ⟨R, h1, fun v h' hr => hK _ _ (h2 v h' hr)⟩
    · exact H.elim
  case inv rel n x args =>
    simp only [vcO] at H ⊢
    split at H
    · split at H
      · refine ⟨H.1, ?_⟩
        cases rel
        · obtain ⟨v, h', h1, h2⟩ := H.2
          exact ⟨v, h', h1, hK _ _ h2⟩
        · obtain ⟨R, h1, h2⟩ := H.2
          exact ⟨R, h1, fun v h' hr => hK _ _ (h2 v h' hr)⟩
      · exact H.elim
    · exact H.elim
  case mks =>
    simp only [vcO] at H ⊢
    split at H
    · exact ⟨H.1, H.2.1, H.2.2.1, H.2.2.2.imp (hK _ _) fun h => ⟨h.1, hK _ _ h.2⟩⟩
    · exact H.elim
  case tas t z ok x =>
    simp only [vcO] at H ⊢
    split at H
    · rename_i u v _
      by_cases hc : u = t
      · rw [if_pos hc] at H ⊢; exact hK _ _ H
      · rw [if_neg hc] at H ⊢; exact ⟨H.1, hK _ _ H.2⟩
    · exact ⟨H.1, hK _ _ H.2⟩
    · exact H.elim
  case tai u ok x =>
    simp only [vcO] at H ⊢
    split at H
    · split at H
      · rename_i b _
        by_cases hc : b = true
        · rw [if_pos hc] at H ⊢; exact hK _ _ H
        · rw [if_neg hc] at H ⊢; exact ⟨H.1, hK _ _ H.2⟩
      · exact H.elim
    · exact ⟨H.1, hK _ _ H.2⟩
    · exact H.elim
  case nxts =>
    simp only [vcO] at H ⊢
    repeat' split at H
    all_goals first | exact H.elim | exact ⟨fun h => hK _ _ (H.1 h), fun h => hK _ _ (H.2 h)⟩
  case nxtm =>
    simp only [vcO] at H ⊢
    repeat' split at H
    all_goals first | exact H.elim | exact hK _ _ H | exact ⟨fun h => hK _ _ (H.1 h), fun j h => ⟨(H.2 j h).1, hK _ _ (H.2 j h).2⟩⟩
  case app =>
    simp only [vcO] at H ⊢
    split at H
    · exact ⟨H.1, fun h => hK _ _ (H.2.1 h), fun h => hK _ _ (H.2.2 h)⟩
    · split at H
      · exact ⟨H.1, H.2.1, H.2.2.1, H.2.2.2.1, H.2.2.2.2.1, H.2.2.2.2.2.1, hK _ _ H.2.2.2.2.2.2⟩
      · exact H.elim
    · exact H.elim
  case pick =>
    simp only [vcO] at H ⊢
    split at H
    · rename_i t _
      by_cases hc : t = true
      · rw [if_pos hc] at H ⊢
        exact hK _ _ H
      · rw [if_neg hc] at H ⊢
        exact hK _ _ H
    · exact H.elim
  case mm =>
    simp only [vcO] at H ⊢
    split at H
    · exact hK _ _ H
    · exact H.elim
  case eqi =>
    simp only [vcO] at H ⊢
    split at H
    · rename_i t _ u _ _ _
      by_cases hc : t = u
      · rw [if_pos hc] at H ⊢
        repeat' split at H
        all_goals (first | exact hK _ _ H | exact H.elim)
      · rw [if_neg hc] at H ⊢
        exact hK _ _ H
    all_goals (first | exact hK _ _ H | exact H.elim)
  all_goals
    simp only [vcO] at H ⊢
    repeat' split at H
    all_goals (first | exact hK _ _ H | exact H.elim | exact ⟨H.1, hK _ _ H.2⟩ | exact ⟨H.1, H.2.1, hK _ _ H.2.2⟩ | exact ⟨H.1, H.2.1, H.2.2.1, hK _ _ H.2.2.2⟩ | exact ⟨H.1, H.2.1, H.2.2.1, H.2.2.2.1, hK _ _ H.2.2.2.2⟩ | exact ⟨H.1, H.2.1, H.2.2.1, H.2.2.2.1, H.2.2.2.2.1, hK _ _ H.2.2.2.2.2⟩)

theorem vcO_det {o : DO} (hdet : o.det = true) : vcO P G o ev h K → ∃ v h', vcO P G o ev h (fun v1 h1 => v1 = v ∧ h1 = h') ∧ K v h' := by
  intro H
  cases o
  case bin op x y =>
    simp only [vcO] at H ⊢
    split at H
    · rename_i a b _ _
      unfold binK at H ⊢
      repeat' split at H
      all_goals (first | exact H.elim | exact ⟨_, _, ⟨rfl, rfl⟩, H⟩ | exact ⟨_, _, ⟨H.1, rfl, rfl⟩, H.2⟩ | exact ⟨_, _, ⟨H.1, H.2.1, rfl, rfl⟩, H.2.2⟩)
    · exact H.elim
  case un =>
    simp only [vcO] at H ⊢
    split at H
    · unfold unK at H ⊢
      split at H
      all_goals (first | exact H.elim | exact ⟨_, _, ⟨rfl, rfl⟩, H⟩)
    · exact H.elim
  case call =>
    obtain ⟨v, h', h1, h2⟩ := H
    exact ⟨v, h', ⟨v, h', h1, rfl, rfl⟩, h2⟩
  case nxtm => cases hdet
  case callr => cases hdet
  case stop => exact H.elim
  case callv rel x args =>
    cases rel with
    | true => cases hdet
    | false =>
    simp only [vcO, Bool.false_eq_true, if_false] at H ⊢
    split at H
    · obtain ⟨h0, v, h', h1, h2⟩ := H
      exact ⟨v, h', ⟨h0, v, h', h1, rfl, rfl⟩, h2⟩
    · exact H.elim
  case inv rel n x args =>
    cases rel with
    | true => cases hdet
    | false =>
    simp only [vcO, Bool.false_eq_true, if_false] at H ⊢
    split at H
    · split at H
      · obtain ⟨h0, v, h', h1, h2⟩ := H
        exact ⟨v, h', ⟨h0, v, h', h1, rfl, rfl⟩, h2⟩
      · exact H.elim
    · exact H.elim
  case mks =>
    simp only [vcO] at H ⊢
    split at H
    · rcases H.2.2.2 with h | h
      · exact ⟨_, _, ⟨H.1, H.2.1, H.2.2.1, .inl ⟨rfl, rfl⟩⟩, h⟩
      · exact ⟨_, _, ⟨H.1, H.2.1, H.2.2.1, .inr ⟨h.1, rfl, rfl⟩⟩, h.2⟩
    · exact H.elim
  case tas t z ok x =>
    simp only [vcO] at H ⊢
    split at H
    · rename_i u v _
      by_cases hc : u = t
      · simp only [if_pos hc] at H ⊢; exact ⟨_, _, ⟨rfl, rfl⟩, H⟩
      · simp only [if_neg hc] at H ⊢; exact ⟨_, _, ⟨H.1, rfl, rfl⟩, H.2⟩
    · exact ⟨_, _, ⟨H.1, rfl, rfl⟩, H.2⟩
    · exact H.elim
  case tai u ok x =>
    simp only [vcO] at H ⊢
    split at H
    · split at H
      · rename_i b _
        by_cases hc : b = true
        · simp only [if_pos hc] at H ⊢; exact ⟨_, _, ⟨rfl, rfl⟩, H⟩
        · simp only [if_neg hc] at H ⊢; exact ⟨_, _, ⟨H.1, rfl, rfl⟩, H.2⟩
      · exact H.elim
    · exact ⟨_, _, ⟨H.1, rfl, rfl⟩, H.2⟩
    · exact H.elim
  case nxts =>
    simp only [vcO] at H ⊢
    repeat' split at H
    all_goals try exact H.elim
    rename_i s pos _
    by_cases hp : pos < s.size
    · exact ⟨_, _, ⟨fun _ => ⟨rfl, rfl⟩, fun h => absurd hp (by omega)⟩, H.1 hp⟩
    · exact ⟨_, _, ⟨fun h => (hp h).elim, fun _ => ⟨rfl, rfl⟩⟩, H.2 (by omega)⟩
  case app =>
    simp only [vcO] at H ⊢
    split at H
    · rename_i ys _ _
      by_cases hy : ys = []
      · exact ⟨_, _, ⟨H.1, fun _ => ⟨rfl, rfl⟩, fun h => (h hy).elim⟩, H.2.1 hy⟩
      · exact ⟨_, _, ⟨H.1, fun h => (hy h).elim, fun _ => ⟨rfl, rfl⟩⟩, H.2.2 hy⟩
    · split at H
      · exact ⟨_, _, ⟨H.1, H.2.1, H.2.2.1, H.2.2.2.1, H.2.2.2.2.1, H.2.2.2.2.2.1, rfl, rfl⟩, H.2.2.2.2.2.2⟩
      · exact H.elim
    · exact H.elim
  case pick =>
    simp only [vcO] at H ⊢
    split at H
    · rename_i t _
      by_cases hc : t = true
      · simp only [if_pos hc] at H ⊢
        exact ⟨_, _, ⟨rfl, rfl⟩, H⟩
      · simp only [if_neg hc] at H ⊢
        exact ⟨_, _, ⟨rfl, rfl⟩, H⟩
    · exact H.elim
  case mm =>
    simp only [vcO] at H ⊢
    split at H
    · exact ⟨_, _, ⟨rfl, rfl⟩, H⟩
    · exact H.elim
  case eqi =>
    simp only [vcO] at H ⊢
    split at H
    · rename_i t _ u _ _ _
      by_cases hc : t = u
      · simp only [if_pos hc] at H ⊢
        repeat' split at H
        all_goals (first | exact H.elim | exact ⟨_, _, ⟨rfl, rfl⟩, H⟩)
      · simp only [if_neg hc] at H ⊢
        exact ⟨_, _, ⟨rfl, rfl⟩, H⟩
    all_goals (first | exact H.elim | exact ⟨_, _, ⟨rfl, rfl⟩, H⟩)
  all_goals
    simp only [vcO] at H ⊢
    repeat' split at H
    all_goals (first | exact H.elim | exact ⟨_, _, ⟨rfl, rfl⟩, H⟩ | exact ⟨_, _, ⟨H.1, rfl, rfl⟩, H.2⟩ | exact ⟨_, _, ⟨H.1, H.2.1, rfl, rfl⟩, H.2.2⟩ | exact ⟨_, _, ⟨H.1, H.2.1, H.2.2.1, rfl, rfl⟩, H.2.2.2⟩ | exact ⟨_, _, ⟨H.1, H.2.1, H.2.2.1, H.2.2.2.1, rfl, rfl⟩, H.2.2.2.2⟩ | exact ⟨_, _, ⟨H.1, H.2.1, H.2.2.1, H.2.2.2.1, H.2.2.2.2.1, rfl, rfl⟩, H.2.2.2.2.2⟩)

theorem vcO_ev {o : DO} (he : ∀ x ∈ o.opds, ev x = ev' x) : vcO P G o ev h K → vcO P G o ev' h K := by
  intro H
  cases o
  case slcs x lo hi =>
    simp only [vcO] at H ⊢
    have hx := he x (by simp [DO.opds])
    have hl : lo.elim (DV.p (.int .i64 0)) ev = lo.elim (DV.p (.int .i64 0)) ev' := by
      cases lo with
      | none => rfl
      | some y => exact he y (by simp [DO.opds])
    rw [hx, hl] at H
    cases hi with
    | none => exact H
    | some y => simpa only [Option.elim, he y (by simp [DO.opds])] using H
  case slca m z g x lo hi =>
    simp only [vcO] at H ⊢
    have hx := he x (by simp [DO.opds])
    have hl : lo.elim (DV.p (.int .i64 0)) ev = lo.elim (DV.p (.int .i64 0)) ev' := by
      cases lo with
      | none => rfl
      | some y => exact he y (by simp [DO.opds])
    rw [hx, hl] at H
    cases hi with
    | none => exact H
    | some y => simpa only [Option.elim, he y (by simp [DO.opds])] using H
  case slcl sz x lo hi =>
    simp only [vcO] at H ⊢
    have hx := he x (by simp [DO.opds])
    have hl : lo.elim (DV.p (.int .i64 0)) ev = lo.elim (DV.p (.int .i64 0)) ev' := by
      cases lo with
      | none => rfl
      | some y => exact he y (by simp [DO.opds])
    rw [hx, hl] at H
    cases hi with
    | none => exact H
    | some y => simpa only [Option.elim, he y (by simp [DO.opds])] using H
  case bld zero parts =>
    simp only [vcO] at H ⊢
    have : ∀ (l : List (Nat × Nat × Opd)) (acc : Option (List DV)), (∀ x ∈ l.map (·.2.2), ev x = ev' x) →
        l.foldl (fun (acc : Option (List DV)) p => acc.bind fun cs => if (ev p.2.2).size = p.2.1 ∧ (ev p.2.2).storable = true ∧ p.1 + p.2.1 ≤ cs.length then some (cs.take p.1 ++ (ev p.2.2).cells ++ cs.drop (p.1 + p.2.1)) else none) acc =
        l.foldl (fun (acc : Option (List DV)) p => acc.bind fun cs => if (ev' p.2.2).size = p.2.1 ∧ (ev' p.2.2).storable = true ∧ p.1 + p.2.1 ≤ cs.length then some (cs.take p.1 ++ (ev' p.2.2).cells ++ cs.drop (p.1 + p.2.1)) else none) acc := by
      intro l
      induction l with
      | nil => intro acc _; rfl
      | cons p l ih =>
        intro acc hl
        simp only [List.foldl_cons]
        rw [hl p.2.2 (by simp), ih _ (fun x hx => hl x (by simp at hx ⊢; exact .inr hx))]
    rw [← this parts _ he]
    exact H
  case lit sz els =>
    simp only [vcO] at H ⊢
    refine ⟨fun x hx => by rw [← he x hx]; exact H.1 x hx, ?_⟩
    rw [← List.map_congr_left (l := els) (f := ev) (g := ev') he]
    exact H.2
  case litz sz els =>
    simp only [vcO] at H ⊢
    refine ⟨fun x hx => by rw [← he x hx]; exact H.1 x hx, ?_⟩
    rw [← List.map_congr_left (l := els) (f := ev) (g := ev') he]
    exact H.2
  case stop => exact H.elim
  case mkf f first cap =>
    simp only [vcO] at H ⊢
    rw [← List.map_congr_left (l := first) (f := ev) (g := ev') fun x hx => he x (by simp [DO.opds, hx]), ← List.map_congr_left (l := cap) (f := ev) (g := ev') fun x hx => he x (by simp [DO.opds, hx])]
    exact H
  case callv rel x args =>
    simp only [vcO] at H ⊢
    rw [← List.map_congr_left (l := args) (f := ev) (g := ev') fun x hx => he x (by simp [DO.opds, hx]), ← he x (by simp [DO.opds])]
    exact H
  case inv rel n x args =>
    simp only [vcO] at H ⊢
    rw [← List.map_congr_left (l := args) (f := ev) (g := ev') fun x hx => he x (by simp [DO.opds, hx]), ← he x (by simp [DO.opds])]
    exact H
  case callr f args =>
    simp only [vcO] at H ⊢
    rw [← List.map_congr_left (l := args) (f := ev) (g := ev') he]
    exact H
  case call f args =>
    simp only [vcO] at H ⊢
    rw [← List.map_congr_left (l := args) (f := ev) (g := ev') he]
    exact H
  all_goals
    simp only [DO.opds, List.mem_cons, List.not_mem_nil, or_false, forall_eq_or_imp, forall_eq, List.mem_nil_iff] at he
    simp only [vcO, he] at H ⊢
    exact H

theorem isNilD_iface {h h' : List Blk} {d : DV} : isNilD h .iface d = isNilD h' .iface d := by
  cases d <;> first | rfl | (rename_i v; cases v <;> rfl)
theorem isNilD_fn {h h' : List Blk} {d : DV} : isNilD h .fn d = isNilD h' .fn d := by
  cases d <;> first | rfl | (rename_i v; cases v <;> rfl)

/-- What looks at no memory. -/
theorem vcO_plain {o : DO} (hp : o.plain = true) {h' : List Blk} {K' : DV → List Blk → Prop} (hK : ∀ v, K v h → K' v h') : vcO P G o ev h K → vcO P G o ev h' K' := by
  intro H
  cases o
  case bin op x y =>
    simp only [vcO] at H ⊢
    split at H
    · exact binK_mono (fun v hv => hK _ hv) H
    · exact H.elim
  case un =>
    simp only [vcO] at H ⊢
    split at H
    · exact unK_mono (fun v hv => hK _ hv) H
    · exact H.elim
  case pick =>
    simp only [vcO] at H ⊢
    split at H
    · rename_i t _
      by_cases hc : t = true
      · rw [if_pos hc] at H ⊢
        exact hK _ H
      · rw [if_neg hc] at H ⊢
        exact hK _ H
    · exact H.elim
  case mm =>
    simp only [vcO] at H ⊢
    split at H
    · exact hK _ H
    · exact H.elim
  case eqi =>
    simp only [vcO] at H ⊢
    split at H
    · rename_i t _ u _ _ _
      by_cases hc : t = u
      · rw [if_pos hc] at H ⊢
        repeat' split at H
        all_goals (first | exact hK _ H | exact H.elim)
      · rw [if_neg hc] at H ⊢
        exact hK _ H
    all_goals (first | exact hK _ H | exact H.elim)
  case tas t z ok x =>
    simp only [vcO] at H ⊢
    split at H
    · rename_i u v _
      by_cases hc : u = t
      · rw [if_pos hc] at H ⊢; exact hK _ H
      · rw [if_neg hc] at H ⊢; exact ⟨H.1, hK _ H.2⟩
    · exact ⟨H.1, hK _ H.2⟩
    · exact H.elim
  case tai u ok x =>
    simp only [vcO] at H ⊢
    split at H
    · split at H
      · rename_i b _
        by_cases hc : b = true
        · rw [if_pos hc] at H ⊢; exact hK _ H
        · rw [if_neg hc] at H ⊢; exact ⟨H.1, hK _ H.2⟩
      · exact H.elim
    · exact ⟨H.1, hK _ H.2⟩
    · exact H.elim
  case eqn neg k x =>
    have hd : isNilD h k (ev x) = isNilD h' k (ev x) := by
      cases k <;> first | exact isNilD_iface | exact isNilD_fn | exact absurd hp (by simp [DO.plain])
    simp only [vcO, hd] at H ⊢
    split at H
    · exact hK _ H
    · exact H.elim
  case nilchk k x =>
    have hd : isNilD h k (ev x) = isNilD h' k (ev x) := by
      cases k <;> first | exact isNilD_iface | exact isNilD_fn | exact absurd hp (by simp [DO.plain])
    simp only [vcO, hd] at H ⊢
    split at H
    · exact hK _ H
    · exact H.elim
  case b2s | s2b | lenm | slcl | slca | lit | alloc | box | load | store | faddr | iaddr | iaddra | app | call | callr | stop | rngs | nxts | mkmap | rngm | nxtm | ent | mupd | look | mdel | mks | cpy | callv | inv => exact absurd hp (by simp [DO.plain])
  all_goals
    simp only [vcO] at H ⊢
    repeat' split at H
    all_goals (first | exact hK _ H | exact H.elim | exact ⟨H.1, hK _ H.2⟩ | exact ⟨H.1, H.2.1, hK _ H.2.2⟩ | exact ⟨H.1, H.2.1, H.2.2.1, hK _ H.2.2.2⟩)

theorem isNilD_ext {h h' : List Blk} (hx : HPre h h') {k : NK} {d : DV} {b : Bool} (hb : isNilD h k d = some b) : isNilD h' k d = some b := by
  unfold isNilD at hb ⊢
  split at hb
  case h_2 =>
    rename_i b1 _ _ x
    cases hq : h[b1]? with
    | none => rw [hq] at hb; cases hb
    | some q => rw [hq] at hb; rw [hx _ _ hq]; exact hb
  case h_5 =>
    rename_i b1 _ n x
    cases hq : h[b1]? with
    | none => rw [hq] at hb; cases hb
    | some q => rw [hq] at hb; rw [hx _ _ hq]; exact hb
  case h_6 =>
    rename_i b1 _ _ _ _ x
    cases hq : h[b1]? with
    | none => rw [hq] at hb; cases hb
    | some q => rw [hq] at hb; rw [hx _ _ hq]; exact hb
  case h_9 =>
    rename_i b1
    cases hq : h[b1]? with
    | none => rw [hq] at hb; cases hb
    | some q => rw [hq] at hb; rw [hx _ _ hq]; exact hb
  all_goals exact hb

theorem sliceOf_ext {h h' : List Blk} (hx : HPre h h') {sz : Nat} {d : DV} {l : List DV} (hb : sliceOf h sz d = some l) : sliceOf h' sz d = some l := by
  cases d
  case sa g z b1 i o n c x =>
    simp only [sliceOf, elemsOf] at hb ⊢
    cases hq : h[b1]? with
    | none => rw [hq] at hb; cases hb
    | some q => rw [hq] at hb; rw [hx _ _ hq]; exact hb
  case sl b1 i n x =>
    simp only [sliceOf, elemsOf] at hb ⊢
    cases hq : h[b1]? with
    | none => rw [hq] at hb; cases hb
    | some q => rw [hq] at hb; rw [hx _ _ hq]; exact hb
  case p v =>
    cases v
    case slice a n c =>
      cases a <;> cases n <;> cases c <;> exact hb
    all_goals exact hb
  all_goals exact hb

/-- What only looks at the memory sees the same where there is more of it. -/
theorem vcO_ext {o : DO} (hp : o.heavy = false) {h' : List Blk} (hx : HPre h h') {K' : DV → List Blk → Prop} (hK : ∀ v, K v h → K' v h') : vcO P G o ev h K → vcO P G o ev h' K' := by
  by_cases hpl : o.plain = true
  · exact vcO_plain hpl hK
  intro H
  cases o
  case eqn neg k x =>
    simp only [vcO] at H ⊢
    cases hq : isNilD h k (ev x) with
    | none => rw [hq] at H; exact H.elim
    | some b => rw [hq] at H; rw [isNilD_ext hx hq]; exact hK _ H
  case nilchk k x =>
    simp only [vcO] at H ⊢
    cases hq : isNilD h k (ev x) with
    | none => rw [hq] at H; exact H.elim
    | some b => rw [hq] at H; rw [isNilD_ext hx hq]; cases b <;> first | exact H.elim | exact hK _ H
  case b2s x =>
    simp only [vcO] at H ⊢
    cases hq : sliceOf h 1 (ev x) with
    | none => rw [hq] at H; exact H.elim
    | some b => rw [hq] at H; rw [sliceOf_ext hx hq]; exact ⟨H.1, hK _ H.2⟩
  case lenm x =>
    simp only [vcO] at H ⊢
    split at H
    · exact hK _ H
    · rename_i b _
      cases hq : h[b]? with
      | none => rw [hq] at H; exact H.elim
      | some q => rw [hq] at H; rw [hx _ _ hq]; cases q <;> first | exact hK _ H | exact H.elim
    · exact H.elim
  case slcl sz x lo hi =>
    simp only [vcO] at H ⊢
    split at H
    · split at H
      · exact ⟨H.1, H.2.1, H.2.2.1, H.2.2.2.1, hK _ H.2.2.2.2⟩
      · exact H.elim
    · rename_i b _ _ _ _
      split at H
      · cases hq : h[b]? with
        | none => rw [hq] at H; exact H.1.elim
        | some q => rw [hq] at H; rw [hx _ _ hq]; exact ⟨H.1, H.2.1, H.2.2.1, H.2.2.2.1, hK _ H.2.2.2.2⟩
      · exact H.elim
    · split at H
      · exact ⟨H.1, H.2.1, hK _ H.2.2⟩
      · exact H.elim
    · rename_i g z b _ _ _ _ _ _
      split at H
      · cases hq : h[b]? with
        | none => rw [hq] at H; exact H.1.elim
        | some q => rw [hq] at H; rw [hx _ _ hq]; exact ⟨H.1, H.2.1, H.2.2.1, H.2.2.2.1, hK _ H.2.2.2.2⟩
      · exact H.elim
    · exact H.elim
  case slca m z g x lo hi =>
    simp only [vcO] at H ⊢
    split at H
    · rename_i b _ _ _ _
      split at H
      · cases hq : h[b]? with
        | none => rw [hq] at H; exact H.1.elim
        | some q => rw [hq] at H; rw [hx _ _ hq]; exact ⟨H.1, H.2.1, H.2.2.1, H.2.2.2.1, hK _ H.2.2.2.2⟩
      · exact H.elim
    · exact H.elim
  case load g sz a =>
    simp only [vcO] at H ⊢
    split at H
    · rename_i b _ _ _ _
      cases hq : h[b]? with
      | none => rw [hq] at H; exact H.elim
      | some q => rw [hq] at H; rw [hx _ _ hq]; cases q <;> first | exact ⟨H.1, H.2.1, hK _ H.2.2⟩ | exact H.elim
    · exact ⟨H.1, hK _ H.2⟩
    · exact H.elim
  case faddr g o sz a =>
    simp only [vcO] at H ⊢
    split at H
    · rename_i b _ _ _ _
      cases hq : h[b]? with
      | none => rw [hq] at H; exact H.1.elim
      | some q => rw [hq] at H; rw [hx _ _ hq]; exact ⟨H.1, hK _ H.2⟩
    · exact ⟨H.1, hK _ H.2⟩
    · exact H.elim
  case iaddr sz x i =>
    simp only [vcO] at H ⊢
    split at H
    · rename_i b _ _ _ _ _ _ _
      cases hq : h[b]? with
      | none => rw [hq] at H; exact H.1.elim
      | some q => rw [hq] at H; rw [hx _ _ hq]; exact ⟨H.1, H.2.1, H.2.2.1, hK _ H.2.2.2⟩
    · exact ⟨H.1, H.2.1, H.2.2.1, hK _ H.2.2.2⟩
    · rename_i g z b _ _ _ _ _ _ _ _ _
      cases hq : h[b]? with
      | none => rw [hq] at H; exact H.1.elim
      | some q => rw [hq] at H; rw [hx _ _ hq]; exact ⟨H.1, H.2.1, H.2.2.1, hK _ H.2.2.2⟩
    · exact H.elim
  case iaddra n sz g x i =>
    simp only [vcO] at H ⊢
    split at H
    · rename_i b _ _ _ _ _ _ _
      cases hq : h[b]? with
      | none => rw [hq] at H; exact H.1.elim
      | some q => rw [hq] at H; rw [hx _ _ hq]; exact ⟨H.1, H.2.1, H.2.2.1, hK _ H.2.2.2⟩
    · exact ⟨H.1, H.2.1, H.2.2.1, hK _ H.2.2.2⟩
    · exact H.elim
  case ent a =>
    simp only [vcO] at H ⊢
    split at H
    · rename_i b _
      cases hq : h[b]? with
      | none => rw [hq] at H; exact H.elim
      | some q =>
        rw [hq] at H
        rw [hx _ _ hq]
        split at H
        · rename_i m _ j _
          cases hq2 : h[m]? with
          | none => rw [hq2] at H; exact H.elim
          | some q2 =>
            rw [hq2] at H
            rw [hx _ _ hq2]
            split at H
            · exact ⟨H.1, hK _ H.2⟩
            · exact H.elim
        · exact H.elim
    · exact H.elim
  case look ck zero ok m k =>
    simp only [vcO] at H ⊢
    split at H
    · exact hK _ H
    · rename_i b _ _ _
      cases hq : h[b]? with
      | none => rw [hq] at H; exact H.elim
      | some q =>
        rw [hq] at H
        rw [hx _ _ hq]
        cases q <;> try exact H.elim
        simp only at H ⊢
        split at H
        · exact hK _ H
        · exact hK _ H
        · exact H.elim
    · exact H.elim
  case s2b | lit | alloc | box | store | app | call | callr | stop | rngs | nxts | mkmap | rngm | nxtm | mupd | mdel | mks | cpy | callv | inv => exact absurd hp (by simp [DO.heavy])
  all_goals exact absurd rfl hpl
end
end Go.Den
