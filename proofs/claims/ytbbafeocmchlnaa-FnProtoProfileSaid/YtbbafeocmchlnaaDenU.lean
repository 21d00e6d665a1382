/- The library: contracts of functions over denoted values (U). -/
import Derived.Test.YtbbafeocmchlnaaDenT
import Derived.Defers
set_option linter.unusedVariables false
set_option linter.unusedSimpArgs false
set_option linter.unusedSectionVars false
set_option linter.unnecessarySimpa false
namespace Go.Den
open Go

inductive DR where
  | tmp (t : Nat)
  | cell (a : Nat) (g : Bool) (sz : Nat)

def cRes (P : Program) : List ResultVar → Option (List DR)
  | [] => some []
  | .tmp t :: l => (cRes P l).map (.tmp t :: ·)
  | .cell a t :: l => match tyI P t, cRes P l with
    | some (g, sz), some r => if g = true ∨ sz = 1 then some (.cell a g sz :: r) else none
    | _, _ => none

def resD (h : List Blk) (t : List DV) : List DR → Option (List DV)
  | [] => some []
  | .tmp n :: l => (resD h t l).map (t.getD n .any :: ·)
  | .cell a g sz :: l => match t.getD a .any, resD h t l with
    | .ptr b i o x, some r => match h[b]? with
      | some (.cells bsz els) => if x = els.length ∧ o + sz ≤ bsz then some (sub (els.getD i .any) o sz g :: r) else none
      | _ => none
    | _, _ => none

def mkRes : List DV → DV
  | [d] => d
  | ds => .tup ds

section
variable {P : Program} {G : Nat → DV} {D : List Deferred}

theorem run_res {e : Env} {s : St} {a : Act} {w : World} (hr : RelS G D e s a w) : ∀ (l : List ResultVar) (rs : List DR) (ds : List DV), cRes P l = some rs → resD s.h s.t rs = some ds →
    ∃ vs : List Value, (l.mapM fun (r : ResultVar) => match r with
      | .tmp t => pure (a.tmps.getD t undef)
      | .cell ad t => do loadVar t (← asAddr (a.tmps.getD ad undef)) : Sem (List Value)).run P w = .ok vs w ∧ ds.length = vs.length ∧ ∀ i (hi : i < ds.length) (hi' : i < vs.length), VR e ds[i] vs[i] := by
  intro l
  induction l with
  | nil =>
    intro rs ds hc hd
    cases hc
    cases hd
    exact ⟨[], rfl, rfl, fun i hi => by simp at hi⟩
  | cons r l ih =>
    intro rs ds hc hd
    have tmpv : ∀ n, VR e (s.t.getD n .any) (a.tmps.getD n undef) := fun n => by
      have := vr_ev (G := G) (a := a) hr.gr hr.tr (.tmp n)
      simpa [cOpd, Opd.ev, Act.eval] using this
    have fin : ∀ (x : Sem Value) (v : Value) (d : DV) (rs' : List DR) (ds' : List DV), x.run P w = .ok v w → VR e d v → cRes P l = some rs' → resD s.h s.t rs' = some ds' → ds = d :: ds' →
        ∃ vs : List Value, (do let y ← x; let ys ← (l.mapM fun (r : ResultVar) => match r with
      | .tmp t => pure (a.tmps.getD t undef)
      | .cell ad t => do loadVar t (← asAddr (a.tmps.getD ad undef)) : Sem (List Value)); pure (y :: ys) : Sem (List Value)).run P w = .ok vs w ∧ ds.length = vs.length ∧ ∀ i (hi : i < ds.length) (hi' : i < vs.length), VR e ds[i] vs[i] := by
      intro x v d rs' ds' hx hv h1 h2 h3
      obtain ⟨vs, g1, g2, g3⟩ := ih rs' ds' h1 h2
      subst h3
      refine ⟨v :: vs, ?_, by simp [g2], fun i hi hi' => ?_⟩
      · simp only [Sem.run_bind, hx, Result.andThen_ok, g1, Sem.run_pure]
      · cases i with
        | zero => exact hv
        | succ i => exact g3 i _ _
    rw [List.mapM_cons]
    cases r with
    | tmp n =>
      simp only [cRes] at hc
      cases h1 : cRes P l with
      | none => rw [h1] at hc; cases hc
      | some rs' =>
        rw [h1] at hc
        cases hc
        simp only [resD] at hd
        cases h2 : resD s.h s.t rs' with
        | none => rw [h2] at hd; cases hd
        | some ds' =>
          rw [h2] at hd
          cases hd
          exact fin (pure (a.tmps.getD n undef)) _ _ rs' ds' rfl (tmpv n) h1 h2 rfl
    | cell ad t =>
      simp only [cRes] at hc
      split at hc
      · rename_i g sz rs' hty h1
        by_cases hg : g = true ∨ sz = 1
        · rw [if_pos hg] at hc
          cases hc
          simp only [resD] at hd
          split at hd
          · rename_i b i o x ds' h3 h2
            split at hd
            · rename_i bsz els hb
              by_cases hx : x = els.length ∧ o + sz ≤ bsz
              · rw [if_pos hx] at hd
                cases hd
                obtain ⟨rfl, hsz⟩ := hx
                have hv := tmpv ad
                rw [h3] at hv
                have hkey : e.key b = some (.c bsz els.length) := Env.key_of (by rw [hr.h]; exact hb)
                obtain ⟨hi, q, hq, hve⟩ := vr_ptr hv hkey
                obtain ⟨c, T, fr, vs, hh, hcs, hl, hf, hvs, hvsz, h1c, hcell⟩ := hr.hr.cells (by rw [hr.h]; exact hb) hq
                have hlen : (((vs i).cells.toList.drop o).take sz).length = sz := take_cells _ _ _ (by simp [hvsz i hi]; omega)
                have hload := run_loadVar (P := P) (tyI_spec hty) w q.1 (i * bsz + o) _ hlen (fun h => hg.resolve_left (by rw [h]; simp)) (fun k hk => by
                  have : cellAt w.heap q.1 (i * bsz + o + k) = ((((vs i).cells.toList.drop o).take sz))[k]? := by
                    simp only [cellAt, ← hr.H, hh]
                    rw [Nat.add_assoc, hcell i hi (o + k) (by omega)]
                    simp [show k < sz by omega]
                  rw [this, List.getElem?_eq_getElem hk])
                refine fin (do loadVar t (← asAddr (a.tmps.getD ad undef))) _ _ rs' ds' ?_ (vr_sub (hvs i hi) o sz g (fun h => hg.resolve_left (by rw [h]; simp)) (by rw [hvsz i hi]; exact hsz)) h1 h2 (by simp [List.getD, hi])
                rw [hve]
                simp only [asAddr, Sem.run_bind, Sem.run_pure, Result.andThen_ok]
                exact hload
              · rw [if_neg hx] at hd; cases hd
            · cases hd
          · cases hd
        · rw [if_neg hg] at hc; cases hc
      · cases hc

/-- What may be told instead of a value and the memory. -/
def WkV (h0 : List Blk) (d : DV) (h : List Blk) (d' : DV) (h' : List Blk) : Prop :=
  HWF h0 → ∀ e v, e.h = h → HR e → VR e d v → h0.length ≤ h.length → ∃ e', e'.h = h' ∧ e'.H = e.H ∧ HR e' ∧ VR e' d' v ∧ Ev h0.length e e'

theorem WkV.refl {h0 : List Blk} {d : DV} {h : List Blk} : WkV h0 d h d h := fun _ e v he hr hv hl => ⟨e, he, rfl, hr, hv, Ev.refl' e (by rw [he]; exact hl)⟩

theorem HR.hwf {e : Env} (hr : HR e) : HWF e.h := fun b k h => (hr.blk b k h).wf

/-- THE CONTRACT OF A FUNCTION out of what its code asks. -/
theorem wp_of_vc {fn : Func} {c : Code} {d : DC} {rs : List DR} (hc : cCode P c = some d) (hrs : cRes P fn.results.toList = some rs) {args : List DV} {h : List Blk} {R : DV → List Blk → Prop} {n : Nat} (hn : fn.ntmps - args.length = n)
    (H : vc P G h d ⟨args ++ List.replicate n .any, h⟩ fun x s => match x with
      | .nrm | .ret => ∃ ds, resD s.h s.t rs = some ds ∧ ∃ v h', WkV h (mkRes ds) s.h v h' ∧ R v h'
      | _ => False) : ∀ (e : Env) (w : World) (vs : Array Value), e.h = h → e.H = w.heap → HR e → GR e G → TR e args vs →
    c.wp P (bodyPost P fn fun en w' => ∃ v' e' v h', en = .returned v' ∧ e'.H = w'.heap ∧ e'.h = h' ∧ WS w w' ∧ HR e' ∧ VR e' v v' ∧ Ev e.h.length e e' ∧ R v h') { tmps := vs ++ Array.replicate (fn.ntmps - vs.size) undef, defers := [] } w := by
  intro e w vs he hH hr hg ht
  subst hn
  have hw : HWF h := by rw [← he]; exact hr.hwf
  have hrel : RelE G [] h.length e w e ⟨args ++ List.replicate (fn.ntmps - args.length) .any, h⟩ { tmps := vs ++ Array.replicate (fn.ntmps - vs.size) undef, defers := [] } w := by
    refine ⟨⟨he, hH, hr, hg, ⟨by simp [ht.1], fun i hi hi' => ?_⟩, rfl⟩, by rw [← he]; exact Ev.refl e, WS.refl w, by rw [he]; exact Nat.le_refl _⟩
    by_cases hia : i < args.length
    · have := ht.2 i hia (ht.1 ▸ hia)
      simp only [List.getElem_append_left hia]
      rw [Array.getElem_append_left (ht.1 ▸ hia)]
      exact this
    · simp only [List.getElem_append_right (Nat.le_of_not_lt hia), List.getElem_replicate]
      exact .any
  refine wp_mono (vc_sound hw c d hc _ e _ _ w hrel H) fun ex a' w' hq => ?_
  have fin : ∀ e' s', RelE G [] h.length e w e' s' a' w' → (∃ ds, resD s'.h s'.t rs = some ds ∧ ∃ v h', WkV h (mkRes ds) s'.h v h' ∧ R v h') →
      a'.defers = [] ∧ ∃ u, (results fn a'.tmps).run P w' = .ok u w' ∧ ∃ v' e'' v h', Ending.returned u = .returned v' ∧ e''.H = w'.heap ∧ e''.h = h' ∧ WS w w' ∧ HR e'' ∧ VR e'' v v' ∧ Ev e.h.length e e'' ∧ R v h' := by
    rintro e' s' hr' ⟨ds, hds, v, h', hwk, hR⟩
    obtain ⟨us, h1, h2, h3⟩ := run_res (P := P) hr'.r fn.results.toList rs ds hrs hds
    have hres : (results fn a'.tmps).run P w' = .ok (if h : us.toArray.size = 1 then us.toArray[0] else .tuple us.toArray) w' := by
      unfold results
      rw [Array.mapM_eq_mapM_toList]
      rw [Sem.run_bind, Sem.run_map]
      erw [h1]
      rfl
    have hv : VR e' (mkRes ds) (if h : us.toArray.size = 1 then us.toArray[0] else .tuple us.toArray) := by
      match ds, us, h2, h3 with
      | [d], [u], _, h3 => simpa [mkRes] using h3 0 (by simp) (by simp)
      | [], [], _, _ => exact .tup (by simp) (fun i hi => by simp at hi)
      | d1 :: d2 :: dr, u1 :: u2 :: ur, h2, h3 =>
        rw [dif_neg (by simp)]
        exact .tup (by simpa using h2) (fun i hi hi' => by simpa using h3 i hi (by simpa using hi'))
    obtain ⟨e'', g1, g2, g3, g4, g5⟩ := hwk hw e' _ hr'.r.h hr'.r.hr hv (by rw [← hr'.r.h]; exact hr'.ev.len)
    refine ⟨hr'.r.df, _, hres, _, e'', v, h', rfl, by rw [g2]; exact hr'.r.H, g1, hr'.ws, g3, g4, ?_, hR⟩
    rw [he]
    exact hr'.ev.trans g5 (Nat.le_refl _)
  cases ex with
  | normal => obtain ⟨e', s', hr', hq⟩ := hq; exact fin e' s' hr' hq
  | ret => obtain ⟨e', s', hr', hq⟩ := hq; exact fin e' s' hr' hq
  | exit i => obtain ⟨e', s', hr', hq⟩ := hq; exact hq.elim
  | _ => exact hq.elim

theorem OkR_of_vc {f : FuncId} {fn : Func} {c : Code} {d : DC} {rs : List DR} (hf : P.funcs[f]? = some fn) (hb : fn.body = some c) (hc : cCode P c = some d) (hrs : cRes P fn.results.toList = some rs) {args : List DV} {h : List Blk} {R : DV → List Blk → Prop} {n : Nat} (hn : fn.ntmps - args.length = n)
    (H : vc P G h d ⟨args ++ List.replicate n .any, h⟩ fun x s => match x with
      | .nrm | .ret => ∃ ds, resD s.h s.t rs = some ds ∧ ∃ v h', WkV h (mkRes ds) s.h v h' ∧ R v h'
      | _ => False) : OkR P G f args h R :=
  fun e w vs he hH hr hg ht => calls_of_wp hf hb (wp_of_vc hc hrs hn H e w vs he hH hr hg ht)

/-- The same of a call that was put off. -/
def OkD (P : Program) (G : Nat → DV) (f : FuncId) (args : List DV) (h : List Blk) (R : DV → List Blk → Prop) : Prop :=
  ∀ (e : Env) (w : World) (vs : Array Value), e.h = h → e.H = w.heap → HR e → GR e G → TR e args vs →
    CallsD P f vs .returning w fun en u' w' => u' = .returning ∧ ∃ v' e' v h', en = .returned v' ∧ e'.H = w'.heap ∧ e'.h = h' ∧ WS w w' ∧ HR e' ∧ VR e' v v' ∧ Ev e.h.length e e' ∧ R v h'
theorem OkD_of_code {f : FuncId} {fn : Func} {d : DC} {rs : List DR} (hf : P.funcs[f]? = some fn) (hc : fn.body.bind (cCode P) = some d) (hrs : cRes P fn.results.toList = some rs) {args : List DV} {h : List Blk} {R : DV → List Blk → Prop} (n : Nat) (hn : fn.ntmps = args.length + n)
    (H : vc P G h d ⟨args ++ List.replicate n .any, h⟩ fun x s => match x with
      | .nrm | .ret => ∃ ds, resD s.h s.t rs = some ds ∧ ∃ v h', WkV h (mkRes ds) s.h v h' ∧ R v h'
      | _ => False) : OkD P G f args h R := by
  cases hb : fn.body with
  | none => rw [hb] at hc; cases hc
  | some c =>
    rw [hb] at hc
    exact fun e w vs he hH hr hg ht => callsD_of_wp hf hb (wp_of_vc hc hrs (n := n) (by omega) H e w vs he hH hr hg ht)

theorem OkR_of_code {f : FuncId} {fn : Func} {d : DC} {rs : List DR} (hf : P.funcs[f]? = some fn) (hc : fn.body.bind (cCode P) = some d) (hrs : cRes P fn.results.toList = some rs) {args : List DV} {h : List Blk} {R : DV → List Blk → Prop} (n : Nat) (hn : fn.ntmps = args.length + n)
    (H : vc P G h d ⟨args ++ List.replicate n .any, h⟩ fun x s => match x with
      | .nrm | .ret => ∃ ds, resD s.h s.t rs = some ds ∧ ∃ v h', WkV h (mkRes ds) s.h v h' ∧ R v h'
      | _ => False) : OkR P G f args h R := by
  cases hb : fn.body with
  | none => rw [hb] at hc; cases hc
  | some c => rw [hb] at hc; exact OkR_of_vc hf hb hc hrs (n := n) (by omega) H

theorem OkR.toOk {f : FuncId} {args : List DV} {h : List Blk} {v : DV} {h' : List Blk} (hf : OkR P G f args h fun v1 h1 => v1 = v ∧ h1 = h') : Ok P G f args h v h' :=
  fun e w vs he hH hr hg ht => (hf e w vs he hH hr hg ht).mono fun en w' ⟨v', e', v1, h1, g1, g2, g3, g4, g5, g6, g7, g8, g9⟩ => ⟨v', e', g1, g2, by rw [g3, g9], g4, g5, by rw [← g8]; exact g6, g7⟩
theorem OkR.mono {f : FuncId} {args : List DV} {h : List Blk} {R R' : DV → List Blk → Prop} (hf : OkR P G f args h R) (hR : ∀ v h', R v h' → R' v h') : OkR P G f args h R' :=
  fun e w vs he hH hr hg ht => (hf e w vs he hH hr hg ht).mono fun en w' ⟨v', e', v1, h1, g1, g2, g3, g4, g5, g6, g7, g8⟩ => ⟨v', e', v1, h1, g1, g2, g3, g4, g5, g6, g7, hR _ _ g8⟩
theorem OkR.wf {f : FuncId} {args : List DV} {h : List Blk} {R : DV → List Blk → Prop} (hf : HWF h → OkR P G f args h R) : OkR P G f args h R :=
  fun e w vs he hH hr hg ht => hf (by rw [← he]; exact hr.hwf) e w vs he hH hr hg ht
theorem Ok.wf {f : FuncId} {args : List DV} {h : List Blk} {v : DV} {h' : List Blk} (hf : HWF h → Ok P G f args h v h') : Ok P G f args h v h' :=
  fun e w vs he hH hr hg ht => hf (by rw [← he]; exact hr.hwf) e w vs he hH hr hg ht
theorem Ok_of_code {f : FuncId} {fn : Func} {d : DC} {rs : List DR} (hf : P.funcs[f]? = some fn) (hc : fn.body.bind (cCode P) = some d) (hrs : cRes P fn.results.toList = some rs) {args : List DV} {h : List Blk} {v : DV} {h' : List Blk} (n : Nat) (hn : fn.ntmps = args.length + n)
    (H : vc P G h d ⟨args ++ List.replicate n .any, h⟩ fun x s => match x with
      | .nrm | .ret => ∃ ds, resD s.h s.t rs = some ds ∧ WkV h (mkRes ds) s.h v h'
      | _ => False) : Ok P G f args h v h' := by
  refine (OkR_of_code hf hc hrs n hn ?_).toOk
  have : (fun (x : DX) (s : St) => match x with
      | .nrm | .ret => ∃ ds, resD s.h s.t rs = some ds ∧ WkV h (mkRes ds) s.h v h'
      | _ => False) = (fun (x : DX) (s : St) => match x with
      | .nrm | .ret => ∃ ds, resD s.h s.t rs = some ds ∧ ∃ v1 h1, WkV h (mkRes ds) s.h v1 h1 ∧ v1 = v ∧ h1 = h'
      | _ => False) := by
    funext x s
    cases x <;> simp
  rw [← this]
  exact H

end
end Go.Den
