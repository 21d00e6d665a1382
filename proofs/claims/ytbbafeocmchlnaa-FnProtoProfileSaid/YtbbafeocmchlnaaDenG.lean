/- The library: contracts of functions over denoted values (G). -/
import Derived.Test.YtbbafeocmchlnaaDenF
set_option linter.unusedVariables false
set_option linter.unusedSimpArgs false
set_option linter.unusedSectionVars false
set_option linter.unnecessarySimpa false
namespace Go.Den
open Go

/-- A new row. -/
theorem env_alloc {e : Env} (hr : HR e) (sz : Nat) (els : List DV) (c : Array Value) (T : TypeId) (fr : Nat × Nat) (vs : Nat → Value) (hl : els.length * sz ≤ c.size) (hf : ∀ k, k < c.size → ¬(fr.1 ≤ k ∧ k < fr.2))
    (hv : ∀ j (hj : j < els.length), VR e els[j] (vs j)) (hsz : ∀ j, j < els.length → (vs j).cells.size = sz) (h1 : ∀ j, j < els.length → Cells1 (vs j))
    (hcell : ∀ j, j < els.length → ∀ k, k < sz → c[j * sz + k]? = (vs j).cells[k]?) :
    let e' : Env := ⟨upd e.ρ e.h.length (some (e.H.size, c.size)), e.h ++ [.cells sz els], e.H.push (.cells c T fr)⟩
    Ev e.h.length e e' ∧ HR e' ∧ e'.key e.h.length = some (.c sz els.length) ∧ e'.ρ e.h.length = some (e.H.size, c.size) := by
  intro e'
  obtain ⟨ev, hh⟩ := env_push hr (.cells sz els) (some (e.H.size, c.size)) (e.H.push (.cells c T fr)) (by simp) (fun r hr => by simp [Array.getElem?_push, Nat.ne_of_lt hr]) (fun q h => by cases h; exact Nat.le_refl _)
  refine ⟨ev, hh ?_, ?_, upd_same _ _ _⟩
  · exact .cells (e.H.size, c.size) c T fr vs (upd_same _ _ _) (by simp) rfl hl hf (fun j hj => (hv j hj).mono ev) hsz h1 hcell
  · simp [Env.key, e', Blk.key]

theorem vr_ptr_new {e : Env} {b sz r C : Nat} (hk : e.key b = some (.c sz 1)) (hq : e.ρ b = some (r, C)) : VR e (.ptr b 0 0 1) (.pointer (some ⟨r, 0, none⟩)) := by
  refine .ptr (Env.key_lt (by rw [hk]; simp)) (fun sz' n h => ?_) rfl
  rw [hk] at h
  simp only [Option.some.injEq, Key.c.injEq] at h
  obtain ⟨rfl, rfl⟩ := h
  exact ⟨Nat.le_refl _, fun _ => ⟨by omega, (r, C), hq, by simp⟩⟩

theorem vr_sl_new {e : Env} {b sz n r C cap : Nat} (hk : e.key b = some (.c sz n)) (hq : e.ρ b = some (r, C)) (hc : n ≤ cap) (hC : cap * sz ≤ C) : VR e (.sl b 0 n n) (.slice (some ⟨r, 0, none⟩) n cap) := by
  refine .sl (Env.key_lt (by rw [hk]; simp)) (fun sz' m h => ?_) ⟨_, _, rfl⟩
  rw [hk] at h
  simp only [Option.some.injEq, Key.c.injEq] at h
  obtain ⟨rfl, rfl⟩ := h
  exact ⟨Nat.le_refl _, fun _ => ⟨by omega, .inr ⟨(r, C), _, cap, hq, rfl, hc, by simpa using hC, fun _ => by simp⟩⟩⟩

section
variable {P : Program} {e : Env} {w : World} {K : DV → List Blk → Prop}

/-- A new variable that holds a value. -/
theorem y_new {d : DV} {v : Value} (T : TypeId) (hH : e.H = w.heap) (hr : HR e) (hv : VR e d v) (hst : d.storable = true) (hk : K (.ptr e.h.length 0 0 1) (e.h ++ [.cells d.size [d]])) {x : Sem Next}
    (hx : x.run P w = .ok (.value (.pointer (some ⟨w.heap.size, 0, none⟩))) (w.alloc (.cells v.cells T))) : Yields P x w (After e w K) := by
  have hs := vr_size hv hst
  obtain ⟨ev, hr', hkey, hq⟩ := env_alloc hr d.size [d] v.cells T (0, 0) (fun _ => v) (by simp [hs]) (fun k _ h => by simp at h) (fun j hj => by
      have : j = 0 := by simp at hj; exact hj
      subst this; exact hv) (fun _ _ => hs) (fun _ _ => hv.cells1 hst) (fun j hj k hk => by
      have : j = 0 := by simp at hj; exact hj
      subst this; simp)
  unfold Yields
  rw [hx]
  refine ⟨_, _, by rw [hH]; rfl, ⟨rfl, rfl, rfl⟩, hr', ev, ?_, hk⟩
  rw [← hH]
  exact vr_ptr_new hkey hq

theorem y_box {t : TypeId} {d : DV} {v : Value} (hH : e.H = w.heap) (hr : HR e) (hv : VR e d v) (h : d.storable = true ∧ K (.ptr e.h.length 0 0 1) (e.h ++ [.cells d.size [d]])) :
    Yields P (do pure (.value (← Instr.box t v))) w (After e w K) :=
  y_new t hH hr hv h.1 h.2 (by simp [Instr.box, newVar, newRow])

theorem y_alloc {t : TypeId} {z : Value} (hz : ∃ i, P.info? t = some i ∧ i.zero = some z) {d : DV} (hd : VR e d z) (hst : d.storable = true) (hH : e.H = w.heap) (hr : HR e)
    (h : K (.ptr e.h.length 0 0 1) (e.h ++ [.cells d.size [d]])) : Yields P (do pure (.value (← Instr.alloc t true (.tuple #[])))) w (After e w K) := by
  obtain ⟨i, h1, h2⟩ := hz
  exact y_new t hH hr hd hst h (by simp [Instr.alloc, zeroValue, typeInfo, h1, h2, newVar, newRow])

theorem y_faddr {t : TypeId} {f : Nat} {fs : Array Field} {fd : Field} {g : Bool} {sz : Nat} (hu : P.underlying t = some (.struct fs)) (hf : fs[f]? = some fd) (ht : Ty P fd.type g sz) (h0 : 0 < sz) (hg : g = false → sz = 1) (hH : e.H = w.heap) (hr : HR e) {d : DV} {v : Value} (hv : VR e d v)
    (h : match (generalizing := false) d with
      | .ptr b i o' x => (match e.h[b]? with | some (.cells _ els) => x = els.length | _ => False) ∧ K (.ptr b i (o' + fd.offset) x) e.h
      | .fp d => fd.offset + sz ≤ d.size ∧ K (.fp (sub d fd.offset sz g)) e.h
      | _ => False) : Yields P (do pure (.value (← Instr.fieldAt t v f))) w (After e w K) := by
  have run : ∀ r o, (Instr.fieldAt t (.pointer (some ⟨r, o, none⟩)) f).run P w = .ok (.pointer (some ⟨r, o + fd.offset, none⟩)) w := fun r o => by
    simp only [Instr.fieldAt, Sem.run_bind, run_underlying hu, Result.andThen_ok, hf, Instr.sureAddr, Sem.run_pure, fieldPlace, ht.run_size]
    rw [if_neg (by omega)]
    simp [add_plain]
  cases d with
  | ptr b i o x =>
    obtain ⟨hb, hk⟩ := h
    cases hbb : e.h[b]? with
    | none => rw [hbb] at hb; exact hb.elim
    | some blk =>
    rw [hbb] at hb
    cases blk with
    | cells bsz els =>
      simp only at hb
      subst hb
      have hkey : e.key b = some (.c bsz els.length) := Env.key_of hbb
      obtain ⟨hi, q, hq, rfl⟩ := vr_ptr hv hkey
      refine y_pure (by simp [run]; rfl) hH hr ?_ hk
      refine .ptr (Env.key_lt (by rw [hkey]; simp)) (fun sz' n h => ?_) rfl
      rw [hkey] at h
      simp only [Option.some.injEq, Key.c.injEq] at h
      obtain ⟨rfl, rfl⟩ := h
      exact ⟨Nat.le_refl _, fun _ => ⟨hi, q, hq, by simp [Nat.add_assoc]⟩⟩
    | _ => exact hb.elim
  | fp d =>
    obtain ⟨hsz, hk⟩ := h
    cases hv with
    | fp v0 hs hro hv hcell =>
      rename_i a
      obtain ⟨r, o, sp⟩ := a
      obtain rfl : sp = none := hs
      have hst : d.storable = true := by cases d <;> first | rfl | (simp [DV.size] at hsz; omega)
      have hz := vr_size hv hst
      have hlen : ((v0.cells.toList.drop fd.offset).take sz).length = sz := take_cells _ _ _ (by simp; omega)
      have hone : ∀ j (hj : j < v0.cells.size), v0.cells[j].oneCell' = true := hv.cells1 hst
      refine y_pure (by simp [run]; rfl) hH hr ?_ hk
      refine .fp (ofCells g ((v0.cells.toList.drop fd.offset).take sz)) rfl hro (vr_sub hv _ _ g hg (by omega)) fun k hk => ?_
      have hsize : (ofCells g ((v0.cells.toList.drop fd.offset).take sz)).cells = ((v0.cells.toList.drop fd.offset).take sz).toArray := by
        cases g with
        | true => rfl
        | false =>
          have := hg rfl
          subst this
          have hlt : fd.offset < v0.cells.size := by omega
          have e1 : (v0.cells.toList.drop fd.offset).take 1 = [v0.cells[fd.offset]] := by
            rw [List.drop_eq_getElem_cons (by simpa using hlt)]; simp
          rw [e1]
          simp only [ofCells, Bool.false_eq_true, if_false, List.getD_cons_zero]
          exact one_cells (hone _ hlt)
      rw [hsize] at hk ⊢
      simp at hk
      have := hcell (fd.offset + k) (by omega)
      simp only at this ⊢
      rw [Nat.add_assoc, this]
      simp
      rw [List.getElem?_take, if_pos (by omega), List.getElem?_drop]
      simp
  | _ => exact h.elim

end
end Go.Den
