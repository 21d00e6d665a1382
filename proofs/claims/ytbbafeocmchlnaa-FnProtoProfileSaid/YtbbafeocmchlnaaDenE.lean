/- The library: contracts of functions over denoted values (E). -/
import Derived.Test.YtbbafeocmchlnaaDenD
set_option linter.unusedVariables false
set_option linter.unusedSimpArgs false
set_option linter.unusedSectionVars false
set_option linter.unnecessarySimpa false
namespace Go.Den
open Go

def aggDesc : TypeDesc → Bool
  | .struct _ | .array _ _ => true
  | _ => false

/-- A type: is it a struct or an array; its cells; its bytes. -/
structure Ty (P : Program) (t : TypeId) (g : Bool) (sz : Nat) : Prop where
  agg : ∃ d, P.underlying t = some d ∧ aggDesc d = g
  size : ∃ i, P.info? t = some i ∧ i.size = sz

def tyI (P : Program) (t : TypeId) : Option (Bool × Nat) :=
  match P.underlying t, P.info? t with
  | some d, some i => some (aggDesc d, i.size)
  | _, _ => none

theorem tyI_spec {P : Program} {t : TypeId} {g : Bool} {sz : Nat} (h : tyI P t = some (g, sz)) : Ty P t g sz := by
  unfold tyI at h
  split at h
  · rename_i d i h1 h2
    simp only [Option.some.injEq, Prod.mk.injEq] at h
    exact ⟨⟨d, h1, h.1⟩, ⟨i, h2, h.2⟩⟩
  · cases h

theorem Ty.run_agg {P : Program} {t : TypeId} {g : Bool} {sz : Nat} (h : Ty P t g sz) (w : World) : (isAgg t).run P w = .ok g w := by
  obtain ⟨d, h1, h2⟩ := h.agg
  subst h2
  unfold isAgg
  simp only [Sem.run_bind, run_underlying h1, Result.andThen_ok]
  cases d <;> rfl
theorem Ty.run_size {P : Program} {t : TypeId} {g : Bool} {sz : Nat} (h : Ty P t g sz) (w : World) : (sizeOf t).run P w = .ok sz w := by
  obtain ⟨i, h1, h2⟩ := h.size
  subst h2
  simp [sizeOf, typeInfo, h1]

theorem run_cells {P : Program} (w : World) (r o : Nat) (cs : List Value) (h : ∀ k (hk : k < cs.length), cellAt w.heap r (o + k) = some cs[k]) :
    (loadCells ⟨r, o, none⟩ cs.length).run P w = .ok cs.toArray w :=
  run_loadCells_list w _ _ fun j v hj => by
    rw [add_plain, cellAt_cell?]
    obtain ⟨h1, h2⟩ := List.getElem?_eq_some_iff.1 hj
    rw [h j h1, h2]

/-- The value that is read at an address. -/
def ofCells (g : Bool) (cs : List Value) : Value := if g then .agg cs.toArray else cs.getD 0 undef

theorem run_loadVar {P : Program} {t : TypeId} {g : Bool} {sz : Nat} (ht : Ty P t g sz) (w : World) (r o : Nat) (cs : List Value) (hl : cs.length = sz) (hg : g = false → sz = 1)
    (h : ∀ k (hk : k < cs.length), cellAt w.heap r (o + k) = some cs[k]) : (loadVar t ⟨r, o, none⟩).run P w = .ok (ofCells g cs) w := by
  unfold loadVar
  simp only [Sem.run_bind, ht.run_agg, Result.andThen_ok]
  cases g with
  | true =>
    simp only [if_true, Sem.run_bind, ht.run_size, Result.andThen_ok]
    rw [← hl, run_cells w r o cs h]
    rfl
  | false =>
    have h1 : cs.length = 1 := by rw [hl, hg rfl]
    have := h 0 (by omega)
    simp only [Bool.false_eq_true, if_false, run_load, cellAt_cell?]
    rw [Nat.add_zero] at this
    rw [this]
    simp [ofCells, h1]

/-- Cells o .. o + sz of a value, read: as 'sub' says. -/
theorem vr_sub {e : Env} {d : DV} {v : Value} (h : VR e d v) (o sz : Nat) (g : Bool) (hg : g = false → sz = 1) (hb : o + sz ≤ v.cells.size) :
    VR e (sub d o sz g) (ofCells g ((v.cells.toList.drop o).take sz)) := by
  have h0 := h.one
  cases g with
  | true =>
    simp only [ofCells, if_true]
    cases h with
    | agg hl h1 h =>
      rename_i cs vs
      simp only [Value.cells] at hb ⊢
      refine .agg (by simp [hl]) (fun i hi => ?_) fun i hi hi' => ?_
      · simp at hi
        simpa using h1 (o + i) (by omega)
      · simp at hi
        simpa using h (o + i) (by omega) (by omega)
    | _ => exact .any
  | false =>
    have h1 := hg rfl
    subst h1
    have hlt : o < v.cells.size := by omega
    have hv : ofCells false ((v.cells.toList.drop o).take 1) = v.cells[o] := by
      simp [ofCells, List.getD, hlt]
    rw [hv]
    have key : v.oneCell' = true → sub d o 1 false = d → VR e (sub d o 1 false) v.cells[o] := by
      intro ho hd
      have hc : v.cells = #[v] := by cases v <;> first | rfl | simp [Value.oneCell'] at ho
      rw [hd]
      simp only [hc] at hlt ⊢
      have : o = 0 := by simp at hlt; exact hlt
      subst this
      exact h
    cases h with
    | any => exact .any
    | tup => exact .any
    | agg hl h1 h =>
      simp only [sub, Value.cells] at hlt ⊢
      have := h o (hl ▸ hlt) hlt
      simpa [List.getD, hl ▸ hlt] using this
    | _ => exact key h0 rfl

theorem take_cells {α : Type} (l : List α) (o sz : Nat) (h : o + sz ≤ l.length) : ((l.drop o).take sz).length = sz := by simp; omega

section
variable {P : Program} {e : Env} {w : World} {K : DV → List Blk → Prop}

/-- A row's block, known. -/
theorem HR.cells (hr : HR e) {b sz : Nat} {els : List DV} (hb : e.h[b]? = some (.cells sz els)) {q : Nat × Nat} (hq : e.ρ b = some q) :
    ∃ c T fr, ∃ vs : Nat → Value, e.H[q.1]? = some (.cells c T fr) ∧ c.size = q.2 ∧ els.length * sz ≤ q.2 ∧ (∀ k, k < q.2 → ¬(fr.1 ≤ k ∧ k < fr.2)) ∧
      (∀ j (hj : j < els.length), VR e els[j] (vs j)) ∧ (∀ j, j < els.length → (vs j).cells.size = sz) ∧ (∀ j, j < els.length → Cells1 (vs j)) ∧
      (∀ j, j < els.length → ∀ k, k < sz → c[j * sz + k]? = (vs j).cells[k]?) := by
  have h := hr.blk b _ hb
  cases h with
  | nil h => rw [h] at hq; cases hq
  | cells q' c T fr vs hq' hH hc hl hf hv hsz h1 hcell =>
    rw [hq'] at hq
    cases hq
    exact ⟨c, T, fr, vs, hH, hc, hl, hf, hv, hsz, h1, hcell⟩

theorem y_load {t : TypeId} {g : Bool} {sz : Nat} (ht : Ty P t g sz) (hg : g = false → sz = 1) (hH : e.H = w.heap) (hr : HR e) {d : DV} {v : Value} (hv : VR e d v)
    (h : match (generalizing := false) d with
      | .ptr b i o x => (match e.h[b]? with
        | some (.cells bsz els) => x = els.length ∧ o + sz ≤ bsz ∧ K (sub (els.getD i .any) o sz g) e.h
        | _ => False)
      | .fp d => sz ≤ d.size ∧ K (sub d 0 sz g) e.h
      | _ => False) : Yields P (do pure (.value (← Instr.loadAt t v))) w (After e w K) := by
  cases d with
  | ptr b i o x =>
    simp only at h
    cases hb : e.h[b]? with
    | none => rw [hb] at h; exact h.elim
    | some blk =>
    rw [hb] at h
    cases blk with
    | cells bsz els =>
      simp only at h
      obtain ⟨rfl, hsz, hk⟩ := h
      have hkey : e.key b = some (.c bsz els.length) := Env.key_of hb
      obtain ⟨hi, q, hq, rfl⟩ := vr_ptr hv hkey
      obtain ⟨c, T, fr, vs, hh, hc, hl, hf, hvs, hvsz, h1, hcell⟩ := hr.cells hb hq
      have hd : els.getD i .any = els[i] := by simp [List.getD, hi]
      rw [hd] at hk
      have hs := hvsz i hi
      have hcs : ∀ k, k < sz → cellAt w.heap q.1 (i * bsz + o + k) = ((((vs i).cells.toList.drop o).take sz))[k]? := fun k hk => by
        simp only [cellAt, ← hH, hh]
        rw [Nat.add_assoc, hcell i hi (o + k) (by omega)]
        simp [hk]
      have hlen : (((vs i).cells.toList.drop o).take sz).length = sz := take_cells _ _ _ (by simp; omega)
      refine y_pure ?_ hH hr (vr_sub (hvs i hi) o sz g hg (by omega)) hk
      simp only [Sem.run_bind, Instr.loadAt, Instr.sureAddr, Sem.run_pure, Result.andThen_ok]
      rw [run_loadVar ht w q.1 (i * bsz + o) _ hlen hg fun k hk => by
        rw [hcs k (by omega), List.getElem?_eq_getElem hk]]
      rfl
    | _ => exact h.elim
  | fp d =>
    obtain ⟨hsz, hk⟩ := h
    cases hv with
    | fp v0 hs hro hv hcell =>
      rename_i a
      obtain ⟨r, o, sp⟩ := a
      obtain rfl : sp = none := hs
      by_cases hst : d.storable = true
      · have hz := vr_size hv hst
        have hlen : ((v0.cells.toList.drop 0).take sz).length = sz := take_cells _ _ _ (by simp; omega)
        refine y_pure ?_ hH hr (vr_sub hv 0 sz g hg (by omega)) hk
        simp only [Sem.run_bind, Instr.loadAt, Instr.sureAddr, Sem.run_pure, Result.andThen_ok]
        rw [run_loadVar ht w r o _ hlen hg fun k hk => by
          have h3 := hcell k (by omega)
          rw [← hH]
          simp only at h3
          rw [h3]
          simp [show k < v0.cells.size by omega]]
        rfl
      · have : d.size = 0 := by cases d <;> simp [DV.storable] at hst <;> rfl
        have h0 : sz = 0 := by omega
        subst h0
        cases g with
        | false => simp at hg
        | true =>
          refine y_pure (v := ofCells true []) ?_ hH hr (d := sub d 0 0 true) ?_ hk
          · simp only [Sem.run_bind, Instr.loadAt, Instr.sureAddr, Sem.run_pure, Result.andThen_ok]
            rw [run_loadVar ht w r o [] rfl hg fun k hk => by simp at hk]
            rfl
          · cases d <;> simp [DV.storable] at hst <;> exact .any
  | _ => exact h.elim

end
end Go.Den
