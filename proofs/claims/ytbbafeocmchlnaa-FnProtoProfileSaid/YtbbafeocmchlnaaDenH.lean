/- The library: contracts of functions over denoted values (H). -/
import Derived.Test.YtbbafeocmchlnaaDenG
set_option linter.unusedVariables false
set_option linter.unusedSimpArgs false
set_option linter.unusedSectionVars false
set_option linter.unnecessarySimpa false
namespace Go.Den
open Go

section
variable {P : Program} {e : Env} {w : World} {K : DV → List Blk → Prop}

theorem y_iaddr {t el : TypeId} {g : Bool} {sz : Nat} (hu : P.underlying t = some (.slice el)) (ht : Ty P el g sz) (hH : e.H = w.heap) (hr : HR e) {d di : DV} {v vi : Value} (hv : VR e d v) (hvi : VR e di vi)
    (h : match (generalizing := false) d, di with
      | .sl b s n y, .p (.int _ j) => (match e.h[b]? with | some (.cells bsz els) => y = els.length ∧ bsz = sz | _ => False) ∧ 0 ≤ j ∧ j < n ∧ K (.ptr b (s + j.toNat) 0 y) e.h
      | .fz sz' l, .p (.int _ j) => sz' = sz ∧ 0 ≤ j ∧ j < l.length ∧ K (.fp (l.getD j.toNat .any)) e.h
      | .sa g z b i o n c x, .p (.int _ j) => (match e.h[b]? with | some (.cells _ els) => x = els.length ∧ z = sz | _ => False) ∧ 0 ≤ j ∧ j < n ∧ K (.ptr b i (o + j.toNat * z) x) e.h
      | _, _ => False) : Yields P (do pure (.value (← Instr.indexAt t v vi))) w (After e w K) := by
  have run : ∀ r o n c k (j : Int), 0 ≤ j → j < (n : Nat) → (Instr.indexAt t (.slice (some ⟨r, o, none⟩) n c) (.int k j)).run P w = .ok (.pointer (some ⟨r, o + j.toNat * sz, none⟩)) w := fun r o n c k j h0 h1 => by
    simp only [Instr.indexAt, asIntOf, Sem.run_bind, run_underlying hu, Result.andThen_ok, Sem.run_pure, ht.run_size]
    rw [if_pos ⟨h0, h1⟩]
    simp [ht.run_size, add_plain]
  cases d with
  | sl b s n y =>
    cases di with
    | p u =>
      cases u with
      | int k j =>
        obtain ⟨hb, h0, h1, hk⟩ := h
        obtain ⟨rfl, _⟩ := vr_p hvi
        cases hbb : e.h[b]? with
        | none => rw [hbb] at hb; exact hb.elim
        | some blk =>
        rw [hbb] at hb
        cases blk with
        | cells bsz els =>
          simp only at hb
          obtain ⟨rfl, rfl⟩ := hb
          have hkey : e.key b = some (.c bsz els.length) := Env.key_of hbb
          obtain ⟨hi, hcase⟩ := vr_sl hv hkey
          rcases hcase with ⟨hq, rfl⟩ | ⟨q, a, cap, hq, rfl, hc, hC, ha⟩
          · obtain ⟨_, _, h2⟩ := vr_sl_n hv
            injection h2 with _ h3
            omega
          · obtain rfl := ha (by omega)
            refine y_pure (by simp [run _ _ _ _ _ _ h0 h1]; rfl) hH hr ?_ hk
            refine .ptr (Env.key_lt (by rw [hkey]; simp)) (fun sz' m h => ?_) rfl
            rw [hkey] at h
            simp only [Option.some.injEq, Key.c.injEq] at h
            obtain ⟨rfl, rfl⟩ := h
            exact ⟨Nat.le_refl _, fun _ => ⟨by omega, q, hq, by simp [Nat.add_mul]⟩⟩
        | _ => exact hb.elim
      | _ => exact h.elim
    | _ => exact h.elim
  | sa g z b i o n c x =>
    cases di with
    | p u =>
      cases u with
      | int k j =>
        obtain ⟨hb, h0, h1, hk⟩ := h
        obtain ⟨rfl, _⟩ := vr_p hvi
        cases hbb : e.h[b]? with
        | none => rw [hbb] at hb; exact hb.elim
        | some blk =>
        rw [hbb] at hb
        cases blk with
        | cells bsz els =>
          simp only at hb
          obtain ⟨rfl, rfl⟩ := hb
          have hkey : e.key b = some (.c bsz els.length) := Env.key_of hbb
          obtain ⟨hi, q, a, hq, rfl, hc, hC, ha⟩ := vr_sa hv hkey
          obtain rfl := ha (by omega)
          refine y_pure (by simp [run _ _ _ _ _ _ h0 h1]; rfl) hH hr ?_ hk
          refine .ptr (Env.key_lt (by rw [hkey]; simp)) (fun sz' m h => ?_) rfl
          rw [hkey] at h
          simp only [Option.some.injEq, Key.c.injEq] at h
          obtain ⟨rfl, rfl⟩ := h
          exact ⟨Nat.le_refl _, fun _ => ⟨hi, q, hq, by simp [Nat.add_assoc]⟩⟩
        | _ => exact hb.elim
      | _ => exact h.elim
    | _ => exact h.elim
  | fz sz' l =>
    cases di with
    | p u =>
      cases u with
      | int k j =>
        obtain ⟨rfl, h0, h1, hk⟩ := h
        obtain ⟨rfl, _⟩ := vr_p hvi
        cases hv with
        | fz0 => simp at h1; omega
        | fz vs hs hc hro hvv hsz h1c hcell =>
          rename_i a cap
          obtain ⟨r, o, sp⟩ := a
          obtain rfl : sp = none := hs
          have hj : j.toNat < l.length := by omega
          refine y_pure (by simp [run _ _ _ _ _ _ h0 h1]; rfl) hH hr ?_ hk
          rw [show l.getD j.toNat .any = l[j.toNat] by simp [List.getD, hj]]
          refine .fp (vs j.toNat) rfl hro (hvv _ hj) fun k hk => ?_
          exact hcell j.toNat hj k (by rw [hsz _ hj] at hk; exact hk)
      | _ => exact h.elim
    | _ => exact h.elim
  | _ => exact h.elim

theorem y_iaddra {t el : TypeId} {n : Nat} {g : Bool} {sz : Nat} (hu : P.underlying t = some (.array n el)) (ht : Ty P el g sz) (hg : g = false → sz = 1) (h0 : 0 < sz) (hH : e.H = w.heap) (hr : HR e) {d di : DV} {v vi : Value} (hv : VR e d v) (hvi : VR e di vi)
    (h : match (generalizing := false) d, di with
      | .ptr b s o y, .p (.int _ j) => (match e.h[b]? with | some (.cells _ els) => y = els.length | _ => False) ∧ 0 ≤ j ∧ j < n ∧ K (.ptr b s (o + j.toNat * sz) y) e.h
      | .fp d, .p (.int _ j) => d.size = n * sz ∧ 0 ≤ j ∧ j < n ∧ K (.fp (sub d (j.toNat * sz) sz g)) e.h
      | _, _ => False) : Yields P (do pure (.value (← Instr.indexAt t v vi))) w (After e w K) := by
  have run : ∀ r o k (j : Int), 0 ≤ j → j < n → (Instr.indexAt t (.pointer (some ⟨r, o, none⟩)) (.int k j)).run P w = .ok (.pointer (some ⟨r, o + j.toNat * sz, none⟩)) w := fun r o k j h0 h1 => by
    simp only [Instr.indexAt, asIntOf, Sem.run_bind, run_underlying hu, Result.andThen_ok, Sem.run_pure, ht.run_size, Instr.sureAddr]
    rw [if_pos ⟨h0, h1⟩]
    simp [ht.run_size, add_plain]
  cases d with
  | ptr b s o y =>
    cases di with
    | p u =>
      cases u with
      | int k j =>
        obtain ⟨hb, h0, h1, hk⟩ := h
        obtain ⟨rfl, _⟩ := vr_p hvi
        cases hbb : e.h[b]? with
        | none => rw [hbb] at hb; exact hb.elim
        | some blk =>
        rw [hbb] at hb
        cases blk with
        | cells bsz els =>
          simp only at hb
          subst hb
          have hkey : e.key b = some (.c bsz els.length) := Env.key_of hbb
          obtain ⟨hi, q, hq, rfl⟩ := vr_ptr hv hkey
          refine y_pure (by simp [run _ _ _ _ h0 h1]; rfl) hH hr ?_ hk
          refine .ptr (Env.key_lt (by rw [hkey]; simp)) (fun sz' m h => ?_) rfl
          rw [hkey] at h
          simp only [Option.some.injEq, Key.c.injEq] at h
          obtain ⟨rfl, rfl⟩ := h
          exact ⟨Nat.le_refl _, fun _ => ⟨by omega, q, hq, by simp [Nat.add_assoc]⟩⟩
        | _ => exact hb.elim
      | _ => exact h.elim
    | _ => exact h.elim
  | fp d =>
    cases di with
    | p u =>
      cases u with
      | int k j =>
        obtain ⟨hds, h2, h3, hk⟩ := h
        obtain ⟨rfl, _⟩ := vr_p hvi
        cases hv with
        | fp v0 hs hro hv hcell =>
          rename_i a
          obtain ⟨r, o, sp⟩ := a
          obtain rfl : sp = none := hs
          have hjn : (j.toNat + 1) * sz ≤ n * sz := Nat.mul_le_mul_right _ (by omega)
          rw [Nat.succ_mul] at hjn
          have hst : d.storable = true := by cases d <;> first | rfl | (simp [DV.size] at hds; omega)
          have hz := vr_size hv hst
          have hlen : ((v0.cells.toList.drop (j.toNat * sz)).take sz).length = sz := take_cells _ _ _ (by simp; omega)
          have hone : ∀ j (hj : j < v0.cells.size), v0.cells[j].oneCell' = true := hv.cells1 hst
          refine y_pure (by simp [run _ _ _ _ h2 h3]; rfl) hH hr ?_ hk
          refine .fp (ofCells g ((v0.cells.toList.drop (j.toNat * sz)).take sz)) rfl hro (vr_sub hv _ _ g hg (by omega)) fun k hk => ?_
          have hsize : (ofCells g ((v0.cells.toList.drop (j.toNat * sz)).take sz)).cells = ((v0.cells.toList.drop (j.toNat * sz)).take sz).toArray := by
            cases g with
            | true => rfl
            | false =>
              have := hg rfl
              subst this
              have hlt : j.toNat * 1 < v0.cells.size := by omega
              have e1 : (v0.cells.toList.drop (j.toNat * 1)).take 1 = [v0.cells[j.toNat * 1]] := by
                rw [List.drop_eq_getElem_cons (by simpa using hlt)]; simp
              rw [e1]
              simp only [ofCells, Bool.false_eq_true, if_false, List.getD_cons_zero]
              exact one_cells (hone _ hlt)
          rw [hsize] at hk ⊢
          simp at hk
          have := hcell (j.toNat * sz + k) (by omega)
          simp only at this ⊢
          rw [Nat.add_assoc, this]
          simp
          rw [List.getElem?_take, if_pos (by omega), List.getElem?_drop]
          simp
      | _ => exact h.elim
    | _ => exact h.elim
  | _ => exact h.elim

/-- A part of a struct or an array. -/
theorem run_part {t : TypeId} {g : Bool} {sz : Nat} (ht : Ty P t g sz) (hg : g = false → sz = 1) (cs : Array Value) (o : Nat) (hb : o + sz ≤ cs.size) : (part t cs o).run P w = .ok (ofCells g ((cs.toList.drop o).take sz)) w := by
  unfold part
  simp only [Sem.run_bind, ht.run_agg, Result.andThen_ok]
  cases g with
  | true =>
    simp only [if_true, Sem.run_bind, ht.run_size, Result.andThen_ok, Sem.run_pure, ofCells]
    congr 2
    apply Array.ext'
    simp [List.extract_eq_take_drop]
  | false =>
    have := hg rfl
    subst this
    have hlt : o < cs.size := by omega
    simp only [Bool.false_eq_true, if_false]
    rw [Array.getElem?_eq_getElem hlt]
    simp [ofCells, List.getD, hlt]

theorem y_fld {t : TypeId} {f : Nat} {fs : Array Field} {fd : Field} {g : Bool} {sz : Nat} (hu : P.underlying t = some (.struct fs)) (hf : fs[f]? = some fd) (ht : Ty P fd.type g sz) (hg : g = false → sz = 1) (hH : e.H = w.heap) (hr : HR e) {d : DV} {v : Value} (hv : VR e d v)
    (h : match (generalizing := false) d with
      | .agg cs => fd.offset + sz ≤ cs.length ∧ K (sub (.agg cs) fd.offset sz g) e.h
      | _ => False) : Yields P (do pure (.value (← Instr.field t v f))) w (After e w K) := by
  cases d with
  | agg cs =>
    obtain ⟨hb, hk⟩ := h
    obtain ⟨vs, rfl, hl, h1, hvv⟩ := vr_agg hv
    have hb' : fd.offset + sz ≤ (Value.agg vs).cells.size := by simp only [Value.cells]; omega
    refine y_pure ?_ hH hr (vr_sub hv fd.offset sz g hg hb') hk
    simp only [Instr.field, Sem.run_bind, run_underlying hu, Result.andThen_ok, hf, asAgg, Sem.run_pure]
    rw [run_part ht hg vs _ (by simpa [Value.cells] using hb')]
    rfl
  | _ => exact h.elim

theorem y_idxa {t el : TypeId} {n : Nat} {g : Bool} {sz : Nat} (hu : P.underlying t = some (.array n el)) (ht : Ty P el g sz) (hg : g = false → sz = 1) (hH : e.H = w.heap) (hr : HR e) {d di : DV} {v vi : Value} (hv : VR e d v) (hvi : VR e di vi)
    (h : match (generalizing := false) d, di with
      | .agg cs, .p (.int _ j) => 0 ≤ j ∧ j < n ∧ cs.length = n * sz ∧ K (sub (.agg cs) (j.toNat * sz) sz g) e.h
      | _, _ => False) : Yields P (do pure (.value (← Instr.index t v vi))) w (After e w K) := by
  cases d with
  | agg cs =>
    cases di with
    | p u =>
      cases u with
      | int k j =>
        obtain ⟨h0, h1, hcs, hk⟩ := h
        obtain ⟨rfl, _⟩ := vr_p hvi
        obtain ⟨vs, rfl, hl, h2, hvv⟩ := vr_agg hv
        have hjn : (j.toNat + 1) * sz ≤ n * sz := Nat.mul_le_mul_right _ (by omega)
        rw [Nat.succ_mul] at hjn
        have hb' : j.toNat * sz + sz ≤ (Value.agg vs).cells.size := by simp only [Value.cells]; omega
        refine y_pure ?_ hH hr (vr_sub hv (j.toNat * sz) sz g hg hb') hk
        simp only [Instr.index, asIntOf, Sem.run_bind, run_underlying hu, Result.andThen_ok, Sem.run_pure]
        rw [if_pos ⟨h0, h1⟩]
        simp only [Sem.run_bind, ht.run_size, Result.andThen_ok]
        rw [run_part ht hg vs _ (by simpa [Value.cells] using hb')]
        rfl
      | _ => exact h.elim
    | _ => exact h.elim
  | _ => exact h.elim

end
end Go.Den
