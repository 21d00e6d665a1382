/- The library: contracts of functions over denoted values (F). -/
import Derived.Test.YtbbafeocmchlnaaDenE
set_option linter.unusedVariables false
set_option linter.unusedSimpArgs false
set_option linter.unusedSectionVars false
set_option linter.unnecessarySimpa false
namespace Go.Den
open Go

/-- A row of cells with some written. -/
structure Spliced (c c' : Array Value) (o : Nat) (vs : List Value) : Prop where
  size : c'.size = c.size
  old : ∀ k, (k < o ∨ o + vs.length ≤ k) → c'[k]? = c[k]?
  new : ∀ k, k < vs.length → c'[o + k]? = vs[k]?

theorem run_storeCells {P : Program} (r : Nat) (T : TypeId) (fr : Nat × Nat) : ∀ (vs : List Value) (o i : Nat) (w : World) (c : Array Value), w.heap[r]? = some (.cells c T fr) → o + i + vs.length ≤ c.size →
    (∀ k, o + i ≤ k → k < o + i + vs.length → ¬(fr.1 ≤ k ∧ k < fr.2)) → (∀ v ∈ vs, v.oneCell' = true) →
    ∃ w' c', (storeCells ⟨r, o, none⟩ vs i).run P w = .ok () w' ∧ WS w w' ∧ w'.heap.size = w.heap.size ∧ w'.heap[r]? = some (.cells c' T fr) ∧ Spliced c c' (o + i) vs ∧ ∀ s, s ≠ r → w'.heap[s]? = w.heap[s]?
  | [], o, i, w, c, hc, _, _, _ => ⟨w, c, rfl, WS.refl w, rfl, hc, ⟨rfl, fun _ _ => rfl, fun k hk => by simp at hk⟩, fun _ _ => rfl⟩
  | v :: rest, o, i, w, c, hc, hl, hf, h1 => by
    simp only [List.length_cons] at hl hf
    have hi : o + i < c.size := by omega
    have hcell : w.cell? ⟨r, o + i, none⟩ = some c[o + i] := by simp [World.cell?, hc, hi]
    have hfro : w.frozen? ⟨r, o + i, none⟩ = false := by
      have := hf (o + i) (by omega) (by omega)
      obtain ⟨lo, hi'⟩ := fr
      simp only [World.frozen?, hc, Bool.and_eq_false_iff, decide_eq_false_iff_not]
      simp only at this
      omega
    have hlt : r < w.heap.size := (Array.getElem?_eq_some_iff.1 hc).1
    have hst : (store ((⟨r, o, none⟩ : Addr).add i) v).run P w = .ok () (w.setCell ⟨r, o + i, none⟩ v) := by
      rw [add_plain, run_store P w _ v _ (h1 v (by simp))]
      simp [hcell, hfro]
    have hset : (w.setCell ⟨r, o + i, none⟩ v).heap[r]? = some (.cells (c.setIfInBounds (o + i) v) T fr) := by
      simp only [World.setCell, Array.getElem?_modify, hc, if_true, Option.map_some]
      simp [hi]
    obtain ⟨w', c', e1, e2, e3, e4, e5, e6⟩ := run_storeCells (P := P) r T fr rest o (i + 1) (w.setCell ⟨r, o + i, none⟩ v) (c.setIfInBounds (o + i) v) hset (by simp; omega) (fun k h2 h3 => hf k (by omega) (by omega)) (fun x hx => h1 x (by simp [hx]))
    refine ⟨w', c', ?_, ⟨e2.os, e2.tape, e2.output⟩, by rw [e3]; simp, e4, ⟨by rw [e5.size]; simp, fun k hk => ?_, fun k hk => ?_⟩, fun s hs => ?_⟩
    · simp only [storeCells, Sem.run_bind, hst, Result.andThen_ok, e1]
    · simp only [List.length_cons] at hk
      rw [e5.old k (by omega)]
      rw [Array.getElem?_setIfInBounds_ne (by omega)]
    · cases k with
      | zero =>
        rw [e5.old (o + i + 0) (by omega)]
        simp [hi]
      | succ k =>
        simp only [List.length_cons] at hk
        have := e5.new k (by omega)
        rw [show o + (i + 1) + k = o + i + (k + 1) by omega] at this
        rw [this]
        simp
    · rw [e6 s hs]
      simp only [World.setCell, Array.getElem?_modify]
      rw [if_neg (by omega)]

theorem put_getElem {α : Type} (cs xs : List α) (o : Nat) (h : o + xs.length ≤ cs.length) (k : Nat) :
    (cs.take o ++ xs ++ cs.drop (o + xs.length))[k]? = if o ≤ k ∧ k < o + xs.length then xs[k - o]? else cs[k]? := by
  by_cases h1 : k < o
  · rw [if_neg (by omega), List.append_assoc, List.getElem?_append_left (by simp; omega), List.getElem?_take, if_pos h1]
  · by_cases h2 : k < o + xs.length
    · rw [if_pos ⟨by omega, h2⟩, List.append_assoc, List.getElem?_append_right (by simp; omega), List.length_take, show k - min o cs.length = k - o by omega, List.getElem?_append_left (by omega)]
    · rw [if_neg (by omega), List.getElem?_append_right (by simp; omega), List.getElem?_drop]
      congr 1
      simp
      omega

theorem put_array (a b : Array Value) (o sz : Nat) (hb : b.size = sz) (h : o + sz ≤ a.size) (k : Nat) :
    ((a.toList.take o ++ b.toList ++ a.toList.drop (o + sz)).toArray)[k]? = if o ≤ k ∧ k < o + sz then b[k - o]? else a[k]? := by
  subst hb
  have := put_getElem a.toList b.toList o (by simpa using h) k
  simpa using this

theorem one_cells {v : Value} (h : v.oneCell' = true) : v.cells = #[v] := by cases v <;> first | rfl | simp [Value.oneCell'] at h

/-- A value, some of whose cells are written. -/
theorem vr_put {e : Env} {d x : DV} {v u : Value} (hv : VR e d v) (hu : VR e x u) (hx : x.storable = true) (o sz : Nat) (hsz : x.size = sz) (h0 : 0 < sz ∨ v.cells.size = 0) (hb : o + sz ≤ v.cells.size) :
    ∃ v', VR e (put d o x sz) v' ∧ v'.cells.size = v.cells.size ∧ (Cells1 v → Cells1 v') ∧ ∀ k, v'.cells[k]? = if o ≤ k ∧ k < o + sz then u.cells[k - o]? else v.cells[k]? := by
  have hus : u.cells.size = sz := (vr_size hu hx).trans hsz
  have hc := vr_cells hu hx
  have hone := hv.one
  have hu1 := hu.cells1 hx
  let a' : Array Value := (v.cells.toList.take o ++ u.cells.toList ++ v.cells.toList.drop (o + sz)).toArray
  have ha : ∀ k, a'[k]? = if o ≤ k ∧ k < o + sz then u.cells[k - o]? else v.cells[k]? := put_array _ _ o sz hus hb
  have has : a'.size = v.cells.size := by simp [a']; omega
  have h1 : Cells1 v → Cells1 (.agg a') := by
    intro hv1 i hi
    simp only [Value.cells] at hi ⊢
    have := ha i
    rw [Array.getElem?_eq_getElem hi] at this
    split at this
    · rename_i hk
      rw [Array.getElem?_eq_getElem (by omega)] at this
      rw [Option.some.inj this]
      exact hu1 _ _
    · rw [Array.getElem?_eq_getElem (by omega)] at this
      rw [Option.some.inj this]
      exact hv1 _ _
  have hsc : v.cells = #[v] → put d o x sz = x → ∃ v', VR e (put d o x sz) v' ∧ v'.cells.size = v.cells.size ∧ (Cells1 v → Cells1 v') ∧ ∀ k, v'.cells[k]? = if o ≤ k ∧ k < o + sz then u.cells[k - o]? else v.cells[k]? := by
    intro hvc hp
    have h2 : v.cells.size = 1 := by rw [hvc]; rfl
    obtain rfl : o = 0 := by omega
    obtain rfl : sz = 1 := by omega
    refine ⟨u, by rw [hp]; exact hu, by omega, fun _ => hu1, fun k => ?_⟩
    split
    · rfl
    · rw [Array.getElem?_eq_none (by omega), Array.getElem?_eq_none (by omega)]
  cases hv with
  | any => exact ⟨.agg a', .any, has, h1, ha⟩
  | tup hl h => exact hsc rfl rfl
  | agg hl hh h =>
    rename_i cs vs
    refine ⟨.agg a', ?_, has, h1, ha⟩
    simp only [Value.cells] at hb has
    have hxl : x.cells.length = sz := by rw [hc.1, hus]
    have hput : ∀ k, (cs.take o ++ x.cells ++ cs.drop (o + sz))[k]? = if o ≤ k ∧ k < o + sz then x.cells[k - o]? else cs[k]? := by
      have := put_getElem cs x.cells o (by omega)
      rw [hxl] at this
      exact this
    refine .agg (by simp [has, hxl]; omega) (fun i hi => h1 (fun j hj => hh j hj) i hi) fun i hi hi' => ?_
    have e1 := hput i
    have e2 := ha i
    rw [List.getElem?_eq_getElem hi] at e1
    rw [Array.getElem?_eq_getElem hi'] at e2
    have e3 : (Value.agg vs).cells = vs := rfl
    rw [e3] at e2
    by_cases hk : o ≤ i ∧ i < o + sz
    · rw [if_pos hk, List.getElem?_eq_getElem (by omega)] at e1
      rw [if_pos hk, Array.getElem?_eq_getElem (by omega)] at e2
      rw [Option.some.inj e1, Option.some.inj e2]
      exact hc.2 _ _ _
    · have hi2 : i < cs.length := by simp [hxl] at hi; omega
      rw [if_neg hk, List.getElem?_eq_getElem hi2] at e1
      rw [if_neg hk, Array.getElem?_eq_getElem (hl ▸ hi2)] at e2
      rw [Option.some.inj e1, Option.some.inj e2]
      exact h _ _ _
  | _ => exact hsc (one_cells hone) rfl

/-- The row behind a store. -/
theorem row_index {i j bsz o k : Nat} (h : i ≠ j) (ho : o < bsz) (hk : k < bsz) : i * bsz + o ≠ j * bsz + k := by
  intro he
  rcases Nat.lt_or_gt_of_ne h with h1 | h1
  · have := Nat.mul_le_mul_right bsz (Nat.succ_le_of_lt h1)
    simp only [Nat.succ_mul] at this
    omega
  · have := Nat.mul_le_mul_right bsz (Nat.succ_le_of_lt h1)
    simp only [Nat.succ_mul] at this
    omega

section
variable {P : Program} {e : Env} {w : World} {K : DV → List Blk → Prop}

theorem y_store {t : TypeId} {g : Bool} {sz : Nat} (ht : Ty P t g sz) (hH : e.H = w.heap) (hr : HR e) {d x : DV} {v u : Value} (hv : VR e d v) (hu : VR e x u)
    (h : match (generalizing := false) d with
      | .ptr b i o n => (match e.h[b]? with
        | some (.cells bsz els) => n = els.length ∧ (0 < sz ∨ bsz = 0) ∧ o + sz ≤ bsz ∧ x.size = sz ∧ x.storable = true ∧ K .any (e.h.set b (.cells bsz (els.set i (put (els.getD i .any) o x sz))))
        | _ => False)
      | _ => False) : Yields P (do Instr.storeAt t v u; pure .skip) w (After e w K) := by
  cases d with
  | ptr b i o n =>
    simp only at h
    cases hb : e.h[b]? with
    | none => rw [hb] at h; exact h.elim
    | some blk =>
    rw [hb] at h
    cases blk with
    | cells bsz els =>
      simp only at h
      obtain ⟨rfl, h0, hsz, hxs, hst, hk⟩ := h
      have hkey : e.key b = some (.c bsz els.length) := Env.key_of hb
      obtain ⟨hi, q, hq, rfl⟩ := vr_ptr hv hkey
      obtain ⟨c, T, fr, vs, hh, hc, hl, hf, hvs, hvsz, h1, hcell⟩ := hr.cells hb hq
      have hd : els.getD i .any = els[i] := by simp [List.getD, hi]
      rw [hd] at hk
      have hus : u.cells.size = sz := (vr_size hu hst).trans hxs
      obtain ⟨v', p1, p2, p3, p4⟩ := vr_put (hvs i hi) hu hst o sz hxs (by rw [hvsz i hi]; exact h0) (by rw [hvsz i hi]; exact hsz)
      have hin : (i + 1) * bsz ≤ els.length * bsz := Nat.mul_le_mul_right _ hi
      rw [Nat.succ_mul] at hin
      obtain ⟨w', c', e1, e2, e3, e4, e5, e6⟩ := run_storeCells (P := P) q.1 T fr u.cells.toList (i * bsz + o) 0 w c (by rw [← hH]; exact hh) (by simp; omega) (fun k _ hk => hf k (by simp at hk; omega)) (fun y hy => by
        obtain ⟨j, hj, rfl⟩ := List.getElem_of_mem hy
        simpa using hu.cells1 hst j (by simpa using hj))
      have hrun : (do Instr.storeAt t (.pointer (some ⟨q.1, i * bsz + o, none⟩)) u; pure Next.skip : Sem Next).run P w = .ok .skip w' := by
        simp only [Sem.run_bind, Instr.storeAt, Instr.sureAddr, Sem.run_pure, Result.andThen_ok, storeVar, ht.run_size, hus, ne_eq, not_true_eq_false, if_false, e1]
      obtain ⟨ev, hr'⟩ := env_set hr b (.c bsz els.length) (.c bsz els.length) hkey (.cells bsz (els.set i (put els[i] o x sz))) (by simp [Blk.key]) (Key.le_refl _) (e.ρ b) (fun _ => rfl) w'.heap (by rw [e3, hH]; exact Nat.le_refl _)
        (fun r _ hne => by rw [e6 r (fun h => hne q hq h.symm), hH]) (fun q0 h => .inl ⟨q0, h, rfl⟩) (fun _ _ _ h => by rw [hkey] at h; cases h)
      unfold Yields
      rw [hrun]
      simp only [Nat.add_zero] at e5
      refine ⟨_, .any, rfl, e2, hr' ?_, ev, .any, hk⟩
      refine .cells q c' T fr (fun j => if j = i then v' else vs j) (by simp [upd_same, hq]) e4 (by rw [e5.size]; exact hc) (by simpa using hl) hf (fun j hj => ?_) (fun j hj => ?_) (fun j hj => ?_) (fun j hj k hkb => ?_)
      · simp only [List.length_set] at hj
        rw [List.getElem_set]
        by_cases hji : j = i
        · subst hji; simp only [if_true]; exact p1.mono ev
        · rw [if_neg (Ne.symm hji)]; simp only [hji, if_false]; exact (hvs j hj).mono ev
      · simp only [List.length_set] at hj
        by_cases hji : j = i
        · subst hji; simp only [if_true]; rw [p2]; exact hvsz j hj
        · simp only [hji, if_false]; exact hvsz j hj
      · simp only [List.length_set] at hj
        by_cases hji : j = i
        · subst hji; simp only [if_true]; exact p3 (h1 j hj)
        · simp only [hji, if_false]; exact h1 j hj
      · simp only [List.length_set] at hj
        by_cases hji : j = i
        · subst hji
          simp only [if_true]
          rw [p4 k]
          by_cases hko : o ≤ k ∧ k < o + sz
          · rw [if_pos hko]
            have := e5.new (k - o) (by simp; omega)
            rw [show j * bsz + o + (k - o) = j * bsz + k by omega] at this
            rw [this]
            simp
          · rw [if_neg hko, e5.old _ (by simp [hus]; omega)]
            exact hcell j hj k hkb
        · simp only [hji, if_false]
          rw [e5.old _ ?_]
          · exact hcell j hj k hkb
          · simp [hus]
            rcases Nat.lt_or_gt_of_ne hji with h2 | h2
            · have := Nat.mul_le_mul_right bsz (Nat.succ_le_of_lt h2)
              simp only [Nat.succ_mul] at this
              omega
            · have := Nat.mul_le_mul_right bsz (Nat.succ_le_of_lt h2)
              simp only [Nat.succ_mul] at this
              omega
    | _ => exact h.elim
  | _ => exact h.elim

end
end Go.Den
