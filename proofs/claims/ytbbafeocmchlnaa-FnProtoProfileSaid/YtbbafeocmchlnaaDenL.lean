/- The library: contracts of functions over denoted values (L). -/
import Derived.Test.YtbbafeocmchlnaaDenK
set_option linter.unusedVariables false
set_option linter.unusedSimpArgs false
set_option linter.unusedSectionVars false
set_option linter.unnecessarySimpa false
namespace Go.Den
open Go

/-- Parts in their order, from m on. -/
def consec {α : Type} : Nat → List (Nat × α) → Bool
  | _, [] => true
  | m, p :: l => p.1 == m && consec (m + 1) l

theorem lit_fill (sz : Nat) : ∀ (l : List (Nat × Value)) (m : Nat) (c : Array Value), consec m l = true → (∀ p, p ∈ l → p.2.cells.size = sz) → (m + l.length) * sz ≤ c.size →
    ∃ c', Instr.fill (fun i => some (i * sz, sz)) c l = some c' ∧ c'.size = c.size ∧ (∀ i, i < m * sz → c'[i]? = c[i]?) ∧ ∀ j (hj : j < l.length), ∀ k, k < sz → c'[(m + j) * sz + k]? = l[j].2.cells[k]?
  | [], m, c, _, _, _ => ⟨c, rfl, rfl, fun _ _ => rfl, fun j hj => absurd hj (by simp)⟩
  | (i, v) :: l, m, c, hm, hs, hb => by
    simp only [consec, Bool.and_eq_true, beq_iff_eq] at hm
    obtain ⟨rfl, hm⟩ := hm
    have hv := hs (i, v) (by simp)
    simp only at hv
    simp only [List.length_cons] at hb
    have hb1 : (i + 1) * sz ≤ (i + (l.length + 1)) * sz := Nat.mul_le_mul_right _ (by omega)
    have hb2 : (i + 1) * sz = i * sz + sz := Nat.succ_mul i sz
    let c1 := v.cells.zipIdx.foldl (fun (cs : Array Value) (cj : Value × Nat) => cs.setIfInBounds (i * sz + cj.2) cj.1) c
    have hc1 : c1 = ((v.cells.toList.zipIdx 0).foldl (fun cs p => cs.setIfInBounds (i * sz + p.2) p.1) c) := by
      simp only [c1]
      rw [← Array.foldl_toList, Array.toList_zipIdx]
    have hs1 : c1.size = c.size := by rw [hc1]; exact foldl_set_size _ _ _ _
    have hg1 : ∀ k, c1[k]? = if i * sz ≤ k ∧ k < i * sz + sz then v.cells[k - i * sz]? else c[k]? := fun k => by
      rw [hc1, foldl_set_get _ 0 (i * sz) c (by simp [hv]; omega) k]
      simp [hv]
    obtain ⟨c', h1, h2, h3, h4⟩ := lit_fill sz l (i + 1) c1 hm (fun p hp => hs p (by simp [hp])) (by rw [hs1]; rw [show i + 1 + l.length = i + (l.length + 1) by omega]; exact hb)
    refine ⟨c', ?_, by rw [h2, hs1], fun k hk => ?_, fun j hj k hk => ?_⟩
    · simp only [Instr.fill]
      rw [if_neg (by simp; omega)]
      exact h1
    · rw [h3 k (by omega), hg1, if_neg (by omega)]
    · cases j with
      | zero =>
        rw [h3 _ (by simp; omega), hg1, if_pos (by simp; omega)]
        simp
      | succ j =>
        have := h4 j (by simpa using hj) k hk
        rw [show i + (j + 1) = i + 1 + j by omega]
        simpa using this

section
variable {P : Program} {e : Env} {w : World} {K : DV → List Blk → Prop}

/-- A slice's literal. -/
theorem y_lit {t el : TypeId} {sz : Nat} (hu : P.underlying t = some (.slice el)) (hi : ∃ i, P.info? el = some i ∧ i.size = sz ∧ i.zero.isSome = true) {n : Nat} (hn : n * sz ≤ 16777216) {ev : Opd → DV} {re : Operand → Value} (hev : ∀ x, VR e (ev (cOpd x)) (re x))
    (parts : Array (Nat × Operand)) (hp : consec 0 parts.toList = true) (hpn : parts.size = n) (hH : e.H = w.heap) (hr : HR e)
    (h : (∀ x, x ∈ parts.toList.map (fun p => cOpd p.2) → (ev x).size = sz ∧ (ev x).storable = true) ∧ K (.sl e.h.length 0 n n) (e.h ++ [.cells sz ((parts.toList.map (fun p => cOpd p.2)).map ev)])) :
    Yields P (do pure (.value (← Instr.buildSlice t n (parts.map fun (i, x) => (i, re x))))) w (After e w K) := by
  obtain ⟨i, hi1, hi2, hi3⟩ := hi
  obtain ⟨z, hz⟩ := Option.isSome_iff_exists.1 hi3
  obtain ⟨hall, hk⟩ := h
  have hs : ∀ w, (sizeOf el).run P w = .ok sz w := fun w => by simp [sizeOf, typeInfo, hi1, hi2]
  have hzv : ∀ w, (zeroValue el).run P w = .ok z w := fun w => by simp [zeroValue, typeInfo, hi1, hz]
  let vl : List (Nat × Value) := parts.toList.map fun p => (p.1, re p.2)
  have hvl : vl.length = n := by simp [vl, hpn]
  have hcon : consec 0 vl = true := by
    have gen : ∀ (l : List (Nat × Operand)) m, consec m l = true → consec m (l.map fun p => (p.1, re p.2)) = true := by
      intro l
      induction l with
      | nil => intro m _; rfl
      | cons p l ih =>
        intro m h
        simp only [consec, Bool.and_eq_true] at h
        simp only [List.map_cons, consec, Bool.and_eq_true]
        exact ⟨h.1, ih _ h.2⟩
    exact gen _ 0 hp
  have hone : ∀ j (hj : j < n), VR e (ev (cOpd (parts[j]'(by omega)).2)) (vl[j]'(by omega)).2 ∧ (ev (cOpd (parts[j]'(by omega)).2)).size = sz ∧ (ev (cOpd (parts[j]'(by omega)).2)).storable = true := by
    intro j hj
    have hmem : cOpd (parts[j]'(by omega)).2 ∈ parts.toList.map (fun p => cOpd p.2) := List.mem_map.2 ⟨parts[j]'(by omega), by simp, rfl⟩
    refine ⟨?_, hall _ hmem⟩
    simp only [vl, List.getElem_map, Array.getElem_toList]
    exact hev _
  have hsize : ∀ p, p ∈ vl → p.2.cells.size = sz := by
    intro p hp
    obtain ⟨j, hj, rfl⟩ := List.getElem_of_mem hp
    obtain ⟨h1, h2, h3⟩ := hone j (by omega)
    rw [vr_size h1 h3, h2]
  let c0 : Array Value := (Array.range (n * sz)).map fun k => (if n * sz = 0 then (#[] : Array Value) else z.cells)[k % (if n * sz = 0 then (#[] : Array Value) else z.cells).size]!
  obtain ⟨c', e1, e2, _, e4⟩ := lit_fill sz vl 0 c0 hcon hsize (by simp [c0, hvl])
  have hcsz : c'.size = n * sz := by rw [e2]; simp [c0]
  have hrun : (Instr.buildSlice t n (parts.map fun (i, x) => (i, re x))).run P w = .ok (.slice (some ⟨w.heap.size, 0, none⟩) n n) (w.alloc (.cells c' el)) := by
    have e1' : Instr.fill (fun i => some (i * sz, sz)) c0 (parts.map fun (i, x) => (i, re x)).toList = some c' := by
      simpa [vl] using e1
    simp only [Instr.buildSlice, Sem.run_bind, run_underlying hu, Result.andThen_ok, hs]
    have hn24 : ¬ n * sz > 2 ^ 24 := by omega
    rw [if_neg hn24]
    by_cases h0 : n * sz = 0
    · simp only [c0, if_pos h0] at e1'
      rw [if_pos h0, Sem.run_bind, Sem.run_pure, Result.andThen_ok, e1']
      simp [newRow]
    · simp only [c0, if_neg h0] at e1'
      rw [if_neg h0, Sem.run_bind, hzv, Result.andThen_ok, Sem.run_bind, Sem.run_pure, Result.andThen_ok, e1']
      simp [newRow]
  have hlen : ((parts.toList.map (fun p => cOpd p.2)).map ev).length = n := by simp [hpn]
  obtain ⟨ev', hr', hkey, hq⟩ := env_alloc hr sz ((parts.toList.map (fun p => cOpd p.2)).map ev) c' el (0, 0) (fun j => (vl.getD j (0, undef)).2) (by rw [hlen, hcsz]; exact Nat.le_refl _) (fun k _ h => by simp at h)
    (fun j hj => by
      rw [hlen] at hj
      have := (hone j hj).1
      simp only [List.getD, List.getElem?_eq_getElem (show j < vl.length by omega), Option.getD_some]
      simpa using this)
    (fun j hj => by
      rw [hlen] at hj
      simp only [List.getD, List.getElem?_eq_getElem (show j < vl.length by omega), Option.getD_some]
      exact hsize _ (List.getElem_mem _))
    (fun j hj => by
      rw [hlen] at hj
      obtain ⟨h1, h2, h3⟩ := hone j hj
      simp only [List.getD, List.getElem?_eq_getElem (show j < vl.length by omega), Option.getD_some]
      exact h1.cells1 h3)
    (fun j hj k hk => by
      rw [hlen] at hj
      have := e4 j (by omega) k hk
      simp only [Nat.zero_add] at this
      simp only [List.getD, List.getElem?_eq_getElem (show j < vl.length by omega), Option.getD_some]
      exact this)
  unfold Yields
  simp only [Sem.run_bind, hrun, Result.andThen_ok, Sem.run_pure]
  refine ⟨_, _, by rw [hH]; rfl, ⟨rfl, rfl, rfl⟩, hr', ev', ?_, hk⟩
  rw [← hH]
  rw [hlen] at hkey
  exact vr_sl_new hkey hq (Nat.le_refl _) (by rw [hcsz]; exact Nat.le_refl _)

theorem y_s2b {src dst el : TypeId} (hs : P.underlying src = some .string) (hd : P.underlying dst = some (.slice el)) (he : P.underlying el = some (.int .u8)) (hH : e.H = w.heap) (hr : HR e) {s : ByteArray}
    (hk : K (.sl e.h.length 0 s.size s.size) (e.h ++ [.cells 1 (bytesD s)])) : Yields P (do pure (.value (← convert src dst (.string s)))) w (After e w K) := by
  have hcap := grownCap_ge w s.size 0 el
  let cap := grownCap w s.size 0 el
  let c : Array Value := (s.data.map fun b => Value.int .u8 b.toNat) ++ Array.replicate (cap - s.size) (.int .u8 0)
  have hc : c.size = cap := by simp [c]; show s.size + (cap - s.size) = cap; omega
  have hrun : (convert src dst (.string s)).run P w = .ok (.slice (some ⟨w.heap.size, 0, none⟩) s.size cap) { w.drew with heap := w.heap.push (.cells c el (cap, cap + 1)) } := by
    simp only [convert, Sem.run_bind, run_underlying hs, run_underlying hd, run_underlying he, Result.andThen_ok, Conv.stringToBytes, run_choose, Question.forced, Bool.false_eq_true, if_false, newRow, run_newObj, Sem.run_pure, markStringish, run_shape]
    let W1 : World := ⟨w.heap.push (.cells c el), w.tape, w.drawn + 1, w.os, w.output⟩
    have hsh : W1.shape? w.heap.size = some (el, cap) := by simp [W1, World.shape?, hc]
    have hfr : W1.freeze ⟨w.heap.size, cap, none⟩ 1 = { w.drew with heap := w.heap.push (.cells c el (cap, cap + 1)) } := by
      simp only [World.freeze, Nat.one_ne_zero, if_false, W1]
      refine congrArg (fun h => (⟨h, w.tape, w.drawn + 1, w.os, w.output⟩ : World)) ?_
      apply Array.ext_getElem?
      intro i
      simp only [Array.getElem?_modify, Array.getElem?_push]
      by_cases hi : i = w.heap.size
      · subst hi; simp
      · rw [if_neg (Ne.symm hi), if_neg hi, if_neg hi]
    show ((Sem.run P (match W1.shape? w.heap.size with | some (_, n) => freeze ⟨w.heap.size, n, none⟩ 1 | _ => pure ()) W1).andThen fun a w' => Result.ok (Value.slice (some ⟨w.heap.size, 0, none⟩) s.size cap) w') = _
    rw [hsh]
    simp only [run_freeze, hfr, Result.andThen_ok]
  have hbl : (bytesD s).length = s.size := by simp [bytesD]
  obtain ⟨ev, hr', hkey, hq⟩ := env_alloc hr 1 (bytesD s) c el (cap, cap + 1) (fun j => .int .u8 (s.data.toList.getD j 0).toNat) (by rw [hbl, hc]; omega) (fun k hk h => by simp only at h; omega)
    (fun j hj => by
      simp only [bytesD, List.getElem_map, byteD]
      simp only [bytesD, List.length_map] at hj
      simp only [List.getD, List.getElem?_eq_getElem hj, Option.getD_some]
      exact .p rfl) (fun _ _ => rfl) (fun j hj i hi => by
      have : i = 0 := by simp only [Value.cells] at hi; simpa using hi
      subst this
      rfl) (fun j hj k hk => by
      obtain rfl : k = 0 := by omega
      simp only [bytesD, List.length_map] at hj
      have hj' : j < s.data.size := by simpa using hj
      simp only [Nat.mul_one, Nat.add_zero, c]
      rw [Array.getElem?_append_left (by simpa using hj')]
      simp only [Array.getElem?_map, Value.cells, List.getD, Array.getElem?_toList, Array.getElem?_eq_getElem hj']
      simp)
  unfold Yields
  simp only [Sem.run_bind, hrun, Result.andThen_ok, Sem.run_pure]
  refine ⟨_, _, by rw [hH], ⟨rfl, rfl, rfl⟩, hr', ev, ?_, hk⟩
  rw [← hH]
  rw [hbl] at hkey
  exact vr_sl_new hkey hq hcap (by rw [hc]; simp)

end
end Go.Den
