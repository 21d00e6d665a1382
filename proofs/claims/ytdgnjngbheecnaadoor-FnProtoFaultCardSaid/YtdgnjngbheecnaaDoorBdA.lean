/- Readings, and how long the texts in them are. -/
import Derived.Test.YtdgnjngbheecnaaDoorCodA
import Derived.Test.YtdgnjngbheecnaaDoorLibE
import Derived.SizedLaws
import Derived.OpenShut
set_option linter.unusedVariables false
set_option linter.unusedSimpArgs false
set_option maxRecDepth 100000
namespace Go.Proofs.YtdgnjngbheecnaaDoor
open Go Go.Den Go.Proofs

/-- No text in it is longer. -/
inductive Bd (N : Nat) : DV → Prop
  | p {v : Value} (h : ∀ s, v = .string s → s.size ≤ N) : Bd N (.p v)
  | fz {sz : Nat} {l : List DV} (h : ∀ d, d ∈ l → Bd N d) : Bd N (.fz sz l)
  | agg {l : List DV} (h : ∀ d, d ∈ l → Bd N d) : Bd N (.agg l)
theorem Bd.cells {N : Nat} {d : DV} (h : Bd N d) : ∀ c, c ∈ d.cells → Bd N c := by
  intro c hc
  cases h with
  | p h => rw [List.mem_singleton.1 hc]; exact .p h
  | fz h => rw [List.mem_singleton.1 hc]; exact .fz h
  | agg h => exact h c hc
theorem weights_all {H : Type} {P : Program} {e : TypeId} : ∀ {l : List (DataW H)} {d : DataW H}, d ∈ l → ∀ {n : Nat}, n ∈ d.weights P e → n ∈ DataW.weightsAll P e l
  | d0 :: l, d, hd, n, hn => by
    simp only [DataW.weightsAll, List.mem_append]
    rcases List.mem_cons.1 hd with rfl | hd
    · exact .inl hn
    · exact .inr (weights_all hd hn)
theorem open_fieldsB {P : Program} {w : World} {cs : List Value} {g : TypeId → Option Sh} {N : Nat} : ∀ (fs : List Field) (off : Nat) (parts : List (Nat × Sh)), shFs g P off fs = some parts → off + sumFs P fs ≤ cs.length →
    (∀ f, f ∈ fs → ∀ sh, g f.type = some sh → ∃ d v, Shaped sh d ∧ VR (env0 w) d v ∧ v.cells.toList = (cs.drop f.offset).take (P.cellsOf f.type) ∧ Cells1 v ∧ d.storable = true ∧ Bd N d) →
    ∃ ds : List DV, ds.length = parts.length ∧ (∀ i (hi : i < ds.length) (hi' : i < parts.length), Shaped parts[i].2 ds[i] ∧ ds[i].cells.length = parts[i].1) ∧ VRs (env0 w) (ds.flatMap DV.cells) ((cs.drop off).take (sumFs P fs)) ∧ (∀ v, v ∈ (cs.drop off).take (sumFs P fs) → v.oneCell' = true) ∧ ∀ d, d ∈ ds → Bd N d
  | [], off, parts, h, _, _ => by
    cases h
    exact ⟨[], rfl, fun i hi => absurd hi (by simp), by simp [sumFs, VRs], by simp [sumFs], by simp⟩
  | f :: fs, off, parts, h, hlen, hf => by
    simp only [shFs] at h
    split at h
    · rename_i hoff
      simp only [Option.bind_eq_some_iff, Option.map_eq_some_iff] at h
      obtain ⟨sh, h1, r, h2, rfl⟩ := h
      simp only [sumFs] at hlen
      obtain ⟨ds, g1, g2, g3, g4, g5⟩ := open_fieldsB fs _ r h2 (by omega) (fun f' hf' => hf f' (by simp [hf']))
      obtain ⟨d, v, k1, k2, k3, k4, k5, k6⟩ := hf f (by simp) sh h1
      obtain ⟨c1, c2⟩ := vr_cells k2 k5
      have hvl : v.cells.size = P.cellsOf f.type := by
        have := congrArg List.length k3
        simp at this
        omega
      have hsplit : (cs.drop off).take (P.cellsOf f.type + sumFs P fs) = v.cells.toList ++ (cs.drop (off + P.cellsOf f.type)).take (sumFs P fs) := by
        rw [k3, hoff, List.take_add, List.drop_drop]
      refine ⟨d :: ds, by simp [g1], fun i hi hi' => ?_, ?_, ?_, fun x hx => ?_⟩
      · cases i with
        | zero => exact ⟨k1, by show d.cells.length = P.cellsOf f.type; omega⟩
        | succ i => simpa using g2 i (by simpa using hi) (by simpa using hi')
      · simp only [sumFs]
        rw [hsplit, List.flatMap_cons]
        exact VRs.append (VRs.of _ _ (by simpa using c1) fun i hi hi' => by simpa using c2 i hi (by simpa using hi')) g3
      · simp only [sumFs]
        rw [hsplit]
        intro u hu
        rcases List.mem_append.1 hu with hu | hu
        · obtain ⟨i, hi, rfl⟩ := List.getElem_of_mem hu
          simpa using k4 i (by simpa using hi)
        · exact g4 u hu
      · rcases List.mem_cons.1 hx with rfl | hx
        · exact k6
        · exact g5 x hx
    · cases h

theorem open_shB {H : Type} {enc : TypeId × Value → H} {P : Program} {w : World} {base : Nat} {spare : Nat → Bool} {held : Bool} {N : Nat} : ∀ (m : Nat) (t : TypeId) (sh : Sh) (fuel : Nat) (cs : List Value) (x : DataW H × List MemPlace), shOf P m t = some sh → DataW.trod enc P w base spare held fuel t cs = some x → (∀ n, n ∈ x.1.weights P t → n ≤ N) →
    ∃ d v, Shaped sh d ∧ VR (env0 w) d v ∧ v.cells.toList = cs ∧ Cells1 v ∧ d.storable = true ∧ Bd N d
  | 0, _, _, _, _, _, h, _, _ => by cases h
  | m + 1, t, sh, fuel, cs, x, h, hx, hN => by
    have one : ∀ {v : Value} {d : DV}, v.oneCell' = true → Shaped sh d → VR (env0 w) d v → d.storable = true → v.cells = #[v] → cs = [v] → Bd N d → ∃ d v, Shaped sh d ∧ VR (env0 w) d v ∧ v.cells.toList = cs ∧ Cells1 v ∧ d.storable = true ∧ Bd N d := by
      intro v d h1 h2 h3 h4 h5 h6 h7
      exact ⟨d, v, h2, h3, by rw [h5, h6], h3.cells1 h4, h4, h7⟩
    simp only [shOf] at h
    split at h
    · rename_i k hu
      cases h
      obtain ⟨n, h1, h2, h3⟩ := DataW.trod_int hu hx
      exact one (v := .int k n) rfl (.int h3) (.p rfl) rfl rfl h1 (.p fun s h => by cases h)
    · rename_i hu
      cases h
      obtain ⟨b, h1, h2⟩ := DataW.trod_bool hu hx
      exact one (v := .bool b) rfl .bool (.p rfl) rfl rfl h1 (.p fun s h => by cases h)
    · rename_i hu
      cases h
      obtain ⟨s, h1, h2, h3⟩ := DataW.trod_string hu hx
      exact one (v := .string s) rfl (.str h3) (.p rfl) rfl rfl h1 (.p fun s' h => by cases h; subst h2; simpa [DataW.weights] using hN s.data.toList.length (by simp [DataW.weights]))
    · rename_i el hu
      split at h
      · rename_i hpos
        cases hel : shOf P m el with
        | none =>
          rw [hel] at h
          cases h
          rcases DataW.trod_slice hu hx with ⟨h1, _⟩ | ⟨a, len, cap, elems, rest, n, h1, h2, _⟩
          · exact one (v := .slice none 0 0) (d := .p (.slice none 0 0)) rfl .opq (.p rfl) rfl rfl h1 (.p fun s h => by cases h)
          · exact one (v := .slice (some a) len cap) (d := .p (.slice (some a) len cap)) rfl .opq (.p rfl) rfl rfl h2 (.p fun s h => by cases h)
        | some she =>
          rw [hel] at h
          cases h
          rcases DataW.trod_slice hu hx with ⟨h1, _⟩ | ⟨a, len, cap, elems, rest, n, h1, h2, h3, h4, h5, h6, h7, h8, _⟩
          · exact one (v := .slice none 0 0) (d := .fz (P.cellsOf el) []) rfl (.sl (Nat.zero_le _) (by simp)) .fz0 rfl rfl h1 (.fz (by simp))
          · have each : ∀ i, i < len → ∃ d v, Shaped she d ∧ VR (env0 w) d v ∧ Cells1 v ∧ v.cells.size = P.cellsOf el ∧ (∀ k, k < P.cellsOf el → w.cell? ((a.add (i * P.cellsOf el)).add k) = v.cells[k]?) ∧ Bd N d := by
              intro i hi
              have hb := h8 i hi
              rw [List.getElem?_eq_getElem (by omega), Option.bind_eq_some_iff] at hb
              obtain ⟨ecs, hc, ht⟩ := hb
              obtain ⟨d, v, g1, g2, g3, g4, g5, g6⟩ := open_shB m el she n ecs _ hel ht (fun k hk => hN k (by
                subst h3
                simp only [DataW.weights, hu, List.mem_cons, List.mem_append]
                exact .inr (.inl (weights_all (d := elems[i].1) (List.mem_map.2 ⟨elems[i], List.getElem_mem _, rfl⟩) hk))))
              obtain ⟨c1, c2, c3⟩ := World.cells?_some hc
              refine ⟨d, v, g1, g2, g4, ?_, fun k hk => ?_, g6⟩
              · rw [← c2, ← g3]; simp
              · rw [c3 k hk, ← g3]; simp
            have each' : ∀ i, ∃ p : DV × Value, i < len → Shaped she p.1 ∧ VR (env0 w) p.1 p.2 ∧ Cells1 p.2 ∧ p.2.cells.size = P.cellsOf el ∧ (∀ k, k < P.cellsOf el → w.cell? ((a.add (i * P.cellsOf el)).add k) = p.2.cells[k]?) ∧ Bd N p.1 := by
              intro i
              by_cases hi : i < len
              · obtain ⟨d, v, hd⟩ := each i hi
                exact ⟨(d, v), fun _ => hd⟩
              · exact ⟨(.any, .nilIface), fun h => (hi h).elim⟩
            obtain ⟨f, hf⟩ := Classical.skolem.1 each'
            by_cases h0 : len = 0
            · subst h0
              exact one (v := .slice (some a) 0 cap) (d := .fz (P.cellsOf el) []) rfl (.sl (Nat.zero_le _) (by simp)) .fz0 rfl rfl h2 (.fz (by simp))
            · have hc0 := (hf 0 (by omega)).2.2.2.2.1 0 hpos
              have hz : (f 0).2.cells.size = P.cellsOf el := (hf 0 (by omega)).2.2.2.1
              rw [Array.getElem?_eq_getElem (by omega)] at hc0
              obtain ⟨s1, s2⟩ := cell_at hc0
              obtain ⟨ab, ao, asp⟩ := a
              have hsp : asp = none := by simpa [Addr.add] using s1
              subst hsp
              have hlen : ((List.range len).map fun i => (f i).1).length = len := by simp
              have hro : ab < w.heap.size := by
                simp only [Nat.zero_mul, Addr.add, if_true] at s2
                unfold cellAt at s2
                split at s2
                · rename_i hb
                  exact (Array.getElem?_eq_some_iff.1 hb).1
                · cases s2
              have key := VR.fz (e := env0 w) (sz := P.cellsOf el) (l := (List.range len).map fun i => (f i).1) (a := ⟨ab, ao, none⟩) (cap := cap) (fun j => (f j).2) rfl (by rw [hlen]; exact h5)
                ⟨hro, fun b q hk => absurd rfl hk⟩
                (fun j hj => by rw [hlen] at hj; simpa using (hf j hj).2.1) (fun j hj => (hf j (by rw [hlen] at hj; exact hj)).2.2.2.1) (fun j hj => (hf j (by rw [hlen] at hj; exact hj)).2.2.1)
                (fun j hj k hk => by
                  rw [hlen] at hj
                  have := (hf j hj).2.2.2.2.1 k hk
                  rw [← this]
                  show cellAt w.heap ab (ao + j * P.cellsOf el + k) = _
                  rw [← cellAt_cell?]
                  congr 1
                  simp only [Addr.add]
                  split <;> split <;> simp_all)
              rw [hlen] at key
              exact one (v := .slice (some ⟨ab, ao, none⟩) len cap) rfl (.sl (by rw [hlen]; omega) (fun d hd => by
                obtain ⟨i, hi, rfl⟩ := List.mem_map.1 hd
                exact (hf i (List.mem_range.1 hi)).1)) key rfl rfl h2 (.fz fun d hd => by
                obtain ⟨i, hi, rfl⟩ := List.mem_map.1 hd
                exact (hf i (List.mem_range.1 hi)).2.2.2.2.2)
      · cases h
    · rename_i fs hu
      split at h
      · rename_i hsum
        obtain ⟨parts, h1, rfl⟩ := Option.map_eq_some_iff.1 h
        obtain ⟨xs, n, rfl, rfl, hl, hxl, hx⟩ := DataW.trod_struct hu hx
        obtain ⟨ds, g1, g2, g3, g4, g5⟩ := open_fieldsB (N := N) (w := w) (cs := cs) fs.toList 0 parts h1 (by omega) (fun f hf sh hsh => by
          obtain ⟨i, hi, rfl⟩ := List.getElem_of_mem hf
          have hi' : i < fs.size := by simpa using hi
          have hxi := hx i fs[i] (by simp [hi'])
          rw [List.getElem?_eq_getElem (by omega)] at hxi
          exact open_shB m _ sh n _ _ hsh (by simpa using hxi) (fun k hk => hN k (by
            simp only [DataW.weights, hu]
            exact DataW.weights_mem_each (j := i) (by simp [hi']) (by simp [hxl, hi']) k hk)))
        have hcs : (cs.drop 0).take (sumFs P fs.toList) = cs := by rw [List.drop_zero, hsum, ← hl, List.take_length]
        rw [hcs] at g3 g4
        obtain ⟨t1, t2⟩ := g3.tr
        refine ⟨_, .agg cs.toArray, .st g1 (fun i hi hi' => (g2 i hi hi').1) (fun i hi hi' => (g2 i hi hi').2), .agg t1 (fun i hi => g4 _ (by simp)) t2, by simp [Value.cells], fun i hi => by simpa [Value.cells] using g4 _ (List.getElem_mem _), rfl, .agg fun c hc => by
          obtain ⟨d, hd, hcd⟩ := List.mem_flatMap.1 hc
          exact (g5 d hd).cells c hcd⟩
      · cases h
    · rename_i k e hu
      split at h
      · rename_i hsum
        obtain ⟨parts, h1, rfl⟩ := Option.map_eq_some_iff.1 h
        obtain ⟨xs, n, rfl, rfl, hl, hxl, hx⟩ := DataW.trod_array hu hx
        obtain ⟨ds, g1, g2, g3, g4, g5⟩ := open_fieldsB (N := N) (w := w) (cs := cs) (arrFs (P.cellsOf e) e 0 k) 0 parts h1 (by omega) (fun f hf sh hsh => by
          obtain ⟨hfe, i, hi, hfo⟩ := arrFs_mem hf
          have hxi := hx i hi
          rw [List.getElem?_eq_getElem (by omega)] at hxi
          rw [hfe] at hsh ⊢
          rw [show f.offset = i * P.cellsOf e by omega]
          exact open_shB m _ sh n _ _ hsh hxi (fun k hk => hN k (by
            simp only [DataW.weights, hu]
            exact weights_all (d := (xs[i]'(by omega)).1) (List.mem_map.2 ⟨xs[i]'(by omega), List.getElem_mem _, rfl⟩) hk)))
        have hcs : (cs.drop 0).take (sumFs P (arrFs (P.cellsOf e) e 0 k)) = cs := by rw [List.drop_zero, hsum, ← hl, List.take_length]
        rw [hcs] at g3 g4
        obtain ⟨t1, t2⟩ := g3.tr
        refine ⟨_, .agg cs.toArray, .st g1 (fun i hi hi' => (g2 i hi hi').1) (fun i hi hi' => (g2 i hi hi').2), .agg t1 (fun i hi => g4 _ (by simp)) t2, by simp [Value.cells], fun i hi => by simpa [Value.cells] using g4 _ (List.getElem_mem _), rfl, .agg fun c hc => by
          obtain ⟨d, hd, hcd⟩ := List.mem_flatMap.1 hc
          exact (g5 d hd).cells c hcd⟩
      · cases h
    · cases h

theorem open_argB {N : Nat} {H : Type} {enc : TypeId × Value → H} {P : Program} {w : World} {r : Reach} {b0 base : Nat} {spare : Nat → Bool} {held : Bool} {t : TypeId} {v : Value} {d : DataW H} {ps : List MemPlace} {m : Nat} {sh : Sh} (hsh : shOf P m t = some sh) (hval : Value.okWide P w r b0 t v)
    (hd : DataW.Trod enc P w base spare held t v d ps) (hN : ∀ n, n ∈ d.weights P t → n ≤ N) : ∃ e, Shaped sh e ∧ VR (env0 w) e v ∧ Bd N e := by
  obtain ⟨fuel, hf⟩ := hd
  obtain ⟨e, u, h1, h2, h3, _, _, hB⟩ := open_shB (N := N) m t sh fuel _ _ hsh hf hN
  refine ⟨e, h1, ?_, hB⟩
  suffices h : u = v by rw [← h]; exact h2
  have one : ∀ {x y : Value}, x.oneCell' = true → y.oneCell' = true → x.cells.toList = y.cells.toList → x = y := by
    intro x y hx hy hxy
    rw [one_cells hx, one_cells hy] at hxy
    simpa using hxy
  cases m with
  | zero => cases hsh
  | succ m =>
    simp only [shOf] at hsh
    split at hsh
    · rename_i k hu
      cases hsh
      obtain ⟨n, rfl⟩ := Go.WideShapes.okWide_int hu hval
      cases h1 with
      | int => obtain ⟨rfl, g⟩ := vr_p h2; exact one g rfl h3
    · rename_i hu
      cases hsh
      obtain ⟨n, rfl⟩ := Go.WideShapes.okWide_bool hu hval
      cases h1 with
      | bool => obtain ⟨rfl, g⟩ := vr_p h2; exact one g rfl h3
    · rename_i hu
      cases hsh
      obtain ⟨n, rfl⟩ := Go.WideShapes.okWide_string hu hval
      cases h1 with
      | str => obtain ⟨rfl, g⟩ := vr_p h2; exact one g rfl h3
    · rename_i el hu
      split at hsh
      · obtain ⟨a, len, cap, rfl⟩ := Go.WideShapes.okWide_slice hu hval
        cases hel : shOf P m el with
        | none =>
          rw [hel] at hsh
          cases hsh
          cases h1 with
          | opq => obtain ⟨rfl, g⟩ := vr_p h2; exact one rfl rfl h3
        | some she =>
          rw [hel] at hsh
          cases hsh
          cases h1 with
          | sl => obtain ⟨a', c', rfl, _⟩ := vr_fz_n h2; exact one rfl rfl h3
      · cases hsh
    · rename_i fs hu
      split at hsh
      · obtain ⟨parts, _, rfl⟩ := Option.map_eq_some_iff.1 hsh
        obtain ⟨cs, rfl, _⟩ := Go.WideShapes.okWide_struct hu hval
        cases h1 with
        | st =>
          obtain ⟨vs, rfl, _⟩ := vr_agg h2
          simp only [Value.cells] at h3
          rw [Array.toList_inj.1 h3]
      · cases hsh
    · rename_i k e hu
      split at hsh
      · obtain ⟨parts, _, rfl⟩ := Option.map_eq_some_iff.1 hsh
        simp only [Value.okWide, hu] at hval
        obtain ⟨cs, rfl, _⟩ := hval
        cases h1 with
        | st =>
          obtain ⟨vs, rfl, _⟩ := vr_agg h2
          simp only [Value.cells] at h3
          rw [Array.toList_inj.1 h3]
      · cases hsh
    · cases hsh
end Go.Proofs.YtdgnjngbheecnaaDoor
