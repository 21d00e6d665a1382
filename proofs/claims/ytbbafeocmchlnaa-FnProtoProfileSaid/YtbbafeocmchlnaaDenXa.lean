/- The library: contracts of functions over denoted values (X). -/
import Derived.Test.YtbbafeocmchlnaaDenX
import Derived.ChangeArms
import Derived.DataReads
set_option linter.unusedVariables false
set_option linter.unusedSimpArgs false
set_option linter.unusedSectionVars false
set_option linter.unnecessarySimpa false
namespace Go.Den
open Go

/-- The shapes of a law's arguments: numbers, truths, texts, slices, structures of such. 'sl': an element's cells, the element. 'st': the parts, one behind the other, each with its cells. -/
inductive Sh where
  | int (k : IntKind)
  | bool
  | str
  | sl (sz : Nat) (el : Sh)
  | st (parts : List (Nat × Sh))
  deriving Inhabited

/-- The shapes of a structure's parts, one behind the other. -/
def shFs (g : TypeId → Option Sh) (P : Program) : Nat → List Field → Option (List (Nat × Sh))
  | _, [] => some []
  | off, f :: fs => if f.offset = off then (g f.type).bind fun sh => (shFs g P (off + P.cellsOf f.type) fs).map fun r => (P.cellsOf f.type, sh) :: r else none
def sumFs (P : Program) : List Field → Nat
  | [] => 0
  | f :: fs => P.cellsOf f.type + sumFs P fs

/-- A type's shape. -/
def shOf (P : Program) : Nat → TypeId → Option Sh
  | 0, _ => none
  | n + 1, t => match P.underlying t with
    | some (.int k) => some (.int k)
    | some .bool => some .bool
    | some .string => some .str
    | some (.slice e) => if 0 < P.cellsOf e then (shOf P n e).map (.sl (P.cellsOf e)) else none
    | some (.struct fs) => if sumFs P fs.toList = P.cellsOf t then (shFs (shOf P n) P 0 fs.toList).map .st else none
    | _ => none

/-- What a denoted value of this shape is. -/
inductive Shaped : Sh → DV → Prop
  | int {k n} (h : (Lit.int k n).wf = true) : Shaped (.int k) (.p (.int k n))
  | bool {b} : Shaped .bool (.p (.bool b))
  | str {s} (h : s.size ≤ maxLen) : Shaped .str (.p (.string s))
  | sl {sz el l} (hl : l.length ≤ maxLen) (h : ∀ d, d ∈ l → Shaped el d) : Shaped (.sl sz el) (.fz sz l)
  | st {parts : List (Nat × Sh)} {ds : List DV} (hl : ds.length = parts.length) (h : ∀ i (hi : i < ds.length) (hi' : i < parts.length), Shaped parts[i].2 ds[i]) (hc : ∀ i (hi : i < ds.length) (hi' : i < parts.length), ds[i].cells.length = parts[i].1) : Shaped (.st parts) (.agg (ds.flatMap DV.cells))

theorem VRs.append {e : Env} : ∀ {a b : List DV} {x y : List Value}, VRs e a x → VRs e b y → VRs e (a ++ b) (x ++ y)
  | [], b, [], y, _, h => h
  | d :: a, b, v :: x, y, h, h' => ⟨h.1, VRs.append h.2 h'⟩
  | [], b, _ :: _, y, h, _ => h.elim
  | _ :: _, b, [], y, h, _ => h.elim
theorem VRs.of {e : Env} : ∀ (ds : List DV) (vs : List Value), ds.length = vs.length → (∀ i (hi : i < ds.length) (hi' : i < vs.length), VR e ds[i] vs[i]) → VRs e ds vs
  | [], [], _, _ => trivial
  | d :: ds, v :: vs, hl, h => ⟨h 0 (by simp) (by simp), VRs.of ds vs (by simpa using hl) fun i hi hi' => by
    have := h (i + 1) (by simpa using hi) (by simpa using hi')
    simpa only [List.getElem_cons_succ] using this⟩
  | [], _ :: _, hl, _ => by simp at hl
  | _ :: _, [], hl, _ => by simp at hl

theorem cell_at {w : World} {a : Addr} {v : Value} (h : w.cell? a = some v) : a.spot = none ∧ cellAt w.heap a.block a.off = some v := by
  unfold World.cell? at h
  unfold cellAt
  split at h
  · rename_i c _ _ hb
    rw [hb]
    split at h
    · cases h
    · rename_i hs
      exact ⟨by simpa using hs, h⟩
  · cases h


def env0 (w : World) : Env := ⟨fun _ => none, [], w.heap⟩

theorem open_fields {P : Program} {w : World} {cs : List Value} {g : TypeId → Option Sh} : ∀ (fs : List Field) (off : Nat) (parts : List (Nat × Sh)), shFs g P off fs = some parts → off + sumFs P fs ≤ cs.length →
    (∀ f, f ∈ fs → ∀ sh, g f.type = some sh → ∃ d v, Shaped sh d ∧ VR (env0 w) d v ∧ v.cells.toList = (cs.drop f.offset).take (P.cellsOf f.type) ∧ Cells1 v ∧ d.storable = true) →
    ∃ ds : List DV, ds.length = parts.length ∧ (∀ i (hi : i < ds.length) (hi' : i < parts.length), Shaped parts[i].2 ds[i] ∧ ds[i].cells.length = parts[i].1) ∧ VRs (env0 w) (ds.flatMap DV.cells) ((cs.drop off).take (sumFs P fs)) ∧ ∀ v, v ∈ (cs.drop off).take (sumFs P fs) → v.oneCell' = true
  | [], off, parts, h, _, _ => by
    cases h
    exact ⟨[], rfl, fun i hi => absurd hi (by simp), by simp [sumFs, VRs], by simp [sumFs]⟩
  | f :: fs, off, parts, h, hlen, hf => by
    simp only [shFs] at h
    split at h
    · rename_i hoff
      simp only [Option.bind_eq_some_iff, Option.map_eq_some_iff] at h
      obtain ⟨sh, h1, r, h2, rfl⟩ := h
      simp only [sumFs] at hlen
      obtain ⟨ds, g1, g2, g3, g4⟩ := open_fields fs _ r h2 (by omega) (fun f' hf' => hf f' (by simp [hf']))
      obtain ⟨d, v, k1, k2, k3, k4, k5⟩ := hf f (by simp) sh h1
      obtain ⟨c1, c2⟩ := vr_cells k2 k5
      have hvl : v.cells.size = P.cellsOf f.type := by
        have := congrArg List.length k3
        simp at this
        omega
      have hsplit : (cs.drop off).take (P.cellsOf f.type + sumFs P fs) = v.cells.toList ++ (cs.drop (off + P.cellsOf f.type)).take (sumFs P fs) := by
        rw [k3, hoff, List.take_add, List.drop_drop]
      refine ⟨d :: ds, by simp [g1], fun i hi hi' => ?_, ?_, ?_⟩
      · cases i with
        | zero => exact ⟨k1, by show d.cells.length = P.cellsOf f.type; omega⟩
        | succ i => simpa using g2 i (by simpa using hi) (by simpa using hi')
      · simp only [sumFs]
        rw [hsplit, List.flatMap_cons]
        exact VRs.append (VRs.of _ _ (by simpa using c1) fun i hi hi' => by simpa using c2 i hi (by simpa using hi')) g3
      · simp only [sumFs]
        rw [hsplit]
        intro u hu
        rcases List.mem_append.1 hu with hu | hu
        · obtain ⟨i, hi, rfl⟩ := List.getElem_of_mem hu
          simpa using k4 i (by simpa using hi)
        · exact g4 u hu
    · cases h

theorem open_sh {H : Type} {enc : TypeId × Value → H} {P : Program} {w : World} {base : Nat} {spare : Nat → Bool} {held : Bool} : ∀ (m : Nat) (t : TypeId) (sh : Sh) (fuel : Nat) (cs : List Value) (x : DataW H × List MemPlace), shOf P m t = some sh → DataW.trod enc P w base spare held fuel t cs = some x →
    ∃ d v, Shaped sh d ∧ VR (env0 w) d v ∧ v.cells.toList = cs ∧ Cells1 v ∧ d.storable = true
  | 0, _, _, _, _, _, h, _ => by cases h
  | m + 1, t, sh, fuel, cs, x, h, hx => by
    have one : ∀ {v : Value} {d : DV}, v.oneCell' = true → Shaped sh d → VR (env0 w) d v → d.storable = true → v.cells = #[v] → cs = [v] → ∃ d v, Shaped sh d ∧ VR (env0 w) d v ∧ v.cells.toList = cs ∧ Cells1 v ∧ d.storable = true := by
      intro v d h1 h2 h3 h4 h5 h6
      exact ⟨d, v, h2, h3, by rw [h5, h6], h3.cells1 h4, h4⟩
    simp only [shOf] at h
    split at h
    · rename_i k hu
      cases h
      obtain ⟨n, h1, h2, h3⟩ := DataW.trod_int hu hx
      exact one (v := .int k n) rfl (.int h3) (.p rfl) rfl rfl h1
    · rename_i hu
      cases h
      obtain ⟨b, h1, h2⟩ := DataW.trod_bool hu hx
      exact one (v := .bool b) rfl .bool (.p rfl) rfl rfl h1
    · rename_i hu
      cases h
      obtain ⟨s, h1, h2, h3⟩ := DataW.trod_string hu hx
      exact one (v := .string s) rfl (.str h3) (.p rfl) rfl rfl h1
    · rename_i el hu
      split at h
      · rename_i hpos
        cases hel : shOf P m el with
        | none => rw [hel] at h; cases h
        | some she =>
          rw [hel] at h
          cases h
          rcases DataW.trod_slice hu hx with ⟨h1, _⟩ | ⟨a, len, cap, elems, rest, n, h1, h2, h3, h4, h5, h6, h7, h8, _⟩
          · exact one (v := .slice none 0 0) (d := .fz (P.cellsOf el) []) rfl (.sl (Nat.zero_le _) (by simp)) .fz0 rfl rfl h1
          · have each : ∀ i, i < len → ∃ d v, Shaped she d ∧ VR (env0 w) d v ∧ Cells1 v ∧ v.cells.size = P.cellsOf el ∧ ∀ k, k < P.cellsOf el → w.cell? ((a.add (i * P.cellsOf el)).add k) = v.cells[k]? := by
              intro i hi
              have hb := h8 i hi
              rw [List.getElem?_eq_getElem (by omega), Option.bind_eq_some_iff] at hb
              obtain ⟨ecs, hc, ht⟩ := hb
              obtain ⟨d, v, g1, g2, g3, g4, g5⟩ := open_sh m el she n ecs _ hel ht
              obtain ⟨c1, c2, c3⟩ := World.cells?_some hc
              refine ⟨d, v, g1, g2, g4, ?_, fun k hk => ?_⟩
              · rw [← c2, ← g3]; simp
              · rw [c3 k hk, ← g3]; simp
            have each' : ∀ i, ∃ p : DV × Value, i < len → Shaped she p.1 ∧ VR (env0 w) p.1 p.2 ∧ Cells1 p.2 ∧ p.2.cells.size = P.cellsOf el ∧ ∀ k, k < P.cellsOf el → w.cell? ((a.add (i * P.cellsOf el)).add k) = p.2.cells[k]? := by
              intro i
              by_cases hi : i < len
              · obtain ⟨d, v, hd⟩ := each i hi
                exact ⟨(d, v), fun _ => hd⟩
              · exact ⟨(.any, .nilIface), fun h => (hi h).elim⟩
            obtain ⟨f, hf⟩ := Classical.skolem.1 each'
            by_cases h0 : len = 0
            · subst h0
              exact one (v := .slice (some a) 0 cap) (d := .fz (P.cellsOf el) []) rfl (.sl (Nat.zero_le _) (by simp)) .fz0 rfl rfl h2
            · have hc0 := (hf 0 (by omega)).2.2.2.2 0 hpos
              have hz : (f 0).2.cells.size = P.cellsOf el := (hf 0 (by omega)).2.2.2.1
              rw [Array.getElem?_eq_getElem (by omega)] at hc0
              obtain ⟨s1, s2⟩ := cell_at hc0
              obtain ⟨ab, ao, asp⟩ := a
              have hsp : asp = none := by simpa [Addr.add] using s1
              subst hsp
              have hlen : ((List.range len).map fun i => (f i).1).length = len := by simp
              have hro : ab < w.heap.size := by
                simp only [Nat.zero_mul, Addr.add, if_true] at s2
                unfold cellAt at s2
                split at s2
                · rename_i hb
                  exact (Array.getElem?_eq_some_iff.1 hb).1
                · cases s2
              have key := VR.fz (e := env0 w) (sz := P.cellsOf el) (l := (List.range len).map fun i => (f i).1) (a := ⟨ab, ao, none⟩) (cap := cap) (fun j => (f j).2) rfl (by rw [hlen]; exact h5)
                ⟨hro, fun b q hk => absurd rfl hk⟩
                (fun j hj => by rw [hlen] at hj; simpa using (hf j hj).2.1) (fun j hj => (hf j (by rw [hlen] at hj; exact hj)).2.2.2.1) (fun j hj => (hf j (by rw [hlen] at hj; exact hj)).2.2.1)
                (fun j hj k hk => by
                  rw [hlen] at hj
                  have := (hf j hj).2.2.2.2 k hk
                  rw [← this]
                  show cellAt w.heap ab (ao + j * P.cellsOf el + k) = _
                  rw [← cellAt_cell?]
                  congr 1
                  simp only [Addr.add]
                  split <;> split <;> simp_all)
              rw [hlen] at key
              exact one (v := .slice (some ⟨ab, ao, none⟩) len cap) rfl (.sl (by rw [hlen]; omega) (fun d hd => by
                obtain ⟨i, hi, rfl⟩ := List.mem_map.1 hd
                exact (hf i (List.mem_range.1 hi)).1)) key rfl rfl h2
      · cases h
    · rename_i fs hu
      split at h
      · rename_i hsum
        obtain ⟨parts, h1, rfl⟩ := Option.map_eq_some_iff.1 h
        obtain ⟨xs, n, rfl, rfl, hl, hxl, hx⟩ := DataW.trod_struct hu hx
        obtain ⟨ds, g1, g2, g3, g4⟩ := open_fields (w := w) (cs := cs) fs.toList 0 parts h1 (by omega) (fun f hf sh hsh => by
          obtain ⟨i, hi, rfl⟩ := List.getElem_of_mem hf
          have hi' : i < fs.size := by simpa using hi
          have hxi := hx i fs[i] (by simp [hi'])
          rw [List.getElem?_eq_getElem (by omega)] at hxi
          exact open_sh m _ sh n _ _ hsh (by simpa using hxi))
        have hcs : (cs.drop 0).take (sumFs P fs.toList) = cs := by rw [List.drop_zero, hsum, ← hl, List.take_length]
        rw [hcs] at g3 g4
        obtain ⟨t1, t2⟩ := g3.tr
        refine ⟨_, .agg cs.toArray, .st g1 (fun i hi hi' => (g2 i hi hi').1) (fun i hi hi' => (g2 i hi hi').2), .agg t1 (fun i hi => g4 _ (by simp)) t2, by simp [Value.cells], fun i hi => by simpa [Value.cells] using g4 _ (List.getElem_mem _), rfl⟩
      · cases h
    · cases h

end Go.Den
