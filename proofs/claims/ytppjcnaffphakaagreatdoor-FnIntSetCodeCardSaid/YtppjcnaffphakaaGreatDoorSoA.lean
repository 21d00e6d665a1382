/- The library's sort, as a contract over denoted values. -/
import Derived.Test.YtppjcnaffphakaaGreatDoorLibE
import Derived.Shelf.Sort.Plain
import Derived.Shelf.Slices.In.SortNone
import Derived.Shelf.Strconv.Itoa3
set_option linter.unusedVariables false
set_option linter.unusedSimpArgs false
namespace Go.Den
open Go Go.Sort

/-- More memory. -/
theorem env_grow {e : Env} (hr : HR e) (os : Array Obj) : HR ⟨e.ρ, e.h, e.H ++ os, e.pv⟩ ∧ Ev e.h.length e ⟨e.ρ, e.h, e.H ++ os, e.pv⟩ := by
  have hmem : ∀ r, r < e.H.size → (e.H ++ os)[r]? = e.H[r]? := fun r h => Array.getElem?_append_left h
  have ev : Ev e.h.length e ⟨e.ρ, e.h, e.H ++ os, e.pv⟩ := ⟨Nat.le_refl _, by simp, fun r h => ⟨⟨by simp; have := h.1; omega, h.2⟩, hmem r h.1⟩, fun b hb k' hk => ⟨k', hk, Key.le_refl _, fun _ => rfl⟩, rfl, fun r hr' => hmem r (hr.pvs r hr')⟩
  refine ⟨⟨hr.inj, fun b k hb => ?_, fun r h => by have := hr.pvs r h; simp; omega, hr.pvl⟩, ev⟩
  exact (hr.blk b k hb).keep (fun hk => by rw [Env.key_of (e := e) hb]; exact hk) (fun _ _ _ _ => rfl) (Env.key_of hb) (Nat.le_refl _) (fun m l _ _ h => h) (fun c q _ hk hq => hmem _ (hr.lt hk hq)) (fun d v h => h.mono ev)
/-- A call that puts a row's cells in order. -/
theorem Ok_sort {α : Type} [Inhabited α] {P : Program} {G : Nat → DV} {f : FuncId} (enc : α → Value) (henc : ∀ x, (enc x).oneCell' = true) (sorted : List α → List α) (hsl : ∀ l, (sorted l).length = l.length)
    (hsome : ∀ blk off cap (zs : List α) w, Holds enc w blk off zs.toArray → blk < w.heap.size → zs.length < 4611686018427387904 → Calls P f #[.slice (some ⟨blk, off, none⟩) zs.length cap] w fun e w' => e = .returned (.tuple #[]) ∧ ∃ n os, w' = grow (putRow enc (Go.Sort.ahead w n) blk off (sorted zs).toArray) os)
    (hnone : ∀ (p : Option Addr) (cap : Nat) w, Calls P f #[.slice p 0 cap] w fun e w' => e = .returned (.tuple #[]) ∧ w' = w)
    (h : List Blk) (b : Nat) (l : List α) (hb : h[b]? = some (.cells 1 (l.map fun x => .p (enc x)))) (hl : l.length < 4611686018427387904) :
    Ok P G f [.sl b 0 l.length l.length] h (.tup []) (h.set b (.cells 1 ((sorted l).map fun x => .p (enc x)))) := by
  intro e w vs he hH hr hg ht
  subst he
  obtain ⟨v, rfl⟩ : ∃ v, vs = #[v] := by
    have := ht.1
    match vs, this with
    | ⟨[v]⟩, _ => exact ⟨v, rfl⟩
  have hv : VR e (.sl b 0 l.length l.length) v := ht.2 0 (by simp) (by simp)
  have hbl : b < e.h.length := (List.getElem?_eq_some_iff.1 hb).1
  cases hv with
  | sl _ hq0 h1 =>
  obtain ⟨a0, c0, rfl⟩ := h1
  by_cases hl0 : l = []
  · subst hl0
    have hs0 : sorted [] = [] := List.eq_nil_of_length_eq_zero (by rw [hsl]; rfl)
    refine (hnone a0 c0 w).mono fun en w' ⟨h2, h3⟩ => ?_
    subst h3
    refine ⟨_, e, h2, hH, ?_, WS.refl _, hr, .tup rfl (fun i hi => by simp at hi), Ev.refl e⟩
    rw [hs0]
    obtain ⟨h4, h5⟩ := List.getElem?_eq_some_iff.1 hb
    rw [← h5]
    exact (List.set_getElem_self h4).symm
  · have hpos : 0 < l.length := List.length_pos_iff.2 hl0
    have hkey : e.key b = some (.c 1 l.length) := by rw [Env.key_of hb]; simp [Blk.key]
    obtain ⟨_, h2⟩ := hq0 _ _ hkey
    obtain ⟨_, h3⟩ := h2 rfl
    rcases h3 with ⟨_, h4⟩ | ⟨q, a, cap, hq, h4, hnc, hcq, hac⟩
    · injection h4; omega
    injection h4 with h5 h6 h7
    subst h5 h7
    obtain rfl := hac (by omega)
    have hB := hr.blk b _ hb
    generalize hels : (l.map fun x => DV.p (enc x)) = els at hB
    cases hB with
    | nil h => rw [h] at hq; cases hq
    | cells q' c T fr vs' hq' hH' hc hl' hf hvv hsz h1 hcell =>
    rw [hq] at hq'
    cases hq'
    subst hels
    rw [hH] at hH'
    simp only [List.length_map] at hl' hvv hsz h1 hcell
    have hcj : ∀ j (hj : j < l.length), c[j]? = some (enc l[j]) := fun j hj => by
      have g1 := hvv j hj
      simp only [List.getElem_map] at g1
      obtain ⟨g2, _⟩ := vr_p g1
      have g3 := hcell j hj 0 (by omega)
      rw [g2] at g3
      have g4 : (enc l[j]).cells = #[enc l[j]] := by
        have := henc l[j]
        cases hx : enc l[j] <;> first | rfl | (rw [hx] at this; simp [Value.oneCell'] at this)
      rw [g4] at g3
      simpa using g3
    have hcs : l.length ≤ c.size := by omega
    have hgetD : ∀ j (hj : j < l.length), l.toArray[j]! = l[j] := fun j hj => by simp [hj]
    have hold : Holds enc w q.1 0 l.toArray := fun j hj => by
      have hj : j < l.length := by simpa using hj
      rw [hgetD j hj]
      constructor
      · simp only [World.cell?, hH', Nat.zero_add]
        simpa using hcj j hj
      · simp only [World.frozen?, hH', Nat.zero_add]
        have := hf j (by omega)
        simp
        omega
    have hqs : q.1 < w.heap.size := (Array.getElem?_eq_some_iff.1 hH').1
    rw [show (0 * 1 : Nat) = 0 from rfl]
    refine (hsome q.1 0 _ l w hold hqs hl).mono fun en w' ⟨g1, nn, os, g2⟩ => ?_
    have hobj : (mapBlock (Go.Sort.ahead w nn) q.1 (putCells enc 0 (sorted l).toArray)).heap = w.heap.setIfInBounds q.1 (.cells (putCells enc 0 (sorted l).toArray c) T fr) := by
      unfold mapBlock Go.Sort.ahead
      apply Array.ext_getElem?
      intro i
      simp only [Array.getElem?_modify]
      by_cases hi : q.1 = i
      · subst hi
        rw [if_pos rfl, Array.getElem?_setIfInBounds_self, if_pos hqs, hH']
        rfl
      · rw [if_neg hi, Array.getElem?_setIfInBounds_ne hi]
    obtain ⟨e1, k1, k2, k3, k4, k5⟩ := env_put (w := w) (blk' := .cells 1 ((sorted l).map fun x => .p (enc x))) (o := .cells (putCells enc 0 (sorted l).toArray c) T fr) hr hH hb (k := .c 1 l.length) (by simp [Blk.key]) (by simp [Blk.key, hsl]) hq (fun h => by cases h) (fun e' a1 a2 a3 a4 => by
      refine .cells q (putCells enc 0 (sorted l).toArray c) T fr (fun j => enc ((sorted l).getD j default)) a2 (by rw [a3]; simp [hqs]) (by simp [putCells, hc]) (by simp [hsl]; omega) hf (fun j hj => ?_) (fun j hj => ?_) (fun j hj => ?_) (fun j hj k hk => ?_)
      · have hj : j < (sorted l).length := by simpa using hj
        simp [hj]
        exact .p (henc _)
      · have := henc ((sorted l).getD j default)
        cases hx : enc ((sorted l).getD j default) <;> first | rfl | (rw [hx] at this; simp [Value.oneCell'] at this)
      · have := henc ((sorted l).getD j default)
        intro i hi
        have hcell : (enc ((sorted l).getD j default)).cells = #[enc ((sorted l).getD j default)] := by
          cases hx : enc ((sorted l).getD j default) <;> first | rfl | (rw [hx] at this; simp [Value.oneCell'] at this)
        simp only [hcell] at hi ⊢
        have : i = 0 := by simpa using hi
        subst this
        simpa using henc _
      · have hj : j < (sorted l).length := by simpa using hj
        have : k = 0 := by omega
        subst this
        have hcell : (enc ((sorted l).getD j default)).cells = #[enc ((sorted l).getD j default)] := by
          have := henc ((sorted l).getD j default)
          cases hx : enc ((sorted l).getD j default) <;> first | rfl | (rw [hx] at this; simp [Value.oneCell'] at this)
        rw [hcell]
        have hjc : j < c.size := by rw [hsl] at hj; omega
        simp [putCells, hj, hjc])
    obtain ⟨m1, m2⟩ := env_grow k4 os
    have hw' : w'.heap = e1.H ++ os := by rw [g2, k1]; simp only [grow, putRow]; rw [hobj]
    refine ⟨_, ⟨e1.ρ, e1.h, e1.H ++ os, e1.pv⟩, g1, hw'.symm, k2, ?_, m1, .tup rfl (fun i hi => by simp at hi), k3.trans m2 (by have := k3.len; exact this)⟩
    rw [g2]
    exact ⟨rfl, rfl, rfl⟩
/-- A variable's cells, all of them. -/
theorem GR.var {P : Program} {e : Env} {w : World} {G : Nat → DV} (hg : GR e G) (hH : e.H = w.heap) {g : Nat} {name : String} (hn : P.globalNamed name = some g) {vs : List Value} (hG : G g = .fp (.agg (vs.map .p))) (hne : vs ≠ []) : w.var? P name = some vs.toArray := by
  obtain ⟨h1, h2⟩ := hg g
  rw [hG] at h1 h2
  obtain ⟨x, l, rfl⟩ := List.exists_cons_of_ne_nil hne
  simp only [List.map_cons, GX] at h2
  obtain ⟨c, T, f, h3, h4⟩ := h2
  simp only [World.var?, hn, Option.bind_some, ← hH, h3]
  congr 1
  cases h1 with
  | fp v0 hs hr hv hcell =>
  cases hv with
  | agg hl g1 g =>
  rename_i us
  simp only [List.length_map, List.length_cons] at hl h4
  simp only [List.map_cons, List.length_cons, List.length_map] at g
  apply Array.ext
  · simp; omega
  · intro i hi hi'
    have hi2 : i < us.size := by omega
    have h5 := hcell i (by simpa [Value.cells] using hi2)
    simp only [cellAt, h3, Nat.zero_add, Value.cells] at h5
    rw [Array.getElem?_eq_getElem hi, Array.getElem?_eq_getElem hi2] at h5
    have h6 := g i (by omega) hi2
    have h7 : (DV.p x :: l.map DV.p)[i]'(by simp; omega) = DV.p ((x :: l)[i]'(by simp; omega)) := by
      cases i with
      | zero => rfl
      | succ i => simp
    rw [h7] at h6
    obtain ⟨h8, _⟩ := vr_p h6
    rw [Option.some.inj h5, h8]
    simp
/-- A call that tells a value, and may leave more memory. -/
theorem Ok_grow {P : Program} {G : Nat → DV} {f : FuncId} {args : List Value} {v : Value} (hv : v.oneCell' = true) (C : World → Prop) (hC : ∀ e w, e.H = w.heap → GR e G → C w) (hf : ∀ w, C w → Calls P f args.toArray w fun e w' => e = .returned v ∧ ∃ k os, w' = grow (w.drewN k) os) (h : List Blk) : Ok P G f (args.map .p) h (.p v) h := by
  intro e w vs he hH hr hg ht
  subst he
  have hvs : vs = args.toArray := by
    apply Array.ext
    · have := ht.1; simpa using this.symm
    · intro i h1 h2
      have h3 := ht.2 i (by simpa using h2) h1
      simp only [List.getElem_map] at h3
      simpa using (vr_p h3).1
  subst hvs
  refine (hf w (hC e w hH hg)).mono fun en w' ⟨h1, k, os, h2⟩ => ?_
  obtain ⟨m1, m2⟩ := env_grow hr os
  refine ⟨_, ⟨e.ρ, e.h, e.H ++ os, e.pv⟩, h1, ?_, rfl, ?_, m1, .p hv, m2⟩
  · rw [h2, hH]; rfl
  · rw [h2]; exact ⟨rfl, rfl, rfl⟩
@[simp] theorem WF_fn0 {B : Nat → Prop} {f : Fn} : WF B (.fn f [] []) = True := eq_true (.fn (fun j hj => absurd hj (Nat.not_lt_zero _)) (fun j hj => absurd hj (Nat.not_lt_zero _)))
end Go.Den
