/- The library: contracts of functions over denoted values (I). -/
import Derived.Test.YtbbafeocmchlnaaDenH
import Derived.Laws.Tables
set_option linter.unusedVariables false
set_option linter.unusedSimpArgs false
set_option linter.unusedSectionVars false
set_option linter.unnecessarySimpa false
namespace Go.Den
open Go

theorem foldl_set (l : List Value) : ∀ (k off : Nat) (cs : Array Value), (l.zipIdx k).foldl (fun cs p => cs.setIfInBounds (off + p.2) p.1) cs = (l.zipIdx k).foldl (fun cs p => cs.setIfInBounds (off + p.2) p.1) cs := fun _ _ _ => rfl

theorem foldl_set_size (l : List Value) : ∀ (k off : Nat) (cs : Array Value), ((l.zipIdx k).foldl (fun cs p => cs.setIfInBounds (off + p.2) p.1) cs).size = cs.size := by
  induction l with
  | nil => intro k off cs; rfl
  | cons v l ih => intro k off cs; simp only [List.zipIdx_cons, List.foldl_cons]; rw [ih]; simp

theorem foldl_set_get (l : List Value) : ∀ (k off : Nat) (cs : Array Value), off + k + l.length ≤ cs.size → ∀ i, ((l.zipIdx k).foldl (fun cs p => cs.setIfInBounds (off + p.2) p.1) cs)[i]? = if off + k ≤ i ∧ i < off + k + l.length then l[i - (off + k)]? else cs[i]? := by
  induction l with
  | nil => intro k off cs h i; simp; intro h1 h2; omega
  | cons v l ih =>
    intro k off cs h i
    simp only [List.length_cons] at h
    simp only [List.zipIdx_cons, List.foldl_cons]
    rw [ih (k + 1) off _ (by simp; omega) i]
    by_cases h1 : off + (k + 1) ≤ i ∧ i < off + (k + 1) + l.length
    · rw [if_pos h1, if_pos (by simp; omega)]
      rw [show i - (off + k) = (i - (off + (k + 1))) + 1 by omega]
      simp
    · rw [if_neg h1]
      by_cases h2 : i = off + k
      · subst h2
        rw [if_pos (by simp)]
        simp [show off + k < cs.size by omega]
      · rw [if_neg (by simp only [List.length_cons]; omega), Array.getElem?_setIfInBounds_ne (by omega)]

/-- What relates a struct's cells as they are filled in. -/
structure AR (e : Env) (cs : List DV) (vs : Array Value) : Prop where
  hl : cs.length = vs.size
  h1 : ∀ i (hi : i < vs.size), vs[i].oneCell' = true
  h : ∀ i (hi : i < cs.length) (hi' : i < vs.size), VR e cs[i] vs[i]

theorem AR.vr {e : Env} {cs : List DV} {vs : Array Value} (h : AR e cs vs) : VR e (.agg cs) (.agg vs) := .agg h.hl h.h1 h.h

theorem AR.put {e : Env} {cs : List DV} {vs vs' : Array Value} (h : AR e cs vs) {x : DV} {u : Value} (hu : VR e x u) (hx : x.storable = true) (o : Nat) (hb : o + x.size ≤ cs.length) (hs : vs'.size = vs.size)
    (hv : ∀ i, vs'[i]? = if o ≤ i ∧ i < o + u.cells.size then u.cells[i - o]? else vs[i]?) : AR e (cs.take o ++ x.cells ++ cs.drop (o + x.size)) vs' := by
  have hus := vr_size hu hx
  have hc := vr_cells hu hx
  have hu1 := hu.cells1 hx
  have hl := h.hl
  have hxl : x.cells.length = x.size := by rw [hc.1, hus]
  have hput : ∀ k, (cs.take o ++ x.cells ++ cs.drop (o + x.size))[k]? = if o ≤ k ∧ k < o + x.size then x.cells[k - o]? else cs[k]? := by
    have := put_getElem cs x.cells o (by omega)
    rw [hxl] at this
    exact this
  refine ⟨by simp [hs, hxl]; omega, fun i hi => ?_, fun i hi hi' => ?_⟩
  · have e2 := hv i
    rw [Array.getElem?_eq_getElem hi] at e2
    split at e2
    · rw [Array.getElem?_eq_getElem (by omega)] at e2
      rw [Option.some.inj e2]
      exact hu1 _ _
    · rw [Array.getElem?_eq_getElem (by omega)] at e2
      rw [Option.some.inj e2]
      exact h.h1 _ _
  · have e1 := hput i
    have e2 := hv i
    rw [List.getElem?_eq_getElem hi] at e1
    rw [Array.getElem?_eq_getElem hi'] at e2
    rw [hus] at e2
    by_cases hk : o ≤ i ∧ i < o + x.size
    · rw [if_pos hk, List.getElem?_eq_getElem (by omega)] at e1
      rw [if_pos hk, Array.getElem?_eq_getElem (by omega)] at e2
      rw [Option.some.inj e1, Option.some.inj e2]
      exact hc.2 _ _ _
    · rw [if_neg hk, List.getElem?_eq_getElem (by omega)] at e1
      rw [if_neg hk, Array.getElem?_eq_getElem (by omega)] at e2
      rw [Option.some.inj e1, Option.some.inj e2]
      exact h.h _ _ _

def fillD (ev : Opd → DV) : List (Nat × Nat × Opd) → List DV → Option (List DV)
  | [], cs => some cs
  | p :: l, cs => if (ev p.2.2).size = p.2.1 ∧ (ev p.2.2).storable = true ∧ p.1 + p.2.1 ≤ cs.length then fillD ev l (cs.take p.1 ++ (ev p.2.2).cells ++ cs.drop (p.1 + p.2.1)) else none

theorem foldl_none {ev : Opd → DV} (l : List (Nat × Nat × Opd)) :
    l.foldl (fun (acc : Option (List DV)) p => acc.bind fun cs => if (ev p.2.2).size = p.2.1 ∧ (ev p.2.2).storable = true ∧ p.1 + p.2.1 ≤ cs.length then some (cs.take p.1 ++ (ev p.2.2).cells ++ cs.drop (p.1 + p.2.1)) else none) none = none := by
  induction l with
  | nil => rfl
  | cons p l ih => simpa using ih

theorem foldl_fillD {ev : Opd → DV} (l : List (Nat × Nat × Opd)) : ∀ cs,
    l.foldl (fun (acc : Option (List DV)) p => acc.bind fun cs => if (ev p.2.2).size = p.2.1 ∧ (ev p.2.2).storable = true ∧ p.1 + p.2.1 ≤ cs.length then some (cs.take p.1 ++ (ev p.2.2).cells ++ cs.drop (p.1 + p.2.1)) else none) (some cs) = fillD ev l cs := by
  induction l with
  | nil => intro cs; rfl
  | cons p l ih =>
    intro cs
    simp only [List.foldl_cons, Option.bind_some, fillD]
    split
    · exact ih _
    · exact foldl_none l

theorem fill_sound {e : Env} {ev : Opd → DV} {re : Operand → Value} (hev : ∀ x, VR e (ev (cOpd x)) (re x)) (place : Nat → Option (Nat × Nat)) : ∀ (parts : List (Nat × Operand)) (dp : List (Nat × Nat × Opd)) (cs cs' : List DV) (vs : Array Value),
    parts.mapM (fun p => (place p.1).map fun q => (q.1, q.2, cOpd p.2)) = some dp → AR e cs vs → fillD ev dp cs = some cs' →
    ∃ vs', Instr.fill place vs (parts.map fun p => (p.1, re p.2)) = some vs' ∧ AR e cs' vs' := by
  intro parts
  induction parts with
  | nil =>
    intro dp cs cs' vs h ha hd
    simp at h
    subst h
    simp only [fillD, Option.some.injEq] at hd
    subst hd
    exact ⟨vs, rfl, ha⟩
  | cons p parts ih =>
    intro dp cs cs' vs h ha hd
    obtain ⟨i, x⟩ := p
    simp only [List.mapM_cons, Option.bind_eq_bind, Option.pure_def] at h
    cases hp : place i with
    | none => simp [hp] at h
    | some q =>
      obtain ⟨off, sz⟩ := q
      cases hr : parts.mapM (fun p => (place p.1).map fun q => (q.1, q.2, cOpd p.2)) with
      | none => simp [hp, hr] at h
      | some rest =>
        simp [hp, hr] at h
        subst h
        simp only [fillD] at hd
        split at hd
        · rename_i hc
          obtain ⟨hsz, hst, hb⟩ := hc
          have hu := hev x
          have hus := vr_size hu hst
          have hl := ha.hl
          let vs1 := (re x).cells.zipIdx.foldl (fun (cs : Array Value) (cj : Value × Nat) => cs.setIfInBounds (off + cj.2) cj.1) vs
          have hvs1 : vs1 = ((re x).cells.toList.zipIdx 0).foldl (fun cs p => cs.setIfInBounds (off + p.2) p.1) vs := by
            simp only [vs1]
            rw [← Array.foldl_toList, Array.toList_zipIdx]
          have hs1 : vs1.size = vs.size := by rw [hvs1]; exact foldl_set_size _ _ _ _
          have hg1 : ∀ i, vs1[i]? = if off ≤ i ∧ i < off + (re x).cells.size then (re x).cells[i - off]? else vs[i]? := fun i => by
            rw [hvs1, foldl_set_get _ 0 off vs (by simp; omega) i]
            simp
          have ha1 := ha.put hu hst off (by omega) hs1 hg1
          rw [hsz] at ha1
          obtain ⟨vs', h1, h2⟩ := ih rest _ cs' vs1 hr ha1 hd
          refine ⟨vs', ?_, h2⟩
          simp only [List.map_cons, Instr.fill, hp]
          rw [if_neg (by simp; omega)]
          exact h1
        · cases hd

/-- A struct's or an array's zero, and where its parts lie. -/
def builtOf (P : Program) (t : TypeId) : Option (Array Value × (Nat → Option (Nat × Nat))) :=
  match P.info? t, P.underlying t with
  | some it, some (.array _ e) =>
    match it.zero, P.info? e with
    | some z, some ie => some (z.cells, fun i => some (i * ie.size, ie.size))
    | _, _ => none
  | some it, some (.struct fields) =>
    match it.zero, fields.toList.mapM (fun f => (P.info? f.type).map fun i => (f.offset, i.size)) with
    | some z, some places => some (z.cells, (places.toArray[·]?))
    | _, _ => none
  | _, _ => none

theorem built_eq {P : Program} {t : TypeId} {z : Array Value} {place : Nat → Option (Nat × Nat)} (h : builtOf P t = some (z, place)) (parts : List (Nat × Value)) : P.built t parts = Instr.fill place z parts := by
  unfold builtOf at h
  unfold Program.built
  split at h
  · rename_i it n el h1 h2
    simp only [h1, h2]
    split at h
    · rename_i zz ie h3 h4
      simp only [Option.some.injEq, Prod.mk.injEq] at h
      simp only [h3, h4]
      rw [← h.1, ← h.2]
    · cases h
  · rename_i it fields h1 h2
    simp only [h1, h2]
    split at h
    · rename_i zz pl h3 h4
      simp only [Option.some.injEq, Prod.mk.injEq] at h
      simp only [h3, h4]
      rw [← h.1, ← h.2]
    · cases h
  · cases h

theorem ar_zero {e : Env} {z : Array Value} (h : z.all Value.oneCell' = true) : AR e (z.toList.map .p) z :=
  ⟨by simp, fun i hi => Array.all_eq_true.1 h i hi, fun i hi hi' => by simpa using .p (Array.all_eq_true.1 h i hi')⟩

section
variable {P : Program} {e : Env} {w : World} {K : DV → List Blk → Prop}

theorem y_bld {t : TypeId} {z : Array Value} {place : Nat → Option (Nat × Nat)} (hb : builtOf P t = some (z, place)) (hz : z.all Value.oneCell' = true) {ev : Opd → DV} {re : Operand → Value} (hev : ∀ x, VR e (ev (cOpd x)) (re x))
    (parts : Array (Nat × Operand)) (dp : List (Nat × Nat × Opd)) (hp : parts.toList.mapM (fun p => (place p.1).map fun q => (q.1, q.2, cOpd p.2)) = some dp) (hH : e.H = w.heap) (hr : HR e)
    (h : match fillD ev dp (z.toList.map .p) with | some cs => K (.agg cs) e.h | none => False) :
    Yields P (do pure (.value (← Instr.build t (parts.map fun (i, x) => (i, re x))))) w (After e w K) := by
  cases hf : fillD ev dp (z.toList.map .p) with
  | none => rw [hf] at h; exact h.elim
  | some cs =>
    rw [hf] at h
    obtain ⟨vs', h1, h2⟩ := fill_sound hev place parts.toList dp _ cs z hp (ar_zero hz) hf
    refine y_pure ?_ hH hr h2.vr h
    have h3 : P.built t (parts.map fun (i, x) => (i, re x)).toList = some vs' := by
      rw [built_eq hb]
      simpa using h1
    simp only [Sem.run_bind, run_build w t _ vs' h3, Result.andThen_ok]
    rfl

end
end Go.Den
