/- The library: contracts of functions over denoted values (N). -/
import Derived.Test.YtbbafeocmchlnaaDenN
import Derived.Laws.RangeString
import Derived.Laws.RangeAny
import Derived.Laws.IdiomRangeMap
import Derived.Lib.OthersKept
import Derived.Maps.RangeRun
import Derived.MapKept
import Derived.WideMake
set_option linter.unusedVariables false
set_option linter.unusedSimpArgs false
set_option linter.unusedSectionVars false
set_option linter.unnecessarySimpa false
namespace Go.Den
open Go
open Go.Lib

section
variable {P : Program} {e : Env} {w : World} {K : DV → List Blk → Prop}

/-- A new block that is no row of cells. -/
theorem y_obj {x : Sem Value} {v : Value} {o : Obj} (hx : x.run P w = .ok v (w.alloc o)) {blk : Blk} {d : DV} (hH : e.H = w.heap) (hr : HR e)
    (hbr : ∀ e' : Env, e'.h = e.h ++ [blk] → e'.ρ e.h.length = some (w.heap.size, 0) → e'.H = w.heap.push o → Ev e.h.length e e' → BR e' e.h.length blk)
    (hv : ∀ e' : Env, e'.h = e.h ++ [blk] → e'.ρ e.h.length = some (w.heap.size, 0) → VR e' d v) (hk : K d (e.h ++ [blk])) : Yields P (do pure (.value (← x))) w (After e w K) := by
  obtain ⟨ev, hh⟩ := env_push hr blk (some (w.heap.size, 0)) (w.heap.push o) (by rw [hH]; simp) (fun r hr' => by rw [hH] at hr' ⊢; rw [Array.getElem?_push_lt hr', Array.getElem?_eq_getElem hr']) (fun q0 hq => by cases hq; rw [hH]; exact Nat.le_refl _)
  have hρ : upd e.ρ e.h.length (some (w.heap.size, 0)) e.h.length = some (w.heap.size, 0) := upd_same _ _ _
  unfold Yields
  simp only [Sem.run_bind, hx, Result.andThen_ok, Sem.run_pure]
  exact ⟨_, d, rfl, ⟨rfl, rfl, rfl⟩, hh (hbr _ rfl hρ rfl ev), ev, hv _ rfl hρ, hk⟩

theorem it_vr {e' : Env} {h : List Blk} {blk : Blk} {r : Nat} (h1 : e'.h = h ++ [blk]) (h2 : e'.ρ h.length = some (r, 0)) : VR e' (.it h.length) (.pointer (some ⟨r, 0, none⟩)) :=
  .it (by rw [h1]; simp) (fun k hk hs => ⟨_, h2, rfl⟩) rfl

theorem y_rngs {t : TypeId} {s : ByteArray} (hu : P.underlying t = some .string) (hH : e.H = w.heap) (hr : HR e) (hk : K (.it e.h.length) (e.h ++ [.sit s 0])) :
    Yields P (do pure (.value (← Instr.range t (.string s)))) w (After e w K) := by
  refine y_obj (o := .stringIter s 0) (v := .pointer (some ⟨w.heap.size, 0, none⟩)) ?_ hH hr (fun e' h1 h2 h3 _ => .sit _ h2 ?_) (fun e' h1 h2 => it_vr h1 h2) hk
  · have := run_range_string (P := P) w t s hu
    simpa [World.iter] using this
  · rw [h3]; simp

theorem y_mkmap {t : TypeId} (hH : e.H = w.heap) (hr : HR e) (hk : K (.mp e.h.length) (e.h ++ [.map []])) :
    Yields P (do pure (.value (← Instr.makeMap t none))) w (After e w K) := by
  refine y_obj (o := .map #[] 0) (v := .map (some w.heap.size)) (run_makeMap_plain w t) hH hr (fun e' h1 h2 h3 _ => .map _ #[] 0 h2 (by rw [h3]; simp) rfl (fun j hj => by simp at hj) (fun j hj => by simp at hj) (fun j hj => by simp at hj) (fun i j hi => by simp at hi))
    (fun e' h1 h2 => .mp (by rw [h1]; simp) (fun _ => ⟨_, h2, rfl⟩) rfl) hk


/-- A block that is no row of cells gets other contents. -/
theorem env_put {b : Nat} {blk blk' : Blk} {k : Key} {q : Nat × Nat} {o : Obj} (hr : HR e) (hH : e.H = w.heap) (hb : e.h[b]? = some blk) (hk : blk.key = some k) (hk' : blk'.key = some k) (hq : e.ρ b = some q) (hmit : k = .m → noIter e.h b)
    (hbr : ∀ e' : Env, e'.h = e.h.set b blk' → e'.ρ b = some q → e'.H = w.heap.setIfInBounds q.1 o → Ev e.h.length e e' → BR e' b blk') :
    ∃ e' : Env, e'.H = w.heap.setIfInBounds q.1 o ∧ e'.h = e.h.set b blk' ∧ Ev e.h.length e e' ∧ HR e' ∧ e'.ρ b = some q := by
  have hkey : e.key b = some k := by simp [Env.key, hb, hk]
  obtain ⟨ev, hh⟩ := env_set hr b k k hkey blk' hk' (Key.le_refl _) (e.ρ b) (fun _ => rfl) (w.heap.setIfInBounds q.1 o) (by rw [hH]; simp) (fun r hr' hne => by
      rw [hH, Array.getElem?_setIfInBounds_ne (hne q hq)]) (fun q0 h => .inl ⟨q0, h, rfl⟩) (fun c l hc hkm => by
      rw [hkey] at hkm
      exact hmit (by simpa using hkm) c l hc)
  have hρ : upd e.ρ b (e.ρ b) b = some q := by rw [upd_same, hq]
  exact ⟨⟨upd e.ρ b (e.ρ b), e.h.set b blk', w.heap.setIfInBounds q.1 o⟩, rfl, rfl, ev, hh (hbr _ rfl hρ rfl ev), hρ⟩

theorem vr_it {b : Nat} {v : Value} {k : Key} (h : VR e (.it b) v) (hk : e.key b = some k) (hs : k = .s ∨ k = .i) : ∃ q, e.ρ b = some q ∧ v = .pointer (some ⟨q.1, 0, none⟩) := by
  cases h with
  | it hb h h1 => exact h k hk hs
theorem vr_mp {b : Nat} {v : Value} (h : VR e (.mp b) v) (hk : e.key b = some .m) : ∃ q, e.ρ b = some q ∧ v = .map (some q.1) := by
  cases h with
  | mp hb h h1 => exact h hk

theorem lt_of_some {H : Array Obj} {r : Nat} {o : Obj} (h : H[r]? = some o) : r < H.size := (Array.getElem?_eq_some_iff.1 h).1

theorem y_nxts {ty : TypeId} {b : Nat} {s : ByteArray} {pos : Nat} {v : Value} (hv : VR e (.it b) v) (hb : e.h[b]? = some (.sit s pos)) (hH : e.H = w.heap) (hr : HR e)
    (h1 : pos < s.size → K (.tup [.p (.bool true), .p (.int .i64 pos), .p (.int .i32 (Utf8.decode s pos).1)]) (e.h.set b (.sit s (pos + (Utf8.decode s pos).2)))) (h2 : s.size ≤ pos → K (.tup [.p (.bool false)]) e.h) :
    Yields P (do pure (.value (← Instr.next v true ty))) w (After e w K) := by
  obtain ⟨q, hq, rfl⟩ := vr_it hv (k := .s) (by simp [Env.key, hb, Blk.key]) (.inl rfl)
  have hB := hr.blk b _ hb
  cases hB with
  | sit q' hq' hHq =>
    rw [hq] at hq'
    cases hq'
    rw [hH] at hHq
    by_cases hp : pos < s.size
    · obtain ⟨e', g1, g2, g3, g4, g5⟩ := env_put (w := w) (blk' := .sit s (pos + (Utf8.decode s pos).2)) (o := .stringIter s (pos + (Utf8.decode s pos).2)) hr hH hb (k := .s) rfl rfl hq (fun h => by cases h) (fun e' a1 a2 a3 a4 => .sit q a2 (by rw [a3]; simp [lt_of_some hHq]))
      unfold Yields
      simp only [Sem.run_bind, run_next_any_at w q.1 s pos ty hHq hp, Result.andThen_ok, Sem.run_pure]
      refine ⟨e', _, g1, ⟨rfl, rfl, rfl⟩, g4, g3, ?_, by rw [g2]; exact h1 hp⟩
      refine .tup rfl fun i hi hi' => ?_
      have : i = 0 ∨ i = 1 ∨ i = 2 := by simp at hi; omega
      rcases this with rfl | rfl | rfl <;> exact .p rfl
    · unfold Yields
      simp only [Sem.run_bind, run_next_end_at w q.1 s pos ty hHq hp, Result.andThen_ok, Sem.run_pure]
      refine ⟨e, _, hH, WS.refl w, hr, Ev.refl e, ?_, h2 (by omega)⟩
      refine .tup rfl fun i hi hi' => ?_
      have : i = 0 := by simpa using hi
      subst this
      exact .p rfl

theorem y_rngm0 {t k el : TypeId} (hu : P.underlying t = some (.map k el)) (hH : e.H = w.heap) (hr : HR e) (hk : K (.it e.h.length) (e.h ++ [.mit none ([], none)])) :
    Yields P (do pure (.value (← Instr.range t (.map none)))) w (After e w K) :=
  y_obj (o := .mapIter none 0 #[] 0) (v := .pointer (some ⟨w.heap.size, 0, none⟩)) (run_range_nilMap w t k el hu) hH hr (fun e' h1 h2 h3 _ => .mit0 _ 0 #[] 0 h2 (by rw [h3]; simp)) (fun e' h1 h2 => it_vr h1 h2) hk

theorem y_rngm {t k el : TypeId} (hu : P.underlying t = some (.map k el)) {b : Nat} {es : List (Value × DV)} {v : Value} (hv : VR e (.mp b) v) (hb : e.h[b]? = some (.map es)) (hH : e.H = w.heap) (hr : HR e)
    (hk : K (.it e.h.length) (e.h ++ [.mit (some b) (List.range es.length, none)])) : Yields P (do pure (.value (← Instr.range t v))) w (After e w K) := by
  have hkey : e.key b = some .m := by simp [Env.key, hb, Blk.key]
  obtain ⟨q, hq, rfl⟩ := vr_mp hv hkey
  have hB := hr.blk b _ hb
  have hlt : b < e.h.length := (List.getElem?_eq_some_iff.1 hb).1
  cases hB with
  | map q' res clock hq' hHq hl hk1 hv1 hb1 hd1 =>
    rw [hq] at hq'
    cases hq'
    rw [hH] at hHq
    refine y_obj (o := .mapIter (some q.1) clock #[] clock) (v := .pointer (some ⟨w.heap.size, 0, none⟩)) (run_range_map w t k el q.1 res clock hu hHq) hH hr (fun e' h1 h2 h3 ev => ?_) (fun e' h1 h2 => it_vr h1 h2) hk
    have hkey' : e'.key b = some .m := by simp [Env.key, h1, List.getElem?_append_left hlt, hb, Blk.key]
    have hρ' : e'.ρ b = some q := by
      obtain ⟨k0, g1, g2, g3⟩ := ev.key b hlt _ hkey'
      rw [hkey] at g1
      cases g1
      rw [g3 rfl, hq]
    refine .mit _ q.1 clock #[] clock (by rw [h1]; simp; omega) h2 (by rw [h3]; simp) (fun _ => ⟨q, res, clock, hρ', rfl, by rw [h3, Array.getElem?_push_lt (lt_of_some hHq)]; rw [← hHq]; simp [lt_of_some hHq], fun j hj => ⟨hb1 j hj, hb1 j hj⟩, fun j hj => by simp [hl, hj], fun j hj => by simpa [hl] using hj, List.nodup_range, rfl, rfl, fun j hj => by cases hj⟩)


theorem y_nxtm0 {ty : TypeId} {b : Nat} {l : Lf} {v : Value} (hv : VR e (.it b) v) (hb : e.h[b]? = some (.mit none l)) (hH : e.H = w.heap) (hr : HR e) (hk : K (.tup [.p (.bool false)]) e.h) :
    Yields P (do pure (.value (← Instr.next v false ty))) w (After e w K) := by
  obtain ⟨q, hq, rfl⟩ := vr_it hv (k := .i) (by simp [Env.key, hb, Blk.key]) (.inr rfl)
  have hB := hr.blk b _ hb
  cases hB with
  | mit0 q' since seen last hq' hHq =>
    rw [hq] at hq'
    cases hq'
    rw [hH] at hHq
    have hrun : (Instr.next (.pointer (some ⟨q.1, 0, none⟩)) false ty).run P w = .ok (.tuple #[.bool false]) w := by
      simp [Instr.next, getObj, Sem.run, hHq]
    unfold Yields
    simp only [Sem.run_bind, hrun, Result.andThen_ok, Sem.run_pure]
    refine ⟨e, _, hH, WS.refl w, hr, Ev.refl e, ?_, hk⟩
    refine .tup rfl fun i hi hi' => ?_
    have : i = 0 := by simpa using hi
    subst this
    exact .p rfl

theorem y_nxtm {ty : TypeId} {b m : Nat} {l : Lf} {es : List (Value × DV)} {v : Value} (hv : VR e (.it b) v) (hb : e.h[b]? = some (.mit (some m) l)) (hm : e.h[m]? = some (.map es)) (hH : e.H = w.heap) (hr : HR e)
    (h1 : l.1 = [] → K (.tup [.p (.bool false)]) e.h) (h2 : ∀ j, j ∈ l.1 → (es.getD j default).1.oneCell' = true ∧ K (.tup [.p (.bool true), .p (es.getD j default).1, (es.getD j default).2]) (e.h.set b (.mit (some m) (l.1.erase j, some j)))) :
    Yields P (do pure (.value (← Instr.next v false ty))) w (After e w K) := by
  have hkb : e.key b = some .i := by simp [Env.key, hb, Blk.key]
  have hkm : e.key m = some .m := by simp [Env.key, hm, Blk.key]
  obtain ⟨q, hq, rfl⟩ := vr_it hv hkb (.inr rfl)
  have hB := hr.blk b _ hb
  have hM := hr.blk m _ hm
  have hbm : b ≠ m := fun h => by rw [h, hkm] at hkb; cases hkb
  cases hB with
  | mit q' rm since seen last hml hq' hHq hmm =>
    rw [hq] at hq'
    cases hq'
    obtain ⟨qm, res, clock, g1, g2, g3, g4, g5, g6, g7, g8, g9, g10⟩ := hmm hkm
    subst g2
    cases hM with
    | map q2 res2 clock2 hq2 hH2 hl hk2 hv2 hb2 hd2 =>
      rw [g1] at hq2
      cases hq2
      rw [g3] at hH2
      simp only [Option.some.injEq, Obj.map.injEq] at hH2
      obtain ⟨e1, e2⟩ := hH2
      subst e1
      rw [hH] at hHq g3
      have hne : q.1 ≠ qm.1 := fun h => hbm (hr.inj b m q qm (by rw [hkb]; simp) (by rw [hkm]; simp) hq g1 h)
      rcases run_next_at (P := P) w ty q.1 qm.1 since last seen res clock hHq g3 (fun x hx => by
          obtain ⟨j, hj, rfl⟩ := List.getElem_of_mem hx
          simpa using (g4 j (by simpa using hj)).1) (by rw [g8, g9]; exact Nat.le_refl _) with ⟨n1, n2⟩ | ⟨x, n1, w1, n2, n3⟩
      · have hl0 : l.1 = [] := by
          obtain ⟨l, cu⟩ := l
          cases l with
          | nil => rfl
          | cons j l =>
            have hj := g6 j List.mem_cons_self
            have hns := (g5 j hj).1 List.mem_cons_self
            have : res[j] ∈ leftOf res seen := by simp [leftOf, hns]
            have h0 : leftOf res seen = #[] := Array.eq_empty_of_size_eq_zero n1
            rw [h0] at this
            simp at this
        unfold Yields
        simp only [Sem.run_bind, n2, Result.andThen_ok, Sem.run_pure]
        refine ⟨e, _, hH, WS.refl w, hr, Ev.refl e, ?_, h1 hl0⟩
        refine .tup rfl fun i hi hi' => ?_
        have : i = 0 := by simpa using hi
        subst this
        exact .p rfl
      · have hx : x ∈ leftOf res seen := by simpa using n1
        simp only [leftOf, Array.mem_filter, Bool.not_eq_true', Array.contains_eq_mem, decide_eq_false_iff_not] at hx
        obtain ⟨hx1, hx2⟩ := hx
        obtain ⟨j, hj, rfl⟩ := Array.getElem_of_mem hx1
        have hjl : j ∈ l.1 := (g5 j hj).2 hx2
        obtain ⟨o1, o2⟩ := h2 j hjl
        have hw1 : w1.heap = w.heap := by rcases n2 with rfl | rfl <;> rfl
        have hws : WS w w1 := by rcases n2 with rfl | rfl <;> exact ⟨rfl, rfl, rfl⟩
        obtain ⟨e', p1, p2, p3, p4, p5⟩ := env_put (w := w1) (blk' := .mit (some m) (l.1.erase j, some j)) (o := .mapIter (some qm.1) since (seen.push res[j].born) clock) hr (hH.trans hw1.symm) hb (k := .i) rfl rfl hq (fun h => by cases h) (fun e' a1 a2 a3 a4 => by
          have hmlt : m < e.h.length := hml
          have hkey' : e'.key m = some .m := by simp [Env.key, a1, List.getElem?_set_ne hbm, hm, Blk.key]
          have hρ' : e'.ρ m = some qm := by
            obtain ⟨k0, q1, q2, q3⟩ := a4.key m hmlt _ hkey'
            rw [hkm] at q1
            cases q1
            rw [q3 rfl, g1]
          refine .mit q qm.1 since (seen.push res[j].born) clock (by rw [a1]; simpa using hml) a2 (by rw [a3, hw1]; simp [lt_of_some hHq]) (fun _ => ⟨qm, res, clock, hρ', rfl, by rw [a3, hw1, Array.getElem?_setIfInBounds_ne hne]; exact g3, fun i hi => ⟨(g4 i hi).1, by rw [← g8]; exact (g4 i hi).2⟩, fun i hi => ?_, fun i hi => g6 i (List.mem_of_mem_erase hi), g7.erase j, rfl, g9, fun i hi => by cases hi; exact ⟨hj, by simp⟩⟩)
          rw [g7.mem_erase_iff, g5 i hi]
          simp only [Array.mem_push, not_or]
          constructor
          · rintro ⟨r1, r2⟩
            exact ⟨r2, fun h => r1 (hd2 i j hi hj h)⟩
          · rintro ⟨r1, r2⟩
            exact ⟨fun h => r2 (by subst h; rfl), r1⟩)
        unfold Yields
        simp only [Sem.run_bind, n3, Result.andThen_ok, Sem.run_pure]
        have hjl' : j < es.length := by rw [hl]; exact hj
        have hes : es.getD j default = es[j] := by simp [List.getD, hjl']
        rw [hes] at o1 o2
        refine ⟨e', _, p1, hws.trans ⟨rfl, rfl, rfl⟩, p4, p3, ?_, by rw [p2]; exact o2⟩
        refine .tup rfl fun i hi hi' => ?_
        have : i = 0 ∨ i = 1 ∨ i = 2 := by simp at hi; omega
        rcases this with rfl | rfl | rfl
        · exact .p rfl
        · have := hk2 j hjl' hj
          simp only [List.getElem_cons_succ, List.getElem_cons_zero]
          show VR e' (.p es[j].1) res[j].key
          rw [← this]
          exact .p o1
        · exact (hv2 j hjl' hj).mono p3


theorem y_ent {b m : Nat} {l : List Nat} {j : Nat} {es : List (Value × DV)} {v : Value} (hv : VR e (.it b) v) (hb : e.h[b]? = some (.mit (some m) (l, some j))) (hm : e.h[m]? = some (.map es)) (hH : e.H = w.heap) (hr : HR e)
    (h1 : (es.getD j default).1.oneCell' = true) (h2 : K (.tup [.p (es.getD j default).1, (es.getD j default).2]) e.h) :
    Yields P (do pure (.value (← Instr.entry v))) w (After e w K) := by
  have hkb : e.key b = some .i := by simp [Env.key, hb, Blk.key]
  have hkm : e.key m = some .m := by simp [Env.key, hm, Blk.key]
  obtain ⟨q, hq, rfl⟩ := vr_it hv hkb (.inr rfl)
  have hB := hr.blk b _ hb
  have hM := hr.blk m _ hm
  cases hB with
  | mit q' rm since seen last hml hq' hHq hmm =>
    rw [hq] at hq'
    cases hq'
    obtain ⟨qm, res, clock, g1, g2, g3, g4, g5, g6, g7, g8, g9, g10⟩ := hmm hkm
    subst g2
    cases hM with
    | map q2 res2 clock2 hq2 hH2 hl hk2 hv2 hb2 hd2 =>
      rw [g1] at hq2
      cases hq2
      rw [g3] at hH2
      simp only [Option.some.injEq, Obj.map.injEq] at hH2
      obtain ⟨e1, e2⟩ := hH2
      subst e1
      rw [hH] at hHq g3
      obtain ⟨hj, hback⟩ := g10 j rfl
      have hfind : res.find? (fun x => x.born == res[j].born) = some res[j] := by
        cases hf : res.find? (fun x => x.born == res[j].born) with
        | none =>
          have := Array.find?_eq_none.1 hf res[j] (Array.getElem_mem hj)
          simp at this
        | some y =>
          have h3 := Array.find?_some hf
          have h4 := Array.mem_of_find?_eq_some hf
          obtain ⟨i, hi, rfl⟩ := Array.getElem_of_mem h4
          have := hd2 i j hi hj (by simpa using h3)
          subst this
          rfl
      have hrun : (Instr.entry (.pointer (some ⟨q.1, 0, none⟩))).run P w = .ok (.tuple #[res[j].key, res[j].val]) w := by
        simp [Instr.entry, getObj, Sem.run, hHq, hback, g3, g8, hfind]
      have hje : j < es.length := by rw [hl]; exact hj
      have hes : es.getD j default = es[j] := by simp [List.getD, hje]
      rw [hes] at h1 h2
      unfold Yields
      simp only [Sem.run_bind, hrun, Result.andThen_ok, Sem.run_pure]
      refine ⟨e, _, hH, WS.refl w, hr, Ev.refl e, ?_, h2⟩
      refine .tup rfl fun i hi hi' => ?_
      have : i = 0 ∨ i = 1 := by simp at hi; omega
      rcases this with rfl | rfl
      · have := hk2 j hje hj
        show VR e (.p es[j].1) res[j].key
        rw [← this]
        exact .p h1
      · exact hv2 j hje hj

end
end Go.Den
