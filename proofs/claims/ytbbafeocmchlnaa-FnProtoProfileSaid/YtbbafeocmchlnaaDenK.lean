/- The library: contracts of functions over denoted values (K). -/
import Derived.Test.YtbbafeocmchlnaaDenJ
import Derived.Laws.AppendOwn
set_option linter.unusedVariables false
set_option linter.unusedSimpArgs false
set_option linter.unusedSectionVars false
set_option linter.unnecessarySimpa false
namespace Go.Den
open Go

/-- What append needs to know of the types. -/
structure AppT (P : Program) (t t2 : TypeId) (el : TypeId) (sz bytes : Nat) : Prop where
  ht : P.underlying t = some (.slice el)
  ht2 : (∃ el2, P.underlying t2 = some (.slice el2)) ∨ P.underlying t2 = some .string
  hi : ∃ i z, P.info? el = some i ∧ i.size = sz ∧ i.bytes = bytes ∧ i.zero = some z ∧ z.cells.size = sz
  h0 : 0 < bytes

section
variable {P : Program} {t t2 el : TypeId} {sz bytes : Nat}

theorem run_app_room (H : AppT P t t2 el sz bytes) (ty : TypeId) (w : World) (base : Option Addr) (n c m : Nat) (y : Value) (hlen : (Builtin.lenOf y).run P w = .ok m w) (new : List Value) (hnew : (Builtin.firstCells sz m y).run P w = .ok new.toArray w) (hr : n + m ≤ c)
    (w' : World) (hst : ∀ a, base = some a → (storeCells (a.add (n * sz)) new).run P w = .ok () w') (hb : base = none → w' = w) :
    (Builtin.append_ #[t, t2] ty #[.slice base n c, y]).run P w = .ok (.slice base (n + m) c) w' := by
  obtain ⟨i, z, h4, h5, h6, h7, h8⟩ := H.hi
  have hs : ∀ w, (sizeOf el).run P w = .ok sz w := fun w => by simp [sizeOf, typeInfo, h4, h5]
  rcases H.ht2 with ⟨el2, h2⟩ | h2 <;> simp only [Builtin.append_]
  · cases base with
    | none =>
      obtain rfl := hb rfl
      simp [run_underlying H.ht, run_underlying h2, hs, hlen, hr, hnew]
    | some a =>
      have := hst a rfl
      simp [run_underlying H.ht, run_underlying h2, hs, hlen, hr, hnew, this]
  · cases base with
    | none =>
      obtain rfl := hb rfl
      simp [run_underlying H.ht, run_underlying h2, hs, hlen, hr, hnew]
    | some a =>
      have := hst a rfl
      simp [run_underlying H.ht, run_underlying h2, hs, hlen, hr, hnew, this]

theorem run_app_grow (H : AppT P t t2 el sz bytes) (ty : TypeId) (w : World) (base : Option Addr) (n c m : Nat) (y : Value) (hlen : (Builtin.lenOf y).run P w = .ok m w) (new old : List Value) (hnew : (Builtin.firstCells sz m y).run P w.drew = .ok new.toArray w.drew)
    (hold : (Builtin.firstCells sz n (.slice base n c)).run P w.drew = .ok old.toArray w.drew) (hr : ¬ n + m ≤ c) (hb : (n + m) * bytes ≤ 140737488355328) :
    ∃ cap rest, n + m ≤ cap ∧ rest.size = (cap - (n + m)) * sz ∧ (Builtin.append_ #[t, t2] ty #[.slice base n c, y]).run P w = .ok (.slice (some ⟨w.heap.size, 0, none⟩) (n + m) cap) (w.drew.alloc (.cells (old.toArray ++ new.toArray ++ rest) el)) := by
  obtain ⟨i, z, h4, h5, h6, h7, h8⟩ := H.hi
  have hs : ∀ w, (sizeOf el).run P w = .ok sz w := fun w => by simp [sizeOf, typeInfo, h4, h5]
  have hti : ∀ w, (typeInfo el).run P w = .ok i w := fun w => by simp [typeInfo, h4]
  have hzv : ∀ w, (zeroValue el).run P w = .ok z w := fun w => by simp [zeroValue, typeInfo, h4, h7]
  have hfit := growslice_fits (need := n + m) (old := c) (bytes := bytes) (by omega) hb
  have hcap := grownCap_ge w (n + m) c el
  refine ⟨grownCap w (n + m) c el, Builtin.zeroCells z.cells (grownCap w (n + m) c el - (n + m)), hcap, by rw [size_zeroCells, h8], ?_⟩
  have hnm : n + m ≤ 140737488355328 := Nat.le_trans (Nat.le_mul_of_pos_right _ H.h0) hb
  have hb0 : bytes ≠ 0 := by have := H.h0; omega
  have hfit' : ¬ (Builtin.nextslicecap (n + m) c * bytes > 281474976710656) := by omega
  rcases H.ht2 with ⟨el2, h2⟩ | h2 <;> simp only [Builtin.append_]
  · simp [run_underlying H.ht, run_underlying h2, hs, hlen, hr, hti, h6, hfit', hb0, hold, hnew, hzv, Question.forced, grownCap, newRow]
    congr 2
    apply Array.ext'
    simp
  · simp [run_underlying H.ht, run_underlying h2, hs, hlen, hr, hti, h6, hfit', hb0, hold, hnew, hzv, Question.forced, grownCap, newRow]
    congr 2
    apply Array.ext'
    simp

variable {e : Env} {w : World} {K : DV → List Blk → Prop}

theorem mul_lt_add {j n sz k m : Nat} (hj : j < n) (hk : k < sz) : j * sz + k < n * sz := by
  have := Nat.mul_le_mul_right sz (Nat.succ_le_of_lt hj)
  rw [Nat.succ_mul] at this
  omega

theorem y_app (H : AppT P t t2 el sz bytes) (ty : TypeId) (hH : e.H = w.heap) (hr : HR e) {dx dy : DV} {vx vy : Value} (hvx : VR e dx vx) (hvy : VR e dy vy)
    (h : match (generalizing := false) elemsOf e.h sz dy, dx with
      | some ys, .p (.slice none 0 0) => ys.length * bytes ≤ 140737488355328 ∧ (ys = [] → K (.p (.slice none 0 0)) e.h) ∧ (ys ≠ [] → K (.sl e.h.length 0 ys.length ys.length) (e.h ++ [.cells sz ys]))
      | some ys, .sl b i n z => match e.h[b]? with
        | some (.cells bsz els) => z = els.length ∧ bsz = sz ∧ (n + ys.length) * bytes ≤ 140737488355328 ∧ i = 0 ∧ n ≤ els.length ∧ (n = els.length ∨ els.length < n + ys.length) ∧ K (.sl b 0 (n + ys.length) (n + ys.length)) (e.h.set b (.cells sz ((if n = els.length then els else els.take n) ++ ys)))
        | _ => False
      | _, _ => False) : Yields P (do pure (.value (← Builtin.append_ #[t, t2] ty #[vx, vy]))) w (After e w K) := by
  cases hel : elemsOf e.h sz dy with
  | none => rw [hel] at h; exact h.elim
  | some ys =>
    rw [hel] at h
    have hrd := elems_sound hr hvy hel
    obtain ⟨cs, vs, r1, r2, r3, r4, r5, r6⟩ := hrd.cells (P := P) w hH
    obtain ⟨cs', vs', r1', r2', r3', r4', r5', r6'⟩ := hrd.cells (P := P) w.drew hH
    have hlen := hrd.len (P := P) w
    -- a new row
    have fresh : ∀ (old : List Value) (oels : List DV) (ovs : Nat → Value) (cap : Nat) (rest : Array Value), oels.length + ys.length ≤ cap → rest.size = (cap - (oels.length + ys.length)) * sz → old.length = oels.length * sz →
        (∀ j (hj : j < oels.length), VR e oels[j] (ovs j)) → (∀ j, j < oels.length → (ovs j).cells.size = sz) → (∀ j, j < oels.length → Cells1 (ovs j)) → (∀ j, j < oels.length → ∀ k, k < sz → old[j * sz + k]? = (ovs j).cells[k]?) →
        let c := old.toArray ++ cs'.toArray ++ rest
        let nvs := fun j => if j < oels.length then ovs j else vs' (j - oels.length)
        c.size = cap * sz ∧ (∀ j (hj : j < (oels ++ ys).length), VR e (oels ++ ys)[j] (nvs j)) ∧ (∀ j, j < (oels ++ ys).length → (nvs j).cells.size = sz) ∧ (∀ j, j < (oels ++ ys).length → Cells1 (nvs j)) ∧
          (∀ j, j < (oels ++ ys).length → ∀ k, k < sz → c[j * sz + k]? = (nvs j).cells[k]?) := by
      intro old oels ovs cap rest hcap hrest hold o1 o2 o3 o4 c nvs
      have hcs : c.size = cap * sz := by
        simp only [c, Array.size_append, List.size_toArray, hold, r2', hrest, ← Nat.add_mul]
        congr 1
        omega
      refine ⟨hcs, fun j hj => ?_, fun j hj => ?_, fun j hj => ?_, fun j hj k hk => ?_⟩
      · simp only [nvs]
        by_cases hjo : j < oels.length
        · rw [List.getElem_append_left hjo, if_pos hjo]; exact o1 j hjo
        · rw [List.getElem_append_right (by omega), if_neg hjo]; exact r3' _ _
      · simp only [List.length_append] at hj
        simp only [nvs]
        split
        · exact o2 _ ‹_›
        · exact r4' _ (by omega)
      · simp only [List.length_append] at hj
        simp only [nvs]
        split
        · exact o3 _ ‹_›
        · exact r5' _ (by omega)
      · simp only [List.length_append] at hj
        simp only [nvs, c]
        by_cases hjo : j < oels.length
        · have hlt := mul_lt_add (m := 0) hjo hk
          rw [if_pos hjo, Array.append_assoc, Array.getElem?_append_left (by simpa [hold] using hlt)]
          simpa using o4 j hjo k hk
        · have hlt := mul_lt_add (m := 0) (show j - oels.length < ys.length by omega) hk
          have heq : j * sz = oels.length * sz + (j - oels.length) * sz := by rw [← Nat.add_mul]; congr 1; omega
          rw [if_neg hjo, Array.append_assoc, Array.getElem?_append_right (by simp [hold]; omega)]
          rw [Array.getElem?_append_left (by simp [hold, r2']; omega)]
          have := r6' (j - oels.length) (by omega) k hk
          simp only [List.size_toArray, hold]
          rw [show j * sz + k - oels.length * sz = (j - oels.length) * sz + k by omega]
          simpa using this
    cases dx with
    | p u =>
      obtain ⟨rfl, _⟩ := vr_p hvx
      cases vx with
      | slice a n c =>
        cases a with
        | some a => exact h.elim
        | none =>
        cases n with
        | succ n => exact h.elim
        | zero =>
        cases c with
        | succ c => exact h.elim
        | zero =>
        obtain ⟨hb, h1, h2⟩ := h
        by_cases hy : ys = []
        · subst hy
          have hcs : cs = [] := by simpa using r2
          refine y_pure ?_ hH hr (.p rfl) (h1 rfl)
          simp only [Sem.run_bind]
          rw [run_app_room H ty w none 0 0 0 vy hlen cs r1 (by omega) w (fun a h => by cases h) (fun _ => rfl)]
          rfl
        · have hpos : 0 < ys.length := List.length_pos_iff.2 hy
          obtain ⟨cap, rest, g1, g2, g3⟩ := run_app_grow H ty w none 0 0 ys.length vy hlen cs' [] r1' (by simp [Builtin.firstCells]) (by omega) (by simpa using hb)
          obtain ⟨f1, f2, f3, f4, f5⟩ := fresh [] [] (fun _ => undef) cap rest (by simpa using g1) (by simpa using g2) (by simp) (fun j hj => absurd hj (by simp)) (fun j hj => absurd hj (by simp)) (fun j hj => absurd hj (by simp)) (fun j hj => absurd hj (by simp))
          simp only [List.nil_append] at f2 f3 f4 f5
          have hle : ys.length * sz ≤ cap * sz := Nat.mul_le_mul_right _ (by simpa using g1)
          obtain ⟨ev, hr', hkey, hq⟩ := env_alloc hr sz ys _ el (0, 0) _ (by rw [f1]; exact hle) (fun k _ h => by simp at h) f2 f3 f4 f5
          unfold Yields
          simp only [Sem.run_bind, g3, Result.andThen_ok, Sem.run_pure]
          refine ⟨_, _, by rw [hH]; rfl, ⟨rfl, rfl, rfl⟩, hr', ev, ?_, h2 hy⟩
          rw [← hH]
          simp only [Nat.zero_add]
          exact vr_sl_new hkey hq (by simpa using g1) (by rw [f1]; exact Nat.le_refl _)
      | _ => exact h.elim
    | sl b i n z =>
      simp only at h
      cases hb : e.h[b]? with
      | none => rw [hb] at h; exact h.elim
      | some blk =>
      rw [hb] at h
      cases blk with
      | cells bsz els =>
        simp only at h
        obtain ⟨rfl, rfl, hbytes, rfl, hn, hor, hk⟩ := h
        have hkey : e.key b = some (.c bsz els.length) := Env.key_of hb
        obtain ⟨hi, hcase⟩ := vr_sl hvx hkey
        rw [show (if n = els.length then els else els.take n) = els.take n by split <;> simp [*]] at hk
        obtain ⟨E, hE⟩ : ∃ E, E = els.take n := ⟨_, rfl⟩
        rw [← hE] at hk
        have hEn : n = E.length := by rw [hE]; simp; omega
        have hEg : ∀ j (hj : j < E.length), E[j] = els[j]'(by omega) := by intro j hj; simp [hE]
        have hEe : E.length = els.length → E = els := by intro h; rw [hE, hEn, h]; simp
        clear hE
        subst hEn
        have moved : ∀ (old : List Value) (ovs : Nat → Value) (base : Option Addr) (c0 : Nat), vx = .slice base E.length c0 → ¬ E.length + ys.length ≤ c0 → 0 < ys.length → (Builtin.firstCells bsz E.length (.slice base E.length c0)).run P w.drew = .ok old.toArray w.drew → old.length = E.length * bsz →
            (∀ j (hj : j < E.length), VR e E[j] (ovs j)) → (∀ j, j < E.length → (ovs j).cells.size = bsz) → (∀ j, j < E.length → Cells1 (ovs j)) → (∀ j, j < E.length → ∀ k, k < bsz → old[j * bsz + k]? = (ovs j).cells[k]?) →
            Yields P (do pure (.value (← Builtin.append_ #[t, t2] ty #[vx, vy]))) w (After e w K) := by
          rintro old ovs base c0 rfl hgr hpos hold h2 h3 h4 h5 h6
          obtain ⟨cap, rest, g1, g2, g3⟩ := run_app_grow H ty w base E.length c0 ys.length vy hlen cs' old r1' hold hgr hbytes
          obtain ⟨f1, f2, f3, f4, f5⟩ := fresh old E ovs cap rest g1 g2 h2 h3 h4 h5 h6
          have hle : (E.length + ys.length) * bsz ≤ cap * bsz := Nat.mul_le_mul_right _ g1
          obtain ⟨ev, hr'⟩ := env_set hr b (.c bsz els.length) (.c bsz (E.length + ys.length)) hkey (.cells bsz (E ++ ys)) (by simp [Blk.key]) (by simp [Key.le]; omega) (some (w.heap.size, cap * bsz)) (fun h => by simp at h; omega)
            (w.heap.push (.cells (old.toArray ++ cs'.toArray ++ rest) el (0, 0))) (by rw [hH]; simp) (fun r hr _ => by rw [hH] at hr ⊢; simp [Array.getElem?_push, Nat.ne_of_lt hr]) (fun q0 h => by cases h; exact .inr (by rw [hH]; exact Nat.le_refl _)) (fun _ _ _ h => by rw [hkey] at h; cases h)
          unfold Yields
          simp only [Sem.run_bind, g3, Result.andThen_ok, Sem.run_pure]
          refine ⟨_, _, rfl, ⟨rfl, rfl, rfl⟩, hr' ?_, ev, ?_, hk⟩
          · exact .cells (w.heap.size, cap * bsz) _ el (0, 0) _ (upd_same _ _ _) (by simp) f1 (by simpa using hle) (fun k _ h => by simp at h) (fun j hj => (f2 j hj).mono ev) f3 f4 f5
          · refine vr_sl_new (r := w.heap.size) (C := cap * bsz) (sz := bsz) ?_ (upd_same _ _ _) g1 (Nat.le_refl _)
            simp [Env.key, Env.key_lt (show e.key b ≠ none by rw [hkey]; simp), Blk.key]
        rcases hcase with ⟨hq, hvn⟩ | ⟨q, a, cap, hq, hvs, hc, hC, ha⟩
        · have h0 : E.length = 0 := by
            obtain ⟨_, _, h2⟩ := vr_sl_n hvx
            rw [hvn] at h2
            injection h2 with _ h3
            exact h3.symm
          by_cases hy : ys = []
          · subst hy
            have hcs : cs = [] := by simpa using r2
            have hEE := hEe (by simp at hor; omega)
            have hset : e.h.set b (.cells bsz (E ++ [])) = e.h := by
              rw [hEE, List.append_nil]
              apply List.ext_getElem?
              intro j
              by_cases hj : j = b
              · subst hj; rw [List.getElem?_set_self (Env.key_lt (by rw [hkey]; simp)), hb]
              · rw [List.getElem?_set_ne (Ne.symm hj)]
            rw [hset] at hk
            simp only [List.length_nil, Nat.add_zero] at hk
            refine y_pure ?_ hH hr hvx (by rw [← hEE]; exact hk)
            rw [hvn]
            simp only [Sem.run_bind]
            rw [run_app_room H ty w none 0 0 0 vy hlen cs r1 (by omega) w (fun a h => by cases h) (fun _ => rfl)]
            rfl
          · have hpos : 0 < ys.length := List.length_pos_iff.2 hy
            have hEls : E = [] := List.eq_nil_of_length_eq_zero h0
            exact moved [] (fun _ => undef) none 0 (by rw [h0]; exact hvn) (by omega) hpos (by simp [Builtin.firstCells]) (by simp [h0]) (fun j hj => absurd hj (by omega)) (fun j hj => absurd hj (by omega)) (fun j hj => absurd hj (by omega)) (fun j hj => absurd hj (by omega))
        · obtain ⟨c, T, fr, ovs, hh, hcs, hl, hf, hvs', hvsz, h1, hcell⟩ := hr.cells hb hq
          replace hvs' : ∀ j (hj : j < E.length), VR e E[j] (ovs j) := fun j hj => by rw [hEg j hj]; exact hvs' j (by omega)
          replace hvsz := fun j (hj : j < E.length) => hvsz j (by omega)
          replace h1 := fun j (hj : j < E.length) => h1 j (by omega)
          replace hcell := fun j (hj : j < E.length) => hcell j (by omega)
          replace hl : E.length * bsz ≤ q.2 := Nat.le_trans (Nat.mul_le_mul_right _ hn) hl
          by_cases hroom : E.length + ys.length ≤ cap
          · -- in place
            by_cases hy : ys = []
            · subst hy
              have hcs : cs = [] := by simpa using r2
              subst hcs
              have hEE := hEe (by simp at hor; omega)
              have hEE := hEe (by simp at hor; omega)
              have hset : e.h.set b (.cells bsz (E ++ [])) = e.h := by
                rw [hEE, List.append_nil]
                apply List.ext_getElem?
                intro j
                by_cases hj : j = b
                · subst hj; rw [List.getElem?_set_self (Env.key_lt (by rw [hkey]; simp)), hb]
                · rw [List.getElem?_set_ne (Ne.symm hj)]
              rw [hset] at hk
              simp only [List.length_nil, Nat.add_zero] at hk
              refine y_pure ?_ hH hr hvx (by rw [← hEE]; exact hk)
              rw [hvs]
              simp only [Sem.run_bind]
              rw [run_app_room H ty w (some a) E.length cap 0 vy hlen [] r1 (by omega) w (fun a h => rfl) (fun h => rfl)]
              rfl
            · have hpos : 0 < ys.length := List.length_pos_iff.2 hy
              obtain rfl := ha (by omega)
              have hroom' : (E.length + ys.length) * bsz ≤ cap * bsz := Nat.mul_le_mul_right _ hroom
              rw [Nat.add_mul] at hroom'
              simp only [Nat.zero_add] at hC
              obtain ⟨w', c', e1, e2, e3, e4, e5, e6⟩ := run_storeCells (P := P) q.1 T fr cs (E.length * bsz) 0 w c (by rw [← hH]; exact hh) (by rw [hcs, r2]; omega) (fun k _ hk => hf k (by rw [r2] at hk; omega)) (fun y hy => by
                obtain ⟨j, hj, rfl⟩ := List.getElem_of_mem hy
                rw [r2] at hj
                have hs0 : 0 < bsz := by
                  rcases Nat.eq_zero_or_pos bsz with h | h
                  · subst h; simp at hj
                  · exact h
                have h2 := Nat.div_add_mod j bsz
                have h3 : j / bsz < ys.length := (Nat.div_lt_iff_lt_mul hs0).2 hj
                have h4 : j % bsz < bsz := Nat.mod_lt _ hs0
                have h5 := r6 (j / bsz) h3 (j % bsz) h4
                rw [Nat.mul_comm, h2] at h5
                rw [List.getElem?_eq_getElem (by rw [r2]; exact hj), Array.getElem?_eq_getElem (by rw [r4 _ h3]; exact h4)] at h5
                rw [Option.some.inj h5]
                exact r5 _ h3 _ _)
              simp only [Nat.add_zero] at e5
              obtain ⟨ev, hr'⟩ := env_set hr b (.c bsz els.length) (.c bsz (E.length + ys.length)) hkey (.cells bsz (E ++ ys)) (by simp [Blk.key]) (by simp [Key.le]; omega) (some q) (fun _ => hq.symm)
                w'.heap (by rw [e3, hH]; exact Nat.le_refl _) (fun r _ hne => by rw [e6 r (fun h => hne q hq h.symm), hH]) (fun q0 h => by cases h; exact .inl ⟨q, hq, rfl⟩) (fun _ _ _ h => by rw [hkey] at h; cases h)
              have hrun := run_app_room H ty w (some ⟨q.1, 0 * bsz, none⟩) E.length cap ys.length vy hlen cs r1 hroom w' (fun a h => by cases h; rw [add_plain]; simpa using e1) (fun h => by cases h)
              unfold Yields
              rw [hvs]
              simp only [Sem.run_bind, hrun, Result.andThen_ok, Sem.run_pure]
              refine ⟨_, _, rfl, e2, hr' ?_, ev, ?_, hk⟩
              · refine .cells q c' T fr (fun j => if j < E.length then ovs j else vs (j - E.length)) (upd_same _ _ _) e4 (by rw [e5.size]; exact hcs) (by simp only [List.length_append, Nat.add_mul]; omega) hf (fun j hj => ?_) (fun j hj => ?_) (fun j hj => ?_) (fun j hj k hkb => ?_)
                · by_cases hjo : j < E.length
                  · rw [List.getElem_append_left hjo]; simp only [hjo, if_true]; exact (hvs' j hjo).mono ev
                  · rw [List.getElem_append_right (by omega)]; simp only [hjo, if_false]; exact (r3 _ _).mono ev
                · simp only [List.length_append] at hj
                  split
                  · exact hvsz _ ‹_›
                  · exact r4 _ (by omega)
                · simp only [List.length_append] at hj
                  split
                  · exact h1 _ ‹_›
                  · exact r5 _ (by omega)
                · simp only [List.length_append] at hj
                  by_cases hjo : j < E.length
                  · have hlt := mul_lt_add (m := 0) hjo hkb
                    simp only [hjo, if_true]
                    rw [e5.old _ (.inl hlt)]
                    exact hcell j hjo k hkb
                  · have hlt := mul_lt_add (m := 0) (show j - E.length < ys.length by omega) hkb
                    have heq : j * bsz = E.length * bsz + (j - E.length) * bsz := by rw [← Nat.add_mul]; congr 1; omega
                    simp only [hjo, if_false]
                    rw [heq, Nat.add_assoc, e5.new _ (by rw [r2]; exact hlt)]
                    exact r6 _ (by omega) k hkb
              · rw [show (⟨q.1, 0 * bsz, none⟩ : Addr) = ⟨q.1, 0, none⟩ by simp]
                refine vr_sl_new (r := q.1) (C := q.2) (sz := bsz) ?_ (upd_same _ _ _) hroom hC
                simp [Env.key, Env.key_lt (show e.key b ≠ none by rw [hkey]; simp), Blk.key]
          · have hpos : 0 < ys.length := by omega
            refine moved (c.toList.take (E.length * bsz)) ovs (some a) cap hvs hroom hpos ?_ (by simp; omega) hvs' hvsz h1 (fun j hj k hkb => ?_)
            · by_cases hn : E.length = 0
              · simp [Builtin.firstCells, hn, loadCells, loadCellsFrom]
              · obtain rfl := ha (by omega)
                simp only [Builtin.firstCells]
                have := run_cells (P := P) w.drew q.1 (0 * bsz) (c.toList.take (E.length * bsz)) (fun k hk => by
                  simp at hk
                  simp only [World.drew, ← hH, cellAt, hh]
                  simp [show k < c.size by omega])
                rw [show (c.toList.take (E.length * bsz)).length = E.length * bsz by simp; omega] at this
                exact this
            · have hlt := mul_lt_add (m := 0) hj hkb
              rw [List.getElem?_take, if_pos hlt]
              simpa using hcell j hj k hkb
      | _ => exact h.elim
    | _ => exact h.elim

end
end Go.Den
