/- The library: contracts of functions over denoted values (N). -/
import Derived.Test.YtbbafeocmchlnaaDenNd
set_option linter.unusedVariables false
set_option linter.unusedSimpArgs false
set_option linter.unusedSectionVars false
set_option linter.unnecessarySimpa false
namespace Go.Den
open Go

/-- The first cells. -/
theorem Reads.cellsN {P : Program} {e : Env} {sz : Nat} {v : Value} {l : List DV} (h : Reads e sz v l) (w : World) (hH : e.H = w.heap) (n : Nat) (hn : n ≤ l.length) :
    ∃ (cs : List Value) (vs : Nat → Value), (Builtin.firstCells sz n v).run P w = .ok cs.toArray w ∧ cs.length = n * sz ∧ (∀ j (hj : j < n), VR e (l[j]'(by omega)) (vs j)) ∧ (∀ j, j < n → (vs j).cells.size = sz) ∧
      (∀ j, j < n → Cells1 (vs j)) ∧ (∀ j, j < n → ∀ k, k < sz → cs[j * sz + k]? = (vs j).cells[k]?) := by
  have fin : ∀ v', (Builtin.firstCells sz n v').run P w = (Builtin.firstCells sz n v).run P w → Reads e sz v' (l.take n) → _ := fun v' hv' h' => h'.cells (P := P) w hH
  have hlt : (l.take n).length = n := by simp; omega
  have fin2 : ∀ v', (Builtin.firstCells sz n v').run P w = (Builtin.firstCells sz n v).run P w → Reads e sz v' (l.take n) →
      ∃ (cs : List Value) (vs : Nat → Value), (Builtin.firstCells sz n v).run P w = .ok cs.toArray w ∧ cs.length = n * sz ∧ (∀ j (hj : j < n), VR e (l[j]'(by omega)) (vs j)) ∧ (∀ j, j < n → (vs j).cells.size = sz) ∧
      (∀ j, j < n → Cells1 (vs j)) ∧ (∀ j, j < n → ∀ k, k < sz → cs[j * sz + k]? = (vs j).cells[k]?) := by
    intro v' hv' h'
    obtain ⟨cs, vs, h1, h2, h3, h4, h5, h6⟩ := fin v' hv' h'
    rw [hlt] at h1 h2
    refine ⟨cs, vs, by rw [← hv']; exact h1, h2, fun j hj => ?_, fun j hj => h4 j (by omega), fun j hj => h5 j (by omega), fun j hj => h6 j (by omega)⟩
    have := h3 j (by omega)
    simpa using this
  cases h with
  | nil =>
    rename_i a c
    have : n = 0 := by simpa using hn
    subst this
    exact fin2 (.slice a 0 c) rfl .nil
  | str h =>
    rename_i s
    refine fin2 (.string (s.extract 0 n)) ?_ ?_
    · have : (s.extract 0 n).extract 0 n = s.extract 0 n := by
        have hh : ∀ {x y : ByteArray}, x.data.toList = y.data.toList → x = y := fun {x y} h => by cases x; cases y; simp at h; rw [h]
        apply hh
        simp [List.extract_eq_take_drop]
      simp only [Builtin.firstCells, this]
    · have : (bytesD s).take n = bytesD (s.extract 0 n) := by simp [bytesD, List.extract_eq_take_drop]
      rw [this]
      exact .str h
  | row vs hc hv hsz h1 hcell =>
    rename_i r o c
    refine fin2 (.slice (some ⟨r, o, none⟩) (l.take n).length c) rfl (.row vs (by omega) (fun j hj => ?_) (fun j hj => hsz j (by omega)) (fun j hj => h1 j (by omega)) (fun j hj => hcell j (by omega)))
    have := hv j (by omega)
    simpa using this

section
variable {P : Program} {e : Env} {w : World} {K : DV → List Blk → Prop}

theorem set_same {h : List Blk} {b : Nat} {x : Blk} (hb : h[b]? = some x) : h.set b x = h := by
  apply List.ext_getElem?
  intro j
  by_cases hj : j = b
  · subst hj; rw [List.getElem?_set_self (List.getElem?_eq_some_iff.1 hb).1, hb]
  · rw [List.getElem?_set_ne (Ne.symm hj)]

theorem y_cpy {t t2 el : TypeId} {g : Bool} {sz : Nat} (hu : P.underlying t = some (.slice el)) (ht : Ty P el g sz) (ty : TypeId) (hH : e.H = w.heap) (hr : HR e) {dx dy : DV} {vx vy : Value} (hvx : VR e dx vx) (hvy : VR e dy vy)
    (h : match (generalizing := false) elemsOf e.h sz dy, dx with
      | some _, .p (.slice none 0 0) => K (.p (.int .i64 0)) e.h
      | some ys, .sl b i n z => (match e.h[b]? with
        | some (.cells bsz els) => z = els.length ∧ bsz = sz ∧ K (.p (.int .i64 (min ys.length n : Nat))) (e.h.set b (.cells bsz (els.take i ++ ys.take n ++ els.drop (i + min ys.length n))))
        | _ => False)
      | some ys, .sa false 1 b i o n c z => (match e.h[b]? with
        | some (.cells bsz els) => (match els.getD i .any with
          | .agg l => z = els.length ∧ sz = 1 ∧ (ys.take n).all DV.one = true ∧ K (.p (.int .i64 (min ys.length n : Nat))) (e.h.set b (.cells bsz (els.set i (.agg (l.take o ++ ys.take n ++ l.drop (o + min ys.length n))))))
          | _ => False)
        | _ => False)
      | _, _ => False) : Yields P (do pure (.value (← Builtin.copy_ #[t, t2] ty #[vx, vy]))) w (After e w K) := by
  cases hel : elemsOf e.h sz dy with
  | none => rw [hel] at h; exact h.elim
  | some ys =>
    rw [hel] at h
    have hrd := elems_sound hr hvy hel
    have hlen := hrd.len (P := P) w
    have hsize : (sizeOf el).run P w = .ok sz w := ht.run_size w
    have run : ∀ (base : Option Addr) (n c m : Nat) (cs : List Value) (w' : World), m = min ys.length n → (Builtin.firstCells sz m vy).run P w = .ok cs.toArray w → (∀ a, base = some a → (storeCells a cs).run P w = .ok () w') → (base = none → w' = w) →
        (Builtin.copy_ #[t, t2] ty #[.slice base n c, vy]).run P w = .ok (.int .i64 m) w' := by
      intro base n c m cs w' hm hcs hb hn
      have : Nat.min ys.length n = m := hm.symm
      simp only [Builtin.copy_, List.getElem?_toArray, Sem.run_bind, Result.andThen_ok, List.getElem?_cons_zero, List.getElem?_cons_succ, run_underlying hu, hlen, this, hsize, hcs]
      cases base with
      | none => rw [hn rfl]; simp [goInt]
      | some a => simp [hb a rfl, goInt]
    have none0 : ∀ (base : Option Addr) (n c : Nat), min ys.length n = 0 → K (.p (.int .i64 0)) e.h → vx = .slice base n c → Yields P (do pure (.value (← Builtin.copy_ #[t, t2] ty #[vx, vy]))) w (After e w K) := by
      rintro base n c hm hk rfl
      obtain ⟨cs, vs, c1, c2, _⟩ := hrd.cellsN (P := P) w hH 0 (Nat.zero_le _)
      have hcs : cs = [] := by simpa using c2
      subst hcs
      have := run base n c 0 [] w hm.symm c1 (fun a _ => rfl) (fun _ => rfl)
      exact y_pure (by simp [this]) hH hr (.p rfl) hk
    have cells1 : ∀ (m : Nat) (cs : List Value) (vs : Nat → Value), cs.length = m * sz → (∀ j, j < m → (vs j).cells.size = sz) → (∀ j, j < m → Cells1 (vs j)) → (∀ j, j < m → ∀ k, k < sz → cs[j * sz + k]? = (vs j).cells[k]?) → ∀ y ∈ cs, y.oneCell' = true := by
      intro m cs vs r2 r4 r5 r6 y hy
      obtain ⟨j, hj, rfl⟩ := List.getElem_of_mem hy
      rw [r2] at hj
      have hs0 : 0 < sz := by
        rcases Nat.eq_zero_or_pos sz with h | h
        · subst h; simp at hj
        · exact h
      have h2 := Nat.div_add_mod j sz
      have h3 : j / sz < m := (Nat.div_lt_iff_lt_mul hs0).2 hj
      have h4 : j % sz < sz := Nat.mod_lt _ hs0
      have h5 := r6 (j / sz) h3 (j % sz) h4
      rw [Nat.mul_comm, h2] at h5
      rw [List.getElem?_eq_getElem (by rw [r2]; exact hj), Array.getElem?_eq_getElem (by rw [r4 _ h3]; exact h4)] at h5
      rw [Option.some.inj h5]
      exact r5 _ h3 _ _
    cases dx with
    | p u =>
      obtain ⟨rfl, _⟩ := vr_p hvx
      cases vx with
      | slice a n c =>
        cases a with
        | some a => exact h.elim
        | none =>
        cases n with
        | succ n => exact h.elim
        | zero =>
        cases c with
        | succ c => exact h.elim
        | zero => exact none0 none 0 0 (by simp) h rfl
      | _ => exact h.elim
    | sl b i n z =>
      simp only at h
      cases hb : e.h[b]? with
      | none => rw [hb] at h; exact h.elim
      | some blk =>
      rw [hb] at h
      cases blk with
      | cells bsz els =>
        simp only at h
        obtain ⟨rfl, rfl, hk⟩ := h
        have hkey : e.key b = some (.c bsz els.length) := Env.key_of hb
        obtain ⟨hi, hcase⟩ := vr_sl hvx hkey
        obtain ⟨m, hm⟩ : ∃ m, m = min ys.length n := ⟨_, rfl⟩
        rw [← hm] at hk
        have htk : ys.take n = ys.take m := by rw [hm]; simp [List.take_eq_take_iff]; omega
        rw [htk] at hk
        by_cases hm0 : m = 0
        · subst hm0
          obtain ⟨a, c, hv⟩ := vr_sl_n hvx
          have he : els.take i ++ ys.take 0 ++ els.drop (i + 0) = els := by simp
          rw [he, set_same hb] at hk
          exact none0 a n c hm.symm hk hv
        · rcases hcase with ⟨hq, hvn⟩ | ⟨q, a, cap, hq, hvs, hc, hC, ha⟩
          · exfalso
            obtain ⟨_, _, h2⟩ := vr_sl_n hvx
            rw [hvn] at h2
            injection h2 with _ h3
            omega
          · obtain rfl := ha (by omega)
            obtain ⟨c, T, fr, ovs, hh, hcs, hl, hf, hvs', hvsz, h1, hcell⟩ := hr.cells hb hq
            obtain ⟨cs, vs, r1, r2, r3, r4, r5, r6⟩ := hrd.cellsN (P := P) w hH m (by omega)
            have hle : (i + m) * bsz ≤ els.length * bsz := Nat.mul_le_mul_right _ (by omega)
            rw [Nat.add_mul] at hle
            obtain ⟨w', c', e1, e2, e3, e4, e5, e6⟩ := run_storeCells (P := P) q.1 T fr cs (i * bsz) 0 w c (by rw [← hH]; exact hh) (by rw [hcs, r2]; omega) (fun k _ hk => hf k (by rw [r2] at hk; omega)) (cells1 m cs vs r2 r4 r5 r6)
            simp only [Nat.add_zero] at e5
            have hlen2 : (els.take i ++ ys.take m ++ els.drop (i + m)).length = els.length := by simp; omega
            obtain ⟨ev, hr'⟩ := env_set hr b (.c bsz els.length) (.c bsz els.length) hkey (.cells bsz (els.take i ++ ys.take m ++ els.drop (i + m))) (by simp only [Blk.key, hlen2]) (Key.le_refl _) (e.ρ b) (fun _ => rfl) w'.heap (by rw [e3, hH]; exact Nat.le_refl _)
              (fun r _ hne => by rw [e6 r (fun h => hne q hq h.symm), hH]) (fun q0 h => .inl ⟨q0, h, rfl⟩) (fun _ _ _ h => by rw [hkey] at h; cases h)
            have hrun := run (some ⟨q.1, i * bsz, none⟩) n cap m cs w' hm r1 (fun a h => by cases h; exact e1) (fun h => by cases h)
            unfold Yields
            rw [hvs]
            simp only [Sem.run_bind, hrun, Result.andThen_ok, Sem.run_pure]
            have htl : (ys.take m).length = m := by simp; omega
            have hget : ∀ j, (els.take i ++ ys.take m ++ els.drop (i + m))[j]? = if i ≤ j ∧ j < i + m then ys[j - i]? else els[j]? := by
              intro j
              have := put_getElem els (ys.take m) i (by rw [htl]; omega) j
              rw [htl] at this
              rw [this]
              split
              · rw [List.getElem?_take, if_pos (by omega)]
              · rfl
            refine ⟨_, .p (.int .i64 m), rfl, e2, hr' ?_, ev, .p rfl, hk⟩
            refine .cells q c' T fr (fun j => if i ≤ j ∧ j < i + m then vs (j - i) else ovs j) (by simp [upd_same, hq]) e4 (by rw [e5.size]; exact hcs) (by rw [hlen2]; exact hl) hf (fun j hj => ?_) (fun j hj => ?_) (fun j hj => ?_) (fun j hj k hkb => ?_)
            · have hg := hget j
              rw [List.getElem?_eq_getElem hj] at hg
              rw [hlen2] at hj
              by_cases hji : i ≤ j ∧ j < i + m
              · rw [if_pos hji, List.getElem?_eq_getElem (by omega)] at hg
                simp only [hji, and_self, if_true]
                rw [Option.some.inj hg]
                exact (r3 _ (by omega)).mono ev
              · rw [if_neg hji, List.getElem?_eq_getElem hj] at hg
                simp only [hji, if_false]
                rw [Option.some.inj hg]
                exact (hvs' j hj).mono ev
            · rw [hlen2] at hj
              split
              · exact r4 _ (by omega)
              · exact hvsz j hj
            · rw [hlen2] at hj
              split
              · exact r5 _ (by omega)
              · exact h1 j hj
            · rw [hlen2] at hj
              by_cases hji : i ≤ j ∧ j < i + m
              · simp only [hji, and_self, if_true]
                have hlt := mul_lt_add (m := 0) (show j - i < m by omega) hkb
                have heq : j * bsz = i * bsz + (j - i) * bsz := by rw [← Nat.add_mul]; congr 1; omega
                rw [heq, Nat.add_assoc, e5.new _ (by rw [r2]; exact hlt)]
                exact r6 _ (by omega) k hkb
              · simp only [hji, if_false]
                rw [e5.old _ ?_]
                · exact hcell j hj k hkb
                · rw [r2]
                  by_cases hji2 : j < i
                  · left
                    exact mul_lt_add (m := 0) hji2 hkb
                  · right
                    have : (i + m) * bsz ≤ j * bsz := Nat.mul_le_mul_right _ (by omega)
                    rw [Nat.add_mul] at this
                    omega
      | _ => exact h.elim
    | sa g' z' b i o n c z =>
      cases g' with
      | true => exact h.elim
      | false =>
      by_cases hz1 : z' = 1
      · subst hz1
        simp only at h
        cases hb : e.h[b]? with
        | none => rw [hb] at h; exact h.elim
        | some blk =>
        rw [hb] at h
        cases blk with
        | cells bsz els =>
          simp only at h
          split at h
          case h_2 => exact h.elim
          rename_i l hdl
          obtain ⟨rfl, rfl, hone, hk⟩ := h
          have hkey : e.key b = some (.c bsz els.length) := Env.key_of hb
          obtain ⟨hi, q, a, hq, rfl, hc, hC, ha⟩ := vr_sa hvx hkey
          obtain ⟨m, hm⟩ : ∃ m, m = min ys.length n := ⟨_, rfl⟩
          rw [← hm] at hk
          have htk : ys.take n = ys.take m := by rw [hm]; simp [List.take_eq_take_iff]; omega
          rw [htk] at hk hone
          have htl : (ys.take m).length = m := by simp; omega
          have hd : els.getD i .any = els[i] := by simp [List.getD, hi]
          rw [hd] at hdl
          have hpe : Den.put els[i] o (.agg (ys.take m)) m = .agg (l.take o ++ ys.take m ++ l.drop (o + m)) := by rw [hdl]; rfl
          rw [← hpe] at hk
          obtain ⟨cc, T, fr, ovs, hh, hcs, hl, hf, hvs', hvsz, h1, hcell⟩ := hr.cells hb hq
          by_cases hm0 : m = 0
          · subst hm0
            have he : els.set i (Den.put els[i] o (.agg (ys.take 0)) 0) = els := by
              apply List.ext_getElem
              · simp
              · intro j hj hj'
                rw [List.getElem_set]
                split
                · rename_i hij
                  subst hij
                  rw [hdl]
                  simp [Den.put, DV.cells]
                · rfl
            rw [he, set_same hb] at hk
            exact none0 (some a) n c hm.symm hk rfl
          · obtain ⟨cs, vs, r1, r2, r3, r4, r5, r6⟩ := hrd.cellsN (P := P) w hH m (by omega)
            rw [Nat.mul_one] at r2
            have hin : (i + 1) * bsz ≤ els.length * bsz := Nat.mul_le_mul_right _ hi
            rw [Nat.succ_mul] at hin
            have hC' : o + n ≤ bsz := by omega
            have hu2 : VR e (.agg (ys.take m)) (.agg cs.toArray) := by
              refine .agg (by rw [htl]; simp [r2]) (fun j hj => ?_) (fun j hj hj' => ?_)
              · simp [r2] at hj
                have := r6 j hj 0 (by omega)
                rw [Nat.mul_one, Nat.add_zero, List.getElem?_eq_getElem (by rw [r2]; exact hj), Array.getElem?_eq_getElem (by rw [r4 _ hj]; omega)] at this
                simp only [List.getElem_toArray]
                rw [Option.some.inj this]
                exact r5 _ hj _ _
              · rw [htl] at hj
                have h2 := r6 j hj 0 (by omega)
                rw [Nat.mul_one, Nat.add_zero, List.getElem?_eq_getElem (by rw [r2]; exact hj), Array.getElem?_eq_getElem (by rw [r4 _ hj]; omega)] at h2
                have h3 := r3 j hj
                have h4 : DV.one (ys[j]'(by omega)) = true := by
                  refine List.all_eq_true.1 hone _ ?_
                  rw [List.mem_take_iff_getElem]
                  exact ⟨j, by omega, rfl⟩
                have h5 : (vs j).oneCell' = true := by
                  have := h3.one
                  revert this h4 h3
                  generalize ys[j]'(by omega) = d0
                  intro h3
                  cases d0 <;> simp [DV.one]
                have h6 : (vs j).cells = #[vs j] := one_cells h5
                simp only [List.getElem_toArray, List.getElem_take]
                rw [Option.some.inj h2]
                simp only [h6]
                exact h3
            have hput : ∃ v', VR e (Den.put els[i] o (.agg (ys.take m)) m) v' ∧ v'.cells.size = (ovs i).cells.size ∧ (Cells1 (ovs i) → Cells1 v') ∧ ∀ k, v'.cells[k]? = if o ≤ k ∧ k < o + m then (Value.agg cs.toArray).cells[k - o]? else (ovs i).cells[k]? := by
              refine vr_put (hvs' i hi) hu2 rfl o m (by simpa [DV.size] using htl) ?_ (by rw [hvsz i hi]; omega)
              rw [hvsz i hi]; omega
            obtain ⟨v', p1, p2, p3, p4⟩ := hput
            · obtain rfl := ha (by omega)
              obtain ⟨w', c', e1, e2, e3, e4, e5, e6⟩ := run_storeCells (P := P) q.1 T fr cs (i * bsz + o) 0 w cc (by rw [← hH]; exact hh) (by rw [hcs, r2]; omega) (fun k _ hk => hf k (by rw [r2] at hk; omega)) (cells1 m cs vs (by rw [r2]; omega) r4 r5 r6)
              simp only [Nat.add_zero] at e5
              obtain ⟨ev, hr'⟩ := env_set hr b (.c bsz els.length) (.c bsz els.length) hkey (.cells bsz (els.set i (Den.put els[i] o (.agg (ys.take m)) m))) (by simp [Blk.key]) (Key.le_refl _) (e.ρ b) (fun _ => rfl) w'.heap (by rw [e3, hH]; exact Nat.le_refl _)
                (fun r _ hne => by rw [e6 r (fun h => hne q hq h.symm), hH]) (fun q0 h => .inl ⟨q0, h, rfl⟩) (fun _ _ _ h => by rw [hkey] at h; cases h)
              have hrun := run (some ⟨q.1, i * bsz + o, none⟩) n c m cs w' hm r1 (fun a h => by cases h; exact e1) (fun h => by cases h)
              unfold Yields
              simp only [Sem.run_bind, hrun, Result.andThen_ok, Sem.run_pure]
              refine ⟨_, .p (.int .i64 m), rfl, e2, hr' ?_, ev, .p rfl, hk⟩
              refine .cells q c' T fr (fun j => if j = i then v' else ovs j) (by simp [upd_same, hq]) e4 (by rw [e5.size]; exact hcs) (by simpa using hl) hf (fun j hj => ?_) (fun j hj => ?_) (fun j hj => ?_) (fun j hj k hkb => ?_)
              · simp only [List.length_set] at hj
                rw [List.getElem_set]
                by_cases hji : j = i
                · subst hji; simp only [if_true]; exact p1.mono ev
                · rw [if_neg (Ne.symm hji)]; simp only [hji, if_false]; exact (hvs' j hj).mono ev
              · simp only [List.length_set] at hj
                by_cases hji : j = i
                · subst hji; simp only [if_true]; rw [p2]; exact hvsz j hj
                · simp only [hji, if_false]; exact hvsz j hj
              · simp only [List.length_set] at hj
                by_cases hji : j = i
                · subst hji; simp only [if_true]; exact p3 (h1 j hj)
                · simp only [hji, if_false]; exact h1 j hj
              · simp only [List.length_set] at hj
                by_cases hji : j = i
                · subst hji
                  simp only [if_true]
                  rw [p4 k]
                  by_cases hko : o ≤ k ∧ k < o + m
                  · rw [if_pos hko]
                    have := e5.new (k - o) (by rw [r2]; omega)
                    rw [show j * bsz + o + (k - o) = j * bsz + k by omega] at this
                    rw [this]
                    simp [Value.cells]
                  · rw [if_neg hko, e5.old _ (by rw [r2]; omega)]
                    exact hcell j hj k hkb
                · simp only [hji, if_false]
                  rw [e5.old _ ?_]
                  · exact hcell j hj k hkb
                  · rw [r2]
                    rcases Nat.lt_or_gt_of_ne hji with h2 | h2
                    · have := Nat.mul_le_mul_right bsz (Nat.succ_le_of_lt h2)
                      simp only [Nat.succ_mul] at this
                      omega
                    · have := Nat.mul_le_mul_right bsz (Nat.succ_le_of_lt h2)
                      simp only [Nat.succ_mul] at this
                      omega
        | _ => exact h.elim
      · exfalso
        revert h
        cases z' with
        | zero => simp
        | succ z' => cases z' with
          | zero => exact absurd rfl hz1
          | succ z' => simp
    | _ => exact h.elim

end
end Go.Den
