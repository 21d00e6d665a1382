/- The library: contracts of functions over denoted values (N). -/
import Derived.Test.YtbbafeocmchlnaaDenM
import Derived.Laws.Build
set_option linter.unusedVariables false
set_option linter.unusedSimpArgs false
set_option linter.unusedSectionVars false
set_option linter.unnecessarySimpa false
namespace Go.Den
open Go

section
variable {P : Program} {e : Env} {w : World} {K : DV → List Blk → Prop}

theorem y_len_str {t : TypeId} (hu : P.underlying t = some .string) (ty : TypeId) (hH : e.H = w.heap) (hr : HR e) {s : ByteArray} (hk : K (.p (.int .i64 s.size)) e.h) : Yields P (do pure (.value (← Builtin.len_ #[t] ty #[.string s]))) w (After e w K) := by
  refine y_pure ?_ hH hr (.p rfl) hk
  simp [Builtin.len_, run_underlying hu, goInt]

theorem y_len_sl {t el : TypeId} (hu : P.underlying t = some (.slice el)) (ty : TypeId) (hH : e.H = w.heap) (hr : HR e) {a : Option Addr} {n c : Nat} (hk : K (.p (.int .i64 n)) e.h) : Yields P (do pure (.value (← Builtin.len_ #[t] ty #[.slice a n c]))) w (After e w K) := by
  refine y_pure ?_ hH hr (.p rfl) hk
  simp [Builtin.len_, run_underlying hu, goInt]

theorem y_len_map {t kt el : TypeId} (hu : P.underlying t = some (.map kt el)) (ty : TypeId) (hH : e.H = w.heap) (hr : HR e) {d : DV} {v : Value} (hv : VR e d v)
    (h : match (generalizing := false) d with
      | .p (.map none) => K (.p (.int .i64 0)) e.h
      | .mp b => match e.h[b]? with
        | some (.map es) => K (.p (.int .i64 es.length)) e.h
        | _ => False
      | _ => False) : Yields P (do pure (.value (← Builtin.len_ #[t] ty #[v]))) w (After e w K) := by
  cases d with
  | p u =>
    cases u with
    | map r =>
      cases r with
      | none =>
        obtain ⟨rfl, _⟩ := vr_p hv
        refine y_pure ?_ hH hr (.p rfl) h
        simp [Builtin.len_, run_underlying hu, goInt]
      | some r => exact h.elim
    | _ => exact h.elim
  | mp b =>
    simp only at h
    cases hb : e.h[b]? with
    | none => rw [hb] at h; exact h.elim
    | some blk =>
    rw [hb] at h
    cases blk with
    | map es =>
      simp only at h
      have hkey : e.key b = some .m := Env.key_of hb
      cases hv with
      | mp _ hm _ =>
        obtain ⟨q, hq, rfl⟩ := hm hkey
        have hbr := hr.blk b _ hb
        cases hbr with
        | map q' res clock hq' hh hl hk hvs hb' hd' =>
          rw [hq] at hq'
          cases hq'
          refine y_pure ?_ hH hr (.p rfl) h
          rw [hH] at hh
          simp only [Builtin.len_, Sem.run_bind]
          simp [run_underlying hu, getObj, Sem.run, hh, goInt, hl]
    | _ => exact h.elim
  | _ => exact h.elim

/-- Slicing: the bounds. -/
theorem run_bounds {isS : Bool} {len cap : Nat} (lo hi : Option Value) (l r : Int) (hlo : ∀ v, lo = some v → ∃ k, v = .int k l) (hlo0 : lo = none → l = 0) (hhi : ∀ v, hi = some v → ∃ k, v = .int k r) (hhi0 : hi = none → r = len) (h0 : 0 ≤ l) (h1 : l ≤ r) (h2 : r ≤ cap) (hlc : len ≤ cap) (w : World) :
    (Instr.sliceBounds isS len cap lo hi none).run P w = .ok (l.toNat, r.toNat, cap) w := by
  have hb : ∀ (k : IntKind) (i : Int) (y : Nat) (c : BoundsCode), 0 ≤ i → i ≤ y → (Instr.sliceBound (.int k i) y c).run P w = .ok i.toNat w := fun k i y c a b => by
    simp [Instr.sliceBound, asIntOf, a, b]
  cases lo with
  | none =>
    obtain rfl := hlo0 rfl
    cases hi with
    | none =>
      obtain rfl := hhi0 rfl
      simp [Instr.sliceBounds]
    | some v =>
      obtain ⟨k, rfl⟩ := hhi v rfl
      simp [Instr.sliceBounds, hb k r cap _ (by omega) (by omega)]
  | some u =>
    obtain ⟨k', rfl⟩ := hlo u rfl
    cases hi with
    | none =>
      obtain rfl := hhi0 rfl
      simp [Instr.sliceBounds, hb k' l len _ h0 h1]
    | some v =>
      obtain ⟨k, rfl⟩ := hhi v rfl
      simp [Instr.sliceBounds, hb k r cap _ (by omega) (by omega), hb k' l r.toNat _ h0 (by omega)]

theorem vr_fz {sz : Nat} {l : List DV} {v : Value} (h : VR e (.fz sz l) v) (hl : l ≠ []) : ∃ r o cap, ∃ vs : Nat → Value, v = .slice (some ⟨r, o, none⟩) l.length cap ∧ l.length ≤ cap ∧ RO e r ∧ (∀ j (hj : j < l.length), VR e l[j] (vs j)) ∧ (∀ j, j < l.length → (vs j).cells.size = sz) ∧
    (∀ j, j < l.length → Cells1 (vs j)) ∧ (∀ j, j < l.length → ∀ k, k < sz → cellAt e.H r (o + j * sz + k) = (vs j).cells[k]?) := by
  cases h with
  | fz0 => exact absurd rfl hl
  | fz vs hs hc hro hvv hsz h1c hcell =>
    rename_i ad cap
    obtain ⟨r, o, sp⟩ := ad
    obtain rfl : sp = none := hs
    exact ⟨r, o, cap, vs, rfl, hc, hro, hvv, hsz, h1c, hcell⟩

theorem y_slc_str {t : TypeId} (hu : P.underlying t = some .string) (hH : e.H = w.heap) (hr : HR e) {s : ByteArray} (lo hi : Option Value) (l r : Int) (hlo : ∀ v, lo = some v → ∃ k, v = .int k l) (hlo0 : lo = none → l = 0) (hhi : ∀ v, hi = some v → ∃ k, v = .int k r) (hhi0 : hi = none → r = s.size)
    (h : 0 ≤ l ∧ l ≤ r ∧ r ≤ s.size ∧ K (.p (.string (s.extract l.toNat r.toNat))) e.h) : Yields P (do pure (.value (← Instr.sliceAt t (.string s) lo hi none))) w (After e w K) := by
  refine y_pure ?_ hH hr (.p rfl) h.2.2.2
  have := run_bounds (P := P) (isS := false) (len := s.size) (cap := s.size) lo hi l r hlo hlo0 hhi hhi0 h.1 h.2.1 h.2.2.1 (Nat.le_refl _) w
  simp only [Instr.sliceAt, Sem.run_bind, run_underlying hu, Result.andThen_ok, Instr.slice, Option.isSome, Bool.false_eq_true, if_false, Sem.run_pure]
  simp [this]

theorem y_slc_sl {t el : TypeId} {g : Bool} {sz : Nat} (hu : P.underlying t = some (.slice el)) (ht : Ty P el g sz) (hH : e.H = w.heap) (hr : HR e) {d : DV} {v : Value} (hv : VR e d v) (lo hi : Option Value) (n : Nat) (l r : Int) (hn : ∃ a c, v = .slice a n c ∧ n ≤ c) (hlo : ∀ v, lo = some v → ∃ k, v = .int k l) (hlo0 : lo = none → l = 0) (hhi : ∀ v, hi = some v → ∃ k, v = .int k r) (hhi0 : hi = none → r = n)
    (h : match (generalizing := false) d with
      | .fz sz' xs => n = xs.length ∧ sz' = sz ∧ 0 ≤ l ∧ l ≤ r ∧ r ≤ xs.length ∧ K (.fz sz ((xs.drop l.toNat).take (r.toNat - l.toNat))) e.h
      | .sl b i m x => n = m ∧ (match e.h[b]? with | some (.cells bsz els) => x = els.length ∧ bsz = sz | _ => False) ∧ 0 ≤ l ∧ l ≤ r ∧ r ≤ n ∧ K (.sl b (i + l.toNat) (r.toNat - l.toNat) x) e.h
      | .p (.slice none 0 0) => l = 0 ∧ r = 0 ∧ K (.p (.slice none 0 0)) e.h
      | .sa g' z b i o m c x => n = m ∧ (match e.h[b]? with | some (.cells _ els) => x = els.length ∧ z = sz | _ => False) ∧ 0 ≤ l ∧ l ≤ r ∧ r ≤ c ∧ K (.sa g' z b i (o + l.toNat * z) (r.toNat - l.toNat) (c - l.toNat) x) e.h
      | _ => False) : Yields P (do pure (.value (← Instr.sliceAt t v lo hi none))) w (After e w K) := by
  obtain ⟨a, c, rfl, hnc⟩ := hn
  have run : 0 ≤ l → l ≤ r → r ≤ c → (Instr.sliceAt t (.slice a n c) lo hi none).run P w = .ok (.slice (if c = l.toNat then a else a.map (·.add (l.toNat * sz))) (r.toNat - l.toNat) (c - l.toNat)) w := fun h0 h1 h2 => by
    have := run_bounds (P := P) (isS := true) (len := n) (cap := c) lo hi l r hlo hlo0 hhi hhi0 h0 h1 h2 hnc w
    simp only [Instr.sliceAt, Sem.run_bind, run_underlying hu, Result.andThen_ok, Instr.slice, this, ht.run_size, Sem.run_pure]
  cases d with
  | fz sz' xs =>
    obtain ⟨rfl, rfl, h0, h1, h2, hk⟩ := h
    refine y_pure (by rw [Sem.run_bind, run h0 h1 (by omega)]; rfl) hH hr ?_ hk
    have hlen : ((xs.drop l.toNat).take (r.toNat - l.toNat)).length = r.toNat - l.toNat := by simp; omega
    by_cases he : r.toNat - l.toNat = 0
    · rw [he, List.take_zero]
      exact .fz0
    · obtain ⟨rr, o, cap, vs, hve, hc, hro, hvv, hsz, h1c, hcell⟩ := vr_fz hv (by intro h; subst h; simp at h2; omega)
      injection hve with h4 h5 h6
      subst h4; subst h6
      rw [if_neg (by omega)]
      simp only [Option.map_some, add_plain]
      suffices hS : VR e (.fz sz' ((xs.drop l.toNat).take (r.toNat - l.toNat))) (.slice (some ⟨rr, o + l.toNat * sz', none⟩) ((xs.drop l.toNat).take (r.toNat - l.toNat)).length (c - l.toNat)) by rw [hlen] at hS; exact hS
      refine @VR.fz e _ ((xs.drop l.toNat).take (r.toNat - l.toNat)) ⟨rr, o + l.toNat * sz', none⟩ (c - l.toNat) (fun j => vs (l.toNat + j)) rfl (by rw [hlen]; omega) hro (fun j hj => ?_) (fun j hj => hsz _ (by rw [hlen] at hj; omega)) (fun j hj => h1c _ (by rw [hlen] at hj; omega)) (fun j hj k hk => ?_)
      · simp only [List.getElem_take, List.getElem_drop]
        exact hvv _ _
      · have := hcell (l.toNat + j) (by rw [hlen] at hj; omega) k hk
        simp only at this ⊢
        rw [show o + l.toNat * sz' + j * sz' + k = o + (l.toNat + j) * sz' + k by rw [Nat.add_mul]; omega]
        exact this
  | sl b i m x =>
    obtain ⟨rfl, hb, h0, h1, h2, hk⟩ := h
    cases hbb : e.h[b]? with
    | none => rw [hbb] at hb; exact hb.elim
    | some blk =>
    rw [hbb] at hb
    cases blk with
    | cells bsz els =>
      simp only at hb
      obtain ⟨rfl, rfl⟩ := hb
      have hkey : e.key b = some (.c bsz els.length) := Env.key_of hbb
      obtain ⟨hi', hcase⟩ := vr_sl hv hkey
      refine y_pure (by rw [Sem.run_bind, run h0 h1 (by omega)]; rfl) hH hr ?_ hk
      refine .sl (Env.key_lt (by rw [hkey]; simp)) (fun sz' m h => ?_) ⟨_, _, rfl⟩
      rw [hkey] at h
      simp only [Option.some.injEq, Key.c.injEq] at h
      obtain ⟨rfl, rfl⟩ := h
      refine ⟨Nat.le_refl _, fun _ => ⟨by omega, ?_⟩⟩
      rcases hcase with ⟨hq, h3⟩ | ⟨q, a', cap, hq, h3, hc, hC, ha⟩
      · injection h3 with h4 h5 h6
        subst h4; subst h5; subst h6
        obtain rfl : l = 0 := by omega
        obtain rfl : r = 0 := by omega
        exact .inl ⟨hq, by simp⟩
      · injection h3 with h4 h5 h6
        subst h4; subst h6
        refine .inr ⟨q, if c = l.toNat then a' else a'.add (l.toNat * bsz), c - l.toNat, hq, ?_, by omega, ?_, fun hpos => ?_⟩
        · split <;> rfl
        · rw [show i + l.toNat + (c - l.toNat) = i + c by omega]; exact hC
        · rw [if_neg (by omega), ha (by omega), add_plain, Nat.add_mul]
    | _ => exact hb.elim
  | sa g' z b i o m c2 x =>
    obtain ⟨rfl, hb, h0, h1, h2, hk⟩ := h
    cases hbb : e.h[b]? with
    | none => rw [hbb] at hb; exact hb.elim
    | some blk =>
    rw [hbb] at hb
    cases blk with
    | cells bsz els =>
      simp only at hb
      obtain ⟨rfl, rfl⟩ := hb
      have hkey : e.key b = some (.c bsz els.length) := Env.key_of hbb
      obtain ⟨hi', q, a', hq, h3, hc, hC, ha⟩ := vr_sa hv hkey
      injection h3 with h4 h5 h6
      subst h4; subst h6
      refine y_pure (by rw [Sem.run_bind, run h0 h1 h2]; rfl) hH hr ?_ hk
      refine .sa (Env.key_lt (by rw [hkey]; simp)) (vr_sa_g hv) (fun sz' m h => ?_) ⟨_, rfl⟩
      rw [hkey] at h
      simp only [Option.some.injEq, Key.c.injEq] at h
      obtain ⟨rfl, rfl⟩ := h
      refine ⟨Nat.le_refl _, fun _ => ⟨hi', q, if c = l.toNat then a' else a'.add (l.toNat * z), hq, ?_, by omega, ?_, fun hpos => ?_⟩⟩
      · split <;> rfl
      · rw [Nat.sub_mul]
        have := Nat.mul_le_mul_right z (show l.toNat ≤ c by omega)
        omega
      · rw [if_neg (by omega), ha (by omega), add_plain, Nat.add_assoc]
    | _ => exact hb.elim
  | p u =>
    obtain ⟨rfl, _⟩ := vr_p hv
    cases a with
    | some a => exact h.elim
    | none =>
    cases n with
    | succ n => exact h.elim
    | zero =>
    cases c with
    | succ c => exact h.elim
    | zero =>
      obtain ⟨rfl, rfl, hk⟩ := h
      exact y_pure (by rw [Sem.run_bind, run (by omega) (by omega) (by omega)]; rfl) hH hr (.p rfl) hk
  | _ => exact h.elim

/-- A slice of an array. -/
theorem y_slca {t el : TypeId} {m : Nat} {g : Bool} {z : Nat} (hu : P.underlying t = some (.array m el) ∨ ∃ arr, P.underlying t = some (.pointer arr) ∧ P.underlying arr = some (.array m el)) (ht : Ty P el g z) (hg : g = false → z = 1) (hH : e.H = w.heap) (hr : HR e) {d : DV} {v : Value} (hv : VR e d v) (lo hi : Option Value) (l r : Int) (hlo : ∀ v, lo = some v → ∃ k, v = .int k l) (hlo0 : lo = none → l = 0) (hhi : ∀ v, hi = some v → ∃ k, v = .int k r) (hhi0 : hi = none → r = m)
    (h : match (generalizing := false) d with
      | .ptr b i o y => (match e.h[b]? with | some (.cells bsz els) => y = els.length ∧ o + m * z ≤ bsz | _ => False) ∧ 0 ≤ l ∧ l ≤ r ∧ r ≤ m ∧ K (.sa g z b i (o + l.toNat * z) (r.toNat - l.toNat) (m - l.toNat) y) e.h
      | _ => False) : Yields P (do pure (.value (← Instr.sliceAt t v lo hi none))) w (After e w K) := by
  cases d with
  | ptr b i o y =>
    obtain ⟨hb, h0, h1, h2, hk⟩ := h
    cases hbb : e.h[b]? with
    | none => rw [hbb] at hb; exact hb.elim
    | some blk =>
    rw [hbb] at hb
    cases blk with
    | cells bsz els =>
      simp only at hb
      obtain ⟨rfl, hC⟩ := hb
      have hkey : e.key b = some (.c bsz els.length) := Env.key_of hbb
      obtain ⟨hi', q, hq, rfl⟩ := vr_ptr hv hkey
      have hbd := run_bounds (P := P) (isS := false) (len := m) (cap := m) lo hi l r hlo hlo0 hhi hhi0 h0 h1 h2 (Nat.le_refl _) w
      have run : (Instr.sliceAt t (.pointer (some ⟨q.1, i * bsz + o, none⟩)) lo hi none).run P w = .ok (.slice (some (if m = l.toNat then ⟨q.1, i * bsz + o, none⟩ else (⟨q.1, i * bsz + o, none⟩ : Addr).add (l.toNat * z))) (r.toNat - l.toNat) (m - l.toNat)) w := by
        rcases hu with hu | ⟨arr, hu, hu2⟩
        · simp only [Instr.sliceAt, Sem.run_bind, run_underlying hu, Result.andThen_ok, Instr.sureAddr, Sem.run_pure, hbd, ht.run_size]
        · simp only [Instr.sliceAt, Sem.run_bind, run_underlying hu, run_underlying hu2, Result.andThen_ok, Instr.slice, asAddr, Sem.run_pure, hbd, ht.run_size]
      refine y_pure (by rw [Sem.run_bind, run]; rfl) hH hr ?_ hk
      refine .sa (Env.key_lt (by rw [hkey]; simp)) hg (fun sz' k h => ?_) ⟨_, rfl⟩
      rw [hkey] at h
      simp only [Option.some.injEq, Key.c.injEq] at h
      obtain ⟨rfl, rfl⟩ := h
      refine ⟨Nat.le_refl _, fun _ => ⟨hi', q, _, hq, rfl, by omega, ?_, fun hpos => ?_⟩⟩
      · rw [Nat.sub_mul]
        have := Nat.mul_le_mul_right z (show l.toNat ≤ m by omega)
        omega
      · rw [if_neg (by omega), add_plain, Nat.add_assoc]
    | _ => exact hb.elim
  | _ => exact h.elim

theorem y_idxs {t : TypeId} (hu : P.underlying t = some .string) (hH : e.H = w.heap) (hr : HR e) {s : ByteArray} {k : IntKind} {j : Int} (h : 0 ≤ j ∧ j < s.size ∧ K (byteD (s.data.toList.getD j.toNat 0)) e.h) :
    Yields P (do pure (.value (← Instr.index t (.string s) (.int k j)))) w (After e w K) := by
  have hj : j.toNat < s.size := by omega
  have hj' : j.toNat < s.data.size := hj
  refine y_pure ?_ hH hr (.p rfl) h.2.2
  simp only [Instr.index, asIntOf, Sem.run_bind, run_underlying hu, Result.andThen_ok, Sem.run_pure, h.1, if_true]
  have : s[j.toNat]? = some (s.data.toList.getD j.toNat 0) := by
    rw [getElem?_pos s j.toNat hj]
    simp only [List.getD, Array.getElem?_toList, Array.getElem?_eq_getElem hj', Option.getD_some]
    rfl
  rw [this]
  rfl

theorem y_ext {i : Nat} (hH : e.H = w.heap) (hr : HR e) {d : DV} {v : Value} (hv : VR e d v) (h : match (generalizing := false) d with | .tup vs => i < vs.length ∧ K (vs.getD i .any) e.h | _ => False) : Yields P (do pure (.value (← Instr.extract v i))) w (After e w K) := by
  cases d with
  | tup vs =>
    obtain ⟨hi, hk⟩ := h
    obtain ⟨us, rfl, hl, hvv⟩ := vr_tup hv
    have hvi := hvv i hi (hl ▸ hi)
    rw [show vs.getD i .any = vs[i] by simp [List.getD, hi]] at hk
    exact y_pure (by simp [Instr.extract, Array.getElem?_eq_getElem (hl ▸ hi)]) hH hr hvi hk
  | _ => exact h.elim

theorem y_ifc {t : TypeId} (hc : P.concrete t = true) (hH : e.H = w.heap) (hr : HR e) {d : DV} {v : Value} (hv : VR e d v) (hk : K (.iface t d) e.h) : Yields P (do pure (.value (← Instr.makeInterface t v))) w (After e w K) :=
  y_pure (by rw [Sem.run_bind, run_makeInterface w t v hc]; rfl) hH hr (.iface hv) hk

end
end Go.Den
