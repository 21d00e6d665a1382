/- The library: contracts of functions over denoted values (N). -/
import Derived.Test.YtbbafeocmchlnaaDenNb
set_option linter.unusedVariables false
set_option linter.unusedSimpArgs false
set_option linter.unusedSectionVars false
set_option linter.unnecessarySimpa false
namespace Go.Den
open Go

section
variable {P : Program} {e : Env} {w : World} {K : DV → List Blk → Prop}

theorem y_cap {t el : TypeId} (hu : P.underlying t = some (.slice el)) (ty : TypeId) (hH : e.H = w.heap) (hr : HR e) {a : Option Addr} {n c : Nat} (hk : K (.p (.int .i64 c)) e.h) : Yields P (do pure (.value (← Builtin.cap_ #[t] ty #[.slice a n c]))) w (After e w K) := by
  have hrun : (Builtin.cap_ #[t] ty #[.slice a n c]).run P w = .ok (.int .i64 c) w := by
    simp [Builtin.cap_, run_underlying hu, goInt]
  exact y_pure (by simp [hrun]) hH hr (.p rfl) hk

theorem y_tas {xt t : TypeId} {d0 : TypeDesc} (hu : P.underlying t = some d0) (hni : (d0 matches .interface _) = false) {z : Value} (hz : ∃ i, P.info? t = some i ∧ i.zero = some z) {ok : Bool} (hH : e.H = w.heap) (hr : HR e) {d : DV} {v : Value} (hv : VR e d v)
    (h : match (generalizing := false) d with
      | .iface u x => if u = t then K (mres ok x true) e.h else ok = true ∧ K (mres ok (ofV z) false) e.h
      | .p .nilIface => ok = true ∧ K (mres ok (ofV z) false) e.h
      | _ => False) : Yields P (do pure (.value (← Instr.typeAssert v xt t ok))) w (After e w K) := by
  obtain ⟨i, hz1, hz2⟩ := hz
  have fin : ∀ (u : Value) (x : DV) (b : Bool), VR e x u → (Instr.typeAssert v xt t ok).run P w = .ok (if ok = true then .tuple #[u, .bool b] else u) w → K (mres ok x b) e.h → Yields P (do pure (.value (← Instr.typeAssert v xt t ok))) w (After e w K) := by
    intro u x b hx hrun hk
    refine y_pure (v := if ok = true then .tuple #[u, .bool b] else u) (by simp [hrun]) hH hr ?_ hk
    unfold mres
    cases ok
    · simpa using hx
    · simp only [if_true]
      refine .tup rfl fun i hi hi' => ?_
      have : i = 0 ∨ i = 1 := by simp at hi; omega
      rcases this with rfl | rfl
      · exact hx
      · exact .p rfl
  have hzv : (zeroValue t).run P w = .ok z w := by simp [zeroValue, typeInfo, hz1, hz2]
  cases d with
  | iface u x =>
    obtain ⟨vu, rfl, hx⟩ := vr_iface hv
    simp only at h
    by_cases hut : u = t
    · rw [if_pos hut] at h
      refine fin vu x true hx ?_ h
      subst hut
      simp only [Instr.typeAssert, Sem.run_bind, run_underlying hu, Result.andThen_ok]
      cases d0 <;> first | (cases hni; done) | (cases ok <;> simp)
    · rw [if_neg hut] at h
      obtain ⟨rfl, h⟩ := h
      refine fin z (ofV z) false (vr_ofV e z) ?_ h
      simp only [Instr.typeAssert, Sem.run_bind, run_underlying hu, Result.andThen_ok]
      cases d0 <;> first | (cases hni; done) | simp [hut, hzv]
  | p u =>
    obtain ⟨rfl, _⟩ := vr_p hv
    cases v with
    | nilIface =>
      obtain ⟨rfl, h⟩ := h
      refine fin z (ofV z) false (vr_ofV e z) ?_ h
      simp only [Instr.typeAssert, Sem.run_bind, run_underlying hu, Result.andThen_ok]
      cases d0 <;> first | (cases hni; done) | simp [hzv]
    | _ => exact h.elim
  | _ => exact h.elim

theorem y_tai {xt u : TypeId} {want : Array (String × TypeId)} (hu : P.underlying u = some (.interface want)) (hz : ∃ i, P.info? u = some i ∧ i.zero = some .nilIface) {ok : Bool} (hH : e.H = w.heap) (hr : HR e) {d : DV} {v : Value} (hv : VR e d v)
    (h : match (generalizing := false) d with
      | .iface t x => (match hasM P u t with
        | some b => if b = true then K (mres ok (.iface t x) true) e.h else ok = true ∧ K (mres ok (.p .nilIface) false) e.h
        | none => False)
      | .p .nilIface => ok = true ∧ K (mres ok (.p .nilIface) false) e.h
      | _ => False) : Yields P (do pure (.value (← Instr.typeAssert v xt u ok))) w (After e w K) := by
  obtain ⟨i, hz1, hz2⟩ := hz
  have fin : ∀ (y : Value) (x : DV) (b : Bool), VR e x y → (Instr.typeAssert v xt u ok).run P w = .ok (if ok = true then .tuple #[y, .bool b] else y) w → K (mres ok x b) e.h → Yields P (do pure (.value (← Instr.typeAssert v xt u ok))) w (After e w K) := by
    intro y x b hx hrun hk
    refine y_pure (v := if ok = true then .tuple #[y, .bool b] else y) (by simp [hrun]) hH hr ?_ hk
    unfold mres
    cases ok
    · simpa using hx
    · simp only [if_true]
      refine .tup rfl fun i hi hi' => ?_
      have : i = 0 ∨ i = 1 := by simp at hi; omega
      rcases this with rfl | rfl
      · exact hx
      · exact .p rfl
  have hzv : (zeroValue u).run P w = .ok .nilIface w := by simp [zeroValue, typeInfo, hz1, hz2]
  cases d with
  | iface t x =>
    obtain ⟨vu, rfl, hx⟩ := vr_iface hv
    simp only at h
    cases hm : hasM P u t with
    | none => rw [hm] at h; exact h.elim
    | some b =>
      rw [hm] at h
      simp only [hasM, hu] at hm
      cases hi : P.info? t with
      | none => rw [hi] at hm; cases hm
      | some it =>
        rw [hi] at hm
        simp only [Option.some.injEq] at hm
        have hti : (typeInfo t).run P w = .ok it w := by simp [typeInfo, hi]
        simp only at h
        cases b with
        | true =>
          simp only [if_true] at h
          refine fin (.iface t vu) (.iface t x) true (.iface hx) ?_ h
          have hn : Instr.missingMethod want it.methods = none := by simpa using hm
          simp only [Instr.typeAssert, Sem.run_bind, run_underlying hu, Result.andThen_ok, hti, hn]
          cases ok <;> simp
        | false =>
          simp only [Bool.false_eq_true, if_false] at h
          obtain ⟨rfl, h⟩ := h
          refine fin .nilIface (.p .nilIface) false (.p rfl) ?_ h
          obtain ⟨s, hs⟩ : ∃ s, Instr.missingMethod want it.methods = some s := by
            cases hq : Instr.missingMethod want it.methods with
            | none => rw [hq] at hm; cases hm
            | some s => exact ⟨s, rfl⟩
          simp only [Instr.typeAssert, Sem.run_bind, run_underlying hu, Result.andThen_ok, hti, hs]
          simp [hzv]
  | p y =>
    obtain ⟨rfl, _⟩ := vr_p hv
    cases v with
    | nilIface =>
      obtain ⟨rfl, h⟩ := h
      refine fin .nilIface (.p .nilIface) false (.p rfl) ?_ h
      simp only [Instr.typeAssert, Sem.run_bind, run_underlying hu, Result.andThen_ok]
      simp [hzv]
    | _ => exact h.elim
  | _ => exact h.elim

theorem y_mkf {f : Fn} {ds es : List DV} {vs us : Array Value} (hd : TR e ds vs) (he : TR e es us) (hH : e.H = w.heap) (hr : HR e) (hk : K (.fn f ds es) e.h) : Yields P (do pure (.value (← Instr.makeFunc f vs us))) w (After e w K) :=
  y_pure (v := .func f vs us) (by simp [Instr.makeFunc]) hH hr (.fn hd.1 hd.2 he.1 he.2) hk

theorem y_mks {t el : TypeId} {g : Bool} {sz bytes : Nat} {zero : Value} (hu : P.underlying t = some (.slice el)) (hi : ∃ i, P.info? el = some i ∧ i.size = sz ∧ i.bytes = bytes ∧ i.zero = some zero ∧ zero.cells.size = i.size) (hb : 0 < bytes) (hst : (ofV zero).storable = true)
    (hH : e.H = w.heap) (hr : HR e) {kn kc : IntKind} {l r : Int}
    (h : 0 ≤ l ∧ l ≤ r ∧ r * bytes ≤ 140737488355328 ∧
      (K (.sl e.h.length 0 l.toNat l.toNat) (e.h ++ [.cells sz (List.replicate l.toNat (ofV zero))]) ∨
        ((g = true ∨ sz = 1) ∧ K (.sa g sz e.h.length 0 0 l.toNat r.toNat 1) (e.h ++ [.cells (r.toNat * sz) [.agg (List.replicate r.toNat (ofV zero).cells).flatten]])))) :
    Yields P (do pure (.value (← Instr.makeSlice t (.int kn l) (.int kc r)))) w (After e w K) := by
  obtain ⟨i, hi1, rfl, rfl, hz, hzs⟩ := hi
  obtain ⟨h0, hlr, hrb, hk⟩ := h
  have hr0 : 0 ≤ r := by omega
  have hrle : r ≤ 140737488355328 := by
    have : r * 1 ≤ r * (i.bytes : Int) := Int.mul_le_mul_of_nonneg_left (by omega) hr0
    omega
  have hwl : IntKind.i64.wrap l = l := by simp [IntKind.wrap, IntKind.bits, IntKind.signed]; omega
  have hwr : IntKind.i64.wrap r = r := by simp [IntKind.wrap, IntKind.bits, IntKind.signed]; omega
  let C : Array Value := (Array.range (r.toNat * i.size)).map ((if r.toNat * i.size = 0 then (#[] : Array Value) else zero.cells)[· % (if r.toNat * i.size = 0 then (#[] : Array Value) else zero.cells).size]!)
  have hti : (typeInfo el).run P w = .ok i w := by simp [typeInfo, hi1]
  have hC : C.size = r.toNat * i.size := by simp [C]
  have hCg : ∀ j, j < r.toNat → ∀ k, k < i.size → C[j * i.size + k]? = zero.cells[k]? := by
    intro j hj k hk
    have hlt := mul_lt_add (m := 0) hj hk
    have hn0 : r.toNat * i.size ≠ 0 := by omega
    simp only [C, if_neg hn0]
    rw [Array.getElem?_map, Array.getElem?_range, if_pos hlt]
    simp only [Option.map_some]
    have : (j * i.size + k) % zero.cells.size = k := by rw [hzs, Nat.mul_comm, Nat.mul_add_mod, Nat.mod_eq_of_lt hk]
    rw [this]
    have hk' : k < zero.cells.size := by rw [hzs]; exact hk
    simp [hk']
  have hn48 : ∀ x : Int, 0 ≤ x → x ≤ r → (decide (x < 0) || decide ((i.bytes : Int) * x > 2 ^ 48)) = false := by
    intro x hx hxr
    have : x * i.bytes ≤ r * i.bytes := Int.mul_le_mul_of_nonneg_right hxr (by omega)
    rw [Int.mul_comm] at this
    simp only [Bool.or_eq_false_iff, decide_eq_false_iff_not]
    omega
  have hrun : (Instr.makeSlice t (.int kn l) (.int kc r)).run P w = .ok (.slice (some ⟨w.heap.size, 0, none⟩) l.toNat r.toNat) (w.alloc (.cells C el)) := by
    simp only [Instr.makeSlice, Sem.run_bind, run_underlying hu, Result.andThen_ok, asInt, asIntOf, Sem.run_pure, hti, hwl, hwr]
    have e1 := hn48 r hr0 (Int.le_refl _)
    rw [e1]
    have e2 : decide (l < 0) = false := by simp; omega
    have e3 : decide (l > r) = false := by simp; omega
    rw [e2, e3]
    simp only [Bool.or_false, Bool.false_eq_true, if_false, Sem.run_bind, Result.andThen_ok, Sem.run_pure]
    have har : (askRoom (r.toNat * i.bytes)).run P w = .ok () w := by
      unfold askRoom
      split <;> rfl
    rw [har]
    have hs : (sizeOf el).run P w = .ok i.size w := by simp [sizeOf, typeInfo, hi1]
    have hzv : (zeroValue el).run P w = .ok zero w := by simp [zeroValue, typeInfo, hi1, hz]
    simp only [Result.andThen_ok, hs]
    by_cases hn : r.toNat * i.size = 0
    · simp [hn, newRow, C]
    · simp [hn, newRow, C, hzv]
  unfold Yields
  simp only [Sem.run_bind, hrun, Result.andThen_ok, Sem.run_pure]
  have hz1 : VR e (ofV zero) zero := vr_ofV e zero
  have hzc := vr_cells hz1 hst
  rcases hk with hk | ⟨hg, hk⟩
  · obtain ⟨ev, hr', hkey, hq⟩ := env_alloc hr i.size (List.replicate l.toNat (ofV zero)) C el (0, 0) (fun _ => zero) (by rw [hC]; simp; exact Nat.mul_le_mul_right _ (by omega)) (fun k _ h => by simp at h)
      (fun j hj => by simpa using hz1) (fun _ _ => hzs) (fun _ _ => hz1.cells1 hst) (fun j hj k hk => hCg j (by simp at hj; omega) k hk)
    refine ⟨_, _, by rw [hH]; rfl, ⟨rfl, rfl, rfl⟩, hr', ev, ?_, hk⟩
    rw [← hH]
    simp only [List.length_replicate] at hkey
    exact vr_sl_new hkey hq (by omega) (by rw [hC]; exact Nat.le_refl _)
  · have hfl : ((List.replicate r.toNat (ofV zero).cells).flatten).length = r.toNat * i.size := by simp [hzc.1, hzs]
    have hfg : ∀ m (hm : m < ((List.replicate r.toNat (ofV zero).cells).flatten).length), ∃ k, ∃ (hk : k < (ofV zero).cells.length), k = m % i.size ∧ ((List.replicate r.toNat (ofV zero).cells).flatten)[m] = (ofV zero).cells[k] := by
      intro m hm
      have hs0 : 0 < i.size := by
        rcases Nat.eq_zero_or_pos i.size with h | h
        · rw [hfl, h] at hm; simp at hm
        · exact h
      have hcl : (ofV zero).cells.length = i.size := by rw [hzc.1, hzs]
      refine ⟨m % i.size, by rw [hcl]; exact Nat.mod_lt _ hs0, rfl, ?_⟩
      have key : ∀ (n m : Nat), m < n * i.size → ((List.replicate n (ofV zero).cells).flatten)[m]? = (ofV zero).cells[m % i.size]? := by
        intro n
        induction n with
        | zero => intro m hm; simp at hm
        | succ n ih =>
          intro m hm
          rw [List.replicate_succ, List.flatten_cons]
          by_cases hlt : m < i.size
          · rw [List.getElem?_append_left (by rw [hcl]; exact hlt), Nat.mod_eq_of_lt hlt]
          · rw [List.getElem?_append_right (by rw [hcl]; omega), hcl, ih (m - i.size) (by rw [Nat.succ_mul] at hm; omega)]
            rw [← Nat.mod_eq_sub_mod (Nat.le_of_not_lt hlt)]
      have := key r.toNat m (by rw [← hfl]; exact hm)
      rw [List.getElem?_eq_getElem hm, List.getElem?_eq_getElem (by rw [hcl]; exact Nat.mod_lt _ hs0)] at this
      exact Option.some.inj this
    have hCv : VR e (.agg (List.replicate r.toNat (ofV zero).cells).flatten) (.agg C) := by
      refine .agg (by rw [hfl, hC]) (fun m hm => ?_) (fun m hm hm' => ?_)
      · rw [hC] at hm
        obtain ⟨k, hk1, hk2, _⟩ := hfg m (by rw [hfl]; exact hm)
        have hs0 : 0 < i.size := by
          rcases Nat.eq_zero_or_pos i.size with h | h
          · rw [h] at hm; simp at hm
          · exact h
        have := hCg (m / i.size) ((Nat.div_lt_iff_lt_mul hs0).2 hm) (m % i.size) (Nat.mod_lt _ hs0)
        rw [Nat.mul_comm, Nat.div_add_mod, Array.getElem?_eq_getElem (by rw [hC]; exact hm), Array.getElem?_eq_getElem (by rw [hzs]; exact Nat.mod_lt _ hs0)] at this
        rw [Option.some.inj this]
        exact hz1.cells1 hst _ _
      · rw [hC] at hm'
        obtain ⟨k, hk1, hk2, hk3⟩ := hfg m hm
        have hs0 : 0 < i.size := by
          rcases Nat.eq_zero_or_pos i.size with h | h
          · rw [h] at hm'; simp at hm'
          · exact h
        have := hCg (m / i.size) ((Nat.div_lt_iff_lt_mul hs0).2 hm') (m % i.size) (Nat.mod_lt _ hs0)
        rw [Nat.mul_comm, Nat.div_add_mod, Array.getElem?_eq_getElem (by rw [hC]; exact hm'), Array.getElem?_eq_getElem (by rw [hzs]; exact Nat.mod_lt _ hs0)] at this
        rw [Option.some.inj this, hk3]
        subst hk2
        exact hzc.2 _ hk1 _
    obtain ⟨ev, hr', hkey, hq⟩ := env_alloc hr (r.toNat * i.size) [.agg (List.replicate r.toNat (ofV zero).cells).flatten] C el (0, 0) (fun _ => .agg C) (by simp [hC]) (fun k _ h => by simp at h)
      (fun j hj => by
        have : j = 0 := by simp at hj; exact hj
        subst this; exact hCv) (fun _ _ => hC) (fun _ _ => hCv.cells1 rfl) (fun j hj k hk => by
        have : j = 0 := by simp at hj; exact hj
        subst this; simp [Value.cells])
    refine ⟨_, _, by rw [hH]; rfl, ⟨rfl, rfl, rfl⟩, hr', ev, ?_, hk⟩
    rw [← hH]
    refine .sa (Env.key_lt (by rw [hkey]; simp)) (fun h => hg.resolve_left (by rw [h]; simp)) (fun sz' m hk' => ?_) ⟨_, rfl⟩
    rw [hkey] at hk'
    simp only [List.length_singleton, Option.some.injEq, Key.c.injEq] at hk'
    obtain ⟨rfl, rfl⟩ := hk'
    exact ⟨Nat.le_refl _, fun _ => ⟨by omega, _, _, hq, rfl, by omega, by omega, fun _ => by simp⟩⟩
end
end Go.Den
