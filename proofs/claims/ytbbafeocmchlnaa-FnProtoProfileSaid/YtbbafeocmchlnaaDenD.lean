/- The library: contracts of functions over denoted values (D). -/
import Derived.Test.YtbbafeocmchlnaaDenC
import Derived.Laws.Strings
set_option linter.unusedVariables false
set_option linter.unusedSimpArgs false
set_option linter.unusedSectionVars false
set_option linter.unnecessarySimpa false
namespace Go.Den
open Go

/-- The run of an operation, and what it leaves. -/
def Yields (P : Program) (x : Sem Next) (w : World) (R : Value → World → Prop) : Prop :=
  match x.run P w with
  | .ok (.value v) w' => R v w'
  | .ok .skip w' => R undef w'
  | .ok (.enter f args) w' => Calls P f args w' fun en w'' => ∃ v, en = .returned v ∧ R v w''
  | _ => False

theorem Yields.wp {P : Program} {o : Oper} {a : Act} {w : World} {R : Value → World → Prop} {next : Act → World → Prop} {Q : Exit → Act → World → Prop}
    (h : Yields P (execOp a.eval o) w R) (hn : ∀ v w', R v w' → next (a.put o.dst v) w') : o.wp P a w next Q := by
  unfold Yields at h
  unfold Oper.wp
  cases hr : (execOp a.eval o).run P w with
  | ok n w' =>
    rw [hr] at h
    cases n <;> simp only [Oper.upon] <;> simp only at h
    case value v => exact hn _ _ h
    case skip => exact hn _ _ h
    case enter f args => exact h.mono fun en w'' ⟨v, he, hv⟩ => by subst he; exact hn _ _ hv
  | halt x w' => rw [hr] at h; cases x <;> exact h.elim

/-- What stands behind an operation. -/
def After (e : Env) (w : World) (K : DV → List Blk → Prop) (v : Value) (w' : World) : Prop :=
  ∃ e' d, e'.H = w'.heap ∧ WS w w' ∧ HR e' ∧ Ev e.h.length e e' ∧ VR e' d v ∧ K d e'.h

theorem after_same {e : Env} {w w' : World} {K : DV → List Blk → Prop} {v : Value} {d : DV} (hH : e.H = w.heap) (hw : w'.heap = w.heap) (hs : WS w w') (hr : HR e) (hv : VR e d v) (hk : K d e.h) : After e w K v w' :=
  ⟨e, d, hH.trans hw.symm, hs, hr, Ev.refl e, hv, hk⟩

theorem y_pure {P : Program} {e : Env} {w : World} {K : DV → List Blk → Prop} {v : Value} {d : DV} {x : Sem Next} (hx : x.run P w = .ok (.value v) w) (hH : e.H = w.heap) (hr : HR e) (hv : VR e d v) (hk : K d e.h) :
    Yields P x w (After e w K) := by
  unfold Yields
  rw [hx]
  exact after_same hH rfl (WS.refl w) hr hv hk

theorem add_plain (r o n : Nat) : (⟨r, o, none⟩ : Addr).add n = ⟨r, o + n, none⟩ := by
  unfold Addr.add
  split
  · subst_vars; rfl
  · rfl

/-! ### Operands -/
def ofV : Value → DV
  | .agg cs => if cs.all Value.oneCell' then .agg (cs.toList.map .p) else .any
  | .tuple _ => .any
  | v => .p v

theorem vr_ofV (e : Env) (v : Value) : VR e (ofV v) v := by
  unfold ofV
  split
  · split
    · rename_i cs h
      refine .agg (by simp) (fun i hi => Array.all_eq_true.1 h i hi) fun i hi hi' => ?_
      simp only [List.getElem_map, Array.getElem_toList]
      exact .p (Array.all_eq_true.1 h i hi')
    · exact .any
  · exact .any
  · rename_i h1 h2
    refine .p ?_
    cases v <;> first | rfl | (exact absurd rfl (h1 _)) | (exact absurd rfl (h2 _))

def cOpd : Operand → Opd
  | .tmp t => .t t
  | .const v => .c (ofV v)
  | .global g => .g g
  | .func f => .c (.fn (.func f) [] [])

theorem vr_ev {e : Env} {G : Nat → DV} {t : List DV} {a : Act} (hg : GR e G) (ht : TR e t a.tmps) (x : Operand) : VR e ((cOpd x).ev G t) (a.eval x) := by
  cases x with
  | tmp n =>
    simp only [cOpd, Opd.ev, Act.eval]
    by_cases h : n < t.length
    · have := ht.2 n h (ht.1 ▸ h)
      simpa [List.getD, Array.getD, h, ht.1 ▸ h] using this
    · have h' : ¬ n < a.tmps.size := ht.1 ▸ h
      simp only [List.getD, List.getElem?_eq_none (Nat.le_of_not_lt h), Option.getD_none]
      exact .any
  | const v => exact vr_ofV e v
  | global g => exact hg g
  | func f => exact .fn (by simp) (fun i hi => by simp at hi) (by simp) (fun i hi => by simp at hi)

theorem tr_map {e : Env} {G : Nat → DV} {t : List DV} {a : Act} (hg : GR e G) (ht : TR e t a.tmps) (l : List Operand) :
    TR e ((l.map cOpd).map (Opd.ev G t)) (l.map a.eval).toArray :=
  ⟨by simp, fun i hi hi' => by simpa using vr_ev hg ht _⟩

theorem GR.mono {e e' : Env} {G : Nat → DV} (h : GR e G) (ev : Ev e.h.length e e') : GR e' G := fun g => (h g).mono ev
theorem TR.mono {e e' : Env} {t : List DV} {vs : Array Value} (h : TR e t vs) (ev : Ev e.h.length e e') : TR e' t vs := ⟨h.1, fun i hi hi' => (h.2 i hi hi').mono ev⟩
theorem TR.put {e : Env} {s : St} {a : Act} (h : TR e s.t a.tmps) (dst : Option Nat) {d : DV} {v : Value} (hv : VR e d v) (hp : List Blk) : TR e (s.put dst d hp).t (a.put dst v).tmps := by
  cases dst with
  | none => exact h
  | some k =>
    simp only [St.put, Act.put]
    refine ⟨by simp [h.1], fun i hi hi' => ?_⟩
    simp only [List.length_set] at hi
    have hi2 : i < a.tmps.size := h.1 ▸ hi
    have e1 : (a.tmps.setIfInBounds k v)[i]'hi' = if k = i then v else a.tmps[i] := Array.getElem_setIfInBounds hi2
    rw [List.getElem_set, e1]
    split
    · exact hv
    · exact h.2 i _ _

/-! ### Inversions -/
section
variable {e : Env} {v : Value}
theorem vr_p {u : Value} (h : VR e (.p u) v) : v = u ∧ u.oneCell' = true := by cases h with | p h => exact ⟨rfl, h⟩
theorem vr_agg {cs : List DV} (h : VR e (.agg cs) v) : ∃ vs, v = .agg vs ∧ cs.length = vs.size ∧ (∀ i (hi : i < vs.size), vs[i].oneCell' = true) ∧ ∀ i (hi : i < cs.length) (hi' : i < vs.size), VR e cs[i] vs[i] := by
  cases h with | agg hl h1 h => exact ⟨_, rfl, hl, h1, h⟩
theorem vr_tup {cs : List DV} (h : VR e (.tup cs) v) : ∃ vs, v = .tuple vs ∧ cs.length = vs.size ∧ ∀ i (hi : i < cs.length) (hi' : i < vs.size), VR e cs[i] vs[i] := by
  cases h with | tup hl h => exact ⟨_, rfl, hl, h⟩
theorem vr_iface {t : TypeId} {d : DV} (h : VR e (.iface t d) v) : ∃ u, v = .iface t u ∧ VR e d u := by cases h with | iface h => exact ⟨_, rfl, h⟩
theorem vr_ptr {b i o x : Nat} (h : VR e (.ptr b i o x) v) {sz : Nat} (hk : e.key b = some (.c sz x)) : i < x ∧ ∃ q, e.ρ b = some q ∧ v = .pointer (some ⟨q.1, i * sz + o, none⟩) := by
  cases h with | ptr _ h _ => exact (h sz x hk).2 rfl
theorem vr_sl {b i n x : Nat} (h : VR e (.sl b i n x) v) {sz : Nat} (hk : e.key b = some (.c sz x)) :
    i + n ≤ x ∧ ((e.ρ b = none ∧ v = .slice none 0 0) ∨ ∃ q a cap, e.ρ b = some q ∧ v = .slice (some a) n cap ∧ n ≤ cap ∧ (i + cap) * sz ≤ q.2 ∧ (0 < cap → a = ⟨q.1, i * sz, none⟩)) := by
  cases h with | sl _ h _ => exact (h sz x hk).2 rfl
theorem vr_sa {g : Bool} {z b i o n c x : Nat} (h : VR e (.sa g z b i o n c x) v) {sz : Nat} (hk : e.key b = some (.c sz x)) :
    i < x ∧ ∃ q a, e.ρ b = some q ∧ v = .slice (some a) n c ∧ n ≤ c ∧ o + c * z ≤ sz ∧ (0 < c → a = ⟨q.1, i * sz + o, none⟩) := by
  cases h with | sa _ _ h _ => exact (h sz x hk).2 rfl
theorem vr_sa_g {g : Bool} {z b i o n c x : Nat} (h : VR e (.sa g z b i o n c x) v) : g = false → z = 1 := by cases h with | sa _ hg _ _ => exact hg
theorem vr_sa_n {g : Bool} {z b i o n c x : Nat} (h : VR e (.sa g z b i o n c x) v) : ∃ a, v = .slice a n c := by cases h with | sa _ _ _ h => exact h
theorem vr_sl_n {b i n x : Nat} (h : VR e (.sl b i n x) v) : ∃ a c, v = .slice a n c := by cases h with | sl _ _ h => exact h
theorem vr_fz_n {sz : Nat} {l : List DV} (h : VR e (.fz sz l) v) : ∃ a c, v = .slice a l.length c ∧ l.length ≤ c := by
  cases h with
  | fz0 => exact ⟨_, _, rfl, by simp⟩
  | fz _ _ hc => exact ⟨_, _, rfl, hc⟩
theorem vr_size {d : DV} (h : VR e d v) (hs : d.storable = true) : v.cells.size = d.size := by
  have h0 := h.one
  have key : v.oneCell' = true → v.cells.size = 1 := by intro ho; cases v <;> first | rfl | simp [Value.oneCell'] at ho
  cases h with
  | any => cases hs
  | tup => cases hs
  | agg hl => exact hl.symm
  | _ => exact key h0
theorem vr_cells {d : DV} (h : VR e d v) (hs : d.storable = true) : d.cells.length = v.cells.size ∧ ∀ i (hi : i < d.cells.length) (hi' : i < v.cells.size), VR e d.cells[i] v.cells[i] := by
  have h0 := h.one
  have key : v.oneCell' = true → d.cells = [d] → d.cells.length = v.cells.size ∧ ∀ i (hi : i < d.cells.length) (hi' : i < v.cells.size), VR e d.cells[i] v.cells[i] := by
    intro ho hd
    have hc : v.cells = #[v] := by cases v <;> first | rfl | simp [Value.oneCell'] at ho
    refine ⟨by rw [hd, hc]; rfl, fun i hi hi' => ?_⟩
    simp only [hd, hc] at hi hi' ⊢
    have : i = 0 := by simp at hi; exact hi
    subst this
    exact h
  cases h with
  | any => cases hs
  | tup => cases hs
  | agg hl h1 h => exact ⟨hl, h⟩
  | _ => exact key h0 rfl
end

theorem toList_beq (a b : ByteArray) : (a.toList == b.toList) = decide (a = b) := by
  rw [ByteArray.toList_eq, ByteArray.toList_eq, Bool.eq_iff_iff]
  simp only [beq_iff_eq, decide_eq_true_eq]
  constructor
  · intro h
    cases a; cases b
    simp only [ByteArray.mk.injEq]
    exact Array.toList_inj.1 h
  · rintro rfl; rfl

theorem data_beq (a b : ByteArray) : (a.data.toList == b.data.toList) = decide (a = b) := by
  rw [← toList_beq, ByteArray.toList_eq, ByteArray.toList_eq]

/-! ### Numbers, truths, texts -/
theorem run_equalIn_bool {P : Program} {t : TypeId} (h : P.underlying t = some .bool) (a b : Bool) (d : Nat) (w : World) : (Op.equalIn (d + 1) t (.bool a) (.bool b)).run P w = .ok (a == b) w := by
  unfold Op.equalIn
  simp only [Sem.run_bind, run_underlying h, Result.andThen_ok]
  rfl
theorem run_equal_bool {P : Program} {t : TypeId} (h : P.underlying t = some .bool) (a b : Bool) (w : World) : (Op.equal t (.bool a) (.bool b)).run P w = .ok (a == b) w :=
  run_equalIn_bool h a b 9999 w
theorem run_guard_int {P : Program} {op : BinOp} {xt : TypeId} {x y : Operand} {k : IntKind} {a : Int} {b : Value} (w : World) : (eqGuard op xt x y (.int k a) b).run P w = .ok () w := by
  cases op <;> rfl
theorem run_guard_str {P : Program} {op : BinOp} {xt : TypeId} {x y : Operand} {a : ByteArray} {b : Value} (w : World) : (eqGuard op xt x y (.string a) b).run P w = .ok () w := by
  cases op <;> rfl
theorem run_guard_bool {P : Program} {op : BinOp} {xt : TypeId} {x y : Operand} {a : Bool} {b : Value} (w : World) : (eqGuard op xt x y (.bool a) b).run P w = .ok () w := by
  cases op <;> rfl

theorem run_binK {P : Program} {op : BinOp} {xt : TypeId} {x y : Operand} {a b : Value} {K : Value → Prop} (w : World) (h : binK op a b K) :
    ∃ v, (do eqGuard op xt x y a b; binOp op xt a b : Sem Value).run P w = .ok v w ∧ v.oneCell' = true ∧ K v := by
  unfold binK at h
  split at h
  · rename_i k a k' b
    simp only [Sem.run_bind, run_guard_int, Result.andThen_ok]
    cases op <;> simp only at h
    case shl => exact ⟨_, by simp [binOp, Op.shift, show ¬ b < 0 by omega, ishl, ishr], rfl, h.2⟩
    case shr => exact ⟨_, by simp [binOp, Op.shift, show ¬ b < 0 by omega, ishl, ishr], rfl, h.2⟩
    case quo => obtain ⟨rfl, h0, h⟩ := h; exact ⟨_, by simp [binOp, Op.intDiv, h0], rfl, h⟩
    case rem => obtain ⟨rfl, h0, h⟩ := h; exact ⟨_, by simp [binOp, Op.intDiv, h0], rfl, h⟩
    all_goals
      obtain ⟨rfl, h⟩ := h
      exact ⟨_, by simp [binOp, Op.intArith, Op.intBits, Op.intCmp, iand, ior, ixor, iandn] <;> rfl, rfl, h⟩
  · rename_i a b
    simp only [Sem.run_bind, run_guard_str, Result.andThen_ok]
    cases op <;> simp only at h
    case add => exact ⟨_, by simp only [binOp, Op.stringOp, IntKind.max_i64]; rw [if_neg (by omega)]; rfl, rfl, h.2⟩
    all_goals exact ⟨_, by simp only [binOp, Op.stringOp, ByteArray.toList_eq, data_beq]; rfl, rfl, h⟩
  · exact h.elim

theorem run_unK {P : Program} {op : UnOp} {a : Value} {K : Value → Prop} (w : World) (h : unK op a K) : ∃ v, (Op.unary op a).run P w = .ok v w ∧ v.oneCell' = true ∧ K v := by
  unfold unK at h
  split at h
  · exact ⟨_, by simp [Op.unary, Op.intArith], rfl, h⟩
  · exact ⟨_, by simp [Op.unary, Op.intBits, inot] <;> rfl, rfl, h⟩
  · exact ⟨_, by simp [Op.unary], rfl, h⟩
  · exact h.elim

end Go.Den
