/- The library: contracts of functions over denoted values (O). -/
import Derived.Test.YtbbafeocmchlnaaDenN
set_option linter.unusedVariables false
set_option linter.unusedSimpArgs false
set_option linter.unusedSectionVars false
set_option linter.unnecessarySimpa false
namespace Go.Den
open Go

def isNilC : Operand → Bool
  | .const (.pointer none) | .const (.slice none 0 0) | .const (.map none) | .const .nilIface | .const .nilFunc => true
  | _ => false

/-- The same nil as the type's. -/
def nilOf : NK → Operand → Bool
  | .ptr, .const (.pointer none) | .sl, .const (.slice none 0 0) | .map, .const (.map none) | .iface, .const .nilIface | .fn, .const .nilFunc => true
  | _, _ => false

def nkOf (P : Program) (t : TypeId) : Option NK :=
  match P.underlying t with
  | some (.pointer _) => some .ptr
  | some (.slice _) => some .sl
  | some (.map _ _) => some .map
  | some (.interface _) => some .iface
  | some (.func _ _ _) => some .fn
  | _ => none

def cEq (P : Program) (neg : Bool) (t : TypeId) (x y : Operand) : Option DO :=
  match kindOf P t with
  | some .bool => some (.eqb neg (cOpd x) (cOpd y))
  | some _ => some (.bin (if neg then .neq else .eql) (cOpd x) (cOpd y))
  | none => match nkOf P t with
    | some k => if nilOf k y then some (.eqn neg k (cOpd x)) else if nilOf k x then some (.eqn neg k (cOpd y)) else if k = .iface then some (.eqi neg (cOpd x) (cOpd y)) else none
    | none => if P.eqGuardType P.depth t then none else (eqLay P 20 t).bind fun ks => if tyI P t = some (true, ks.length) ∧ isStruct P t = true then some (.eqs neg ks (cOpd x) (cOpd y)) else none

def isU8 (P : Program) (t : TypeId) : Bool := P.underlying t matches some (.int .u8)

def cConv (P : Program) (src dst : TypeId) (x : Operand) : Option DO :=
  match P.underlying src, P.underlying dst with
  | some _, some (.int k) => some (.cint k (cOpd x))
  | some .string, some (.slice el) => if isU8 P el then some (.s2b (cOpd x)) else none
  | some (.slice el), some .string => if isU8 P el then some (.b2s (cOpd x)) else none
  | some (.int _), some .string => some (.cstr (cOpd x))
  | some .string, some .string => some (.cstr (cOpd x))
  | _, _ => none

def cCall (P : Program) (c : Call) : Option DO :=
  match c.callee with
  | .builtin .len => match c.argTypes.toList, c.args.toList with
    | [t], [x] => match P.underlying t with
      | some .string => some (.lens (cOpd x))
      | some (.slice _) => some (.lenl (cOpd x))
      | some (.map _ _) => some (.lenm (cOpd x))
      | _ => none
    | _, _ => none
  | .builtin .append => match c.argTypes.toList, c.args.toList with
    | [t, t2], [x, y] => match P.underlying t, P.underlying t2 with
      | some (.slice el), some (.slice _) | some (.slice el), some .string => match P.info? el with
        | some i => match i.zero with
          | some z => if z.cells.size = i.size ∧ 0 < i.bytes then some (.app i.size i.bytes (cOpd x) (cOpd y)) else none
          | none => none
        | none => none
      | _, _ => none
    | _, _ => none
  | .builtin .min => match c.args.toList with
    | [x, y] => some (.mm false (cOpd x) (cOpd y))
    | _ => none
  | .builtin .max => match c.args.toList with
    | [x, y] => some (.mm true (cOpd x) (cOpd y))
    | _ => none
  | .builtin .cap => match c.argTypes.toList, c.args.toList with
    | [t], [x] => match P.underlying t with
      | some (.slice _) => some (.capl (cOpd x))
      | _ => none
    | _, _ => none
  | .builtin .copy => match c.argTypes.toList, c.args.toList with
    | [t, _], [x, y] => match P.underlying t with
      | some (.slice el) => (tyI P el).map fun g => .cpy g.2 (cOpd x) (cOpd y)
      | _ => none
    | _, _ => none
  | .value (.func f) => if cFunc P f then some (.call f (c.args.toList.map cOpd)) else none
  | .value (.tmp n) => some (.callv false (.t n) (c.args.toList.map cOpd))
  | .invoke x name => some (.inv false name (cOpd x) (c.args.toList.map cOpd))
  | _ => none

def isIfT (P : Program) (t : TypeId) : Bool := P.underlying t matches some (.interface _)

/-- AN OPERATION, MADE SMALL. -/
def cOp (P : Program) (o : Oper) : Option DO :=
  match o.op with
  | .move x | .assign x => some (.mov (cOpd x))
  | .pick c a b => some (.pick (cOpd c) (cOpd a) (cOpd b))
  | .binOp op t x y _ => match op with
    | .eql => cEq P false t x y
    | .neq => cEq P true t x y
    | op => some (.bin op (cOpd x) (cOpd y))
  | .unOp op _ x => some (.un op (cOpd x))
  | .convert src dst x => cConv P src dst x
  | .slice t x lo hi none => match P.underlying t with
    | some .string => some (.slcs (cOpd x) (lo.map cOpd) (hi.map cOpd))
    | some (.slice el) => (tyI P el).map fun g => .slcl g.2 (cOpd x) (lo.map cOpd) (hi.map cOpd)
    | some (.array n el) => (tyI P el).bind fun g => if g.1 = true ∨ g.2 = 1 then some (.slca n g.2 g.1 (cOpd x) (lo.map cOpd) (hi.map cOpd)) else none
    | some (.pointer arr) => match P.underlying arr with
      | some (.array n el) => (tyI P el).bind fun g => if g.1 = true ∨ g.2 = 1 then some (.slca n g.2 g.1 (cOpd x) (lo.map cOpd) (hi.map cOpd)) else none
      | _ => none
    | _ => none
  | .index t x i => match P.underlying t with
    | some .string => some (.idxs (cOpd x) (cOpd i))
    | some (.array n el) => (tyI P el).bind fun g => if g.1 = true ∨ g.2 = 1 then some (.idxa n g.2 g.1 (cOpd x) (cOpd i)) else none
    | _ => none
  | .field t x f => match P.underlying t with
    | some (.struct fs) => match fs[f]? with
      | some fd => (tyI P fd.type).bind fun g => if g.1 = true ∨ g.2 = 1 then some (.fld fd.offset g.2 g.1 (cOpd x)) else none
      | none => none
    | _ => none
  | .build t parts => match builtOf P t with
    | some (z, place) => if z.all Value.oneCell' = true then (parts.toList.mapM (fun p => (place p.1).map fun q => (q.1, q.2, cOpd p.2))).map fun dp => .bld (z.toList.map .p) dp else none
    | none => none
  | .buildSlice t n parts => match P.underlying t with
    | some (.slice el) => match P.info? el with
      | some i => if i.zero.isSome = true ∧ n * i.size ≤ 16777216 ∧ consec 0 parts.toList = true ∧ parts.size = n then some (.lit i.size (parts.toList.map fun p => cOpd p.2)) else none
      | none => none
    | _ => none
  | .alloc t => match P.info? t with
    | some i => match i.zero with
      | some z => if (ofV z).storable = true then some (.alloc (ofV z).size (ofV z)) else none
      | none => none
    | none => none
  | .box t x => some (.box (cOpd x))
  | .load t a => (tyI P t).bind fun g => if g.1 = true ∨ g.2 = 1 then some (.load g.1 g.2 (cOpd a)) else none
  | .store t a x => (tyI P t).map fun g => .store g.2 (cOpd a) (cOpd x)
  | .nilCheck x => some (.nilchk (if isIfT P o.type then .iface else .ptr) (cOpd x))
  | .fieldAddr t a f => match P.underlying t with
    | some (.struct fs) => match fs[f]? with
      | some fd => (tyI P fd.type).bind fun g => if (g.1 = true ∨ g.2 = 1) ∧ 0 < g.2 then some (.faddr g.1 fd.offset g.2 (cOpd a)) else none
      | none => none
    | _ => none
  | .indexAddr t x i => match P.underlying t with
    | some (.slice el) => (tyI P el).map fun g => .iaddr g.2 (cOpd x) (cOpd i)
    | some (.array n el) => (tyI P el).bind fun g => if (g.1 = true ∨ g.2 = 1) ∧ 0 < g.2 then some (.iaddra n g.2 g.1 (cOpd x) (cOpd i)) else none
    | _ => none
  | .extract t i => some (.ext (cOpd t) i)
  | .makeInterface t x => if P.concrete t then some (.ifc t (cOpd x)) else none
  | .range t x => match P.underlying t with
    | some .string => some (.rngs (cOpd x))
    | some (.map _ _) => some (.rngm (cOpd x))
    | _ => none
  | .next x s => some (if s = true then .nxts (cOpd x) else .nxtm (cOpd x))
  | .entry x => some (.ent (cOpd x))
  | .makeMap _ none => some .mkmap
  | .mapUpdate t m k x => match P.underlying t with
    | some (.map kt _) => (kindOf P kt).map fun ck => .mupd ck (cOpd m) (cOpd k) (cOpd x)
    | _ => none
  | .lookup t m k ok => match P.underlying t with
    | some (.map kt et) => match kindOf P kt, P.info? et with
      | some ck, some i => match i.zero with
        | some z => some (.look ck (ofV z) ok (cOpd m) (cOpd k))
        | none => none
      | _, _ => none
    | _ => none
  | .call c => cCall P c
  | .makeSlice t n c => match P.underlying t with
    | some (.slice el) => match P.info? el, tyI P el with
      | some i, some (g, sz) => match i.zero with
        | some z => if z.cells.size = i.size ∧ 0 < i.bytes ∧ (ofV z).storable = true ∧ sz = i.size then some (.mks g i.size i.bytes (ofV z) (cOpd n) (cOpd c)) else none
        | none => none
      | _, _ => none
    | _ => none
  | .typeAssert x _ t ok => match P.underlying t, P.info? t with
    | some (.interface _), some i => match i.zero with
      | some .nilIface => some (.tai t ok (cOpd x))
      | _ => none
    | some _, some i => match i.zero with
      | some z => some (.tas t (ofV z) ok (cOpd x))
      | none => none
    | _, _ => none
  | .makeFunc f first cap => some (.mkf f (first.toList.map cOpd) (cap.toList.map cOpd))
  | _ => none

section
variable {P : Program} {G : Nat → DV} {e : Env} {w : World} {K : DV → List Blk → Prop}

theorem g_one {g : Bool × Nat} (h : g.1 = true ∨ g.2 = 1) : g.1 = false → g.2 = 1 := fun h1 => h.resolve_left (by rw [h1]; simp)

theorem y_mov {v : Value} {d : DV} (hH : e.H = w.heap) (hr : HR e) (hv : VR e d v) (hk : K d e.h) : Yields P (pure (.value v)) w (After e w K) := y_pure rfl hH hr hv hk

theorem y_call {f : FuncId} {ty : TypeId} (hf : cFunc P f = true) (args : Array Operand) {a : Act} {t : List DV} (hg : GR e G) (ht : TR e t a.tmps) (hH : e.H = w.heap) (hr : HR e)
    (h : ∃ R, OkR P G f (((args.toList.map cOpd)).map (Opd.ev G t)) e.h R ∧ ∀ v h', R v h' → K v h') :
    Yields P (do let d ← resolve a.eval { callee := .value (.func f), args, argTypes := (#[] : Array TypeId) } ty; invoke d.target d.args) w (After e w K) := by
  obtain ⟨R, hok, hk⟩ := h
  have hc := hok e w (args.map a.eval) rfl hH hr hg (by
    have := tr_map hg ht args.toList
    simpa [← Array.toList_map] using this)
  unfold cFunc at hf
  split at hf
  · rename_i fn hfn
    simp only [Bool.and_eq_true, Bool.not_eq_true', beq_eq_false_iff_ne] at hf
    have hrun : (do let d ← resolve a.eval { callee := .value (.func f), args, argTypes := (#[] : Array TypeId) } ty; invoke d.target d.args : Sem Next).run P w = .ok (.enter f (args.map a.eval)) w := by
      simp only [resolve, Act.eval, Deferred.ofValue, invoke, callFunc, Sem.run_bind, Sem.run_pure, Result.andThen_ok, run_program, hfn]
      have h2 : fn.body.isNone = false := by simp [Option.isNone_iff_eq_none, ← Option.isSome_iff_ne_none, hf.1]
      rw [if_neg (by simpa using hf.2), if_neg (by rw [h2]; simp)]
      simp
    unfold Yields
    rw [hrun]
    exact hc.mono fun en w' ⟨v', e', v, h', h1, h2, h3, h4, h5, h6, h7, h8⟩ => ⟨v', h1, e', v, h2, h4, h5, h7, h6, by rw [h3]; exact hk v h' h8⟩
  · cases hf


theorem y_fn {f : FuncId} (hf : cFunc P f = true) {vs : Array Value} {ds : List DV} (hd : TR e ds vs) (hg : GR e G) (hH : e.H = w.heap) (hr : HR e) {x : Sem Next} (hx : x.run P w = (callFunc f vs).run P w)
    (h : ∃ R, OkR P G f ds e.h R ∧ ∀ v h', R v h' → K v h') : Yields P x w (After e w K) := by
  obtain ⟨R, hok, hk⟩ := h
  have hc := hok e w vs rfl hH hr hg hd
  unfold cFunc at hf
  split at hf
  · rename_i fn hfn
    simp only [Bool.and_eq_true, Bool.not_eq_true', beq_eq_false_iff_ne] at hf
    have hrun : (callFunc f vs).run P w = .ok (.enter f vs) w := by
      simp only [callFunc, Sem.run_bind, Sem.run_pure, Result.andThen_ok, run_program, hfn]
      have h2 : fn.body.isNone = false := by simp [Option.isNone_iff_eq_none, ← Option.isSome_iff_ne_none, hf.1]
      rw [if_neg (by simpa using hf.2), if_neg (by rw [h2]; simp)]
      simp
    unfold Yields
    rw [hx, hrun]
    exact hc.mono fun en w' ⟨v', e', v, h', h1, h2, h3, h4, h5, h6, h7, h8⟩ => ⟨v', h1, e', v, h2, h4, h5, h7, h6, by rw [h3]; exact hk v h' h8⟩
  · cases hf
theorem TR.app {a b : List DV} {x y : Array Value} (h : TR e a x) (h' : TR e b y) : TR e (a ++ b) (x ++ y) := by
  refine ⟨by simp [h.1, h'.1], fun i hi hi' => ?_⟩
  by_cases hia : i < a.length
  · rw [List.getElem_append_left hia, Array.getElem_append_left (h.1 ▸ hia)]
    exact h.2 i hia _
  · have hn : x.size ≤ i := by rw [← h.1]; omega
    rw [List.getElem_append_right (by omega), Array.getElem_append_right hn]
    have := h'.2 (i - a.length) (by simp at hi; omega) (by rw [h.1]; simp at hi'; omega)
    simpa only [h.1] using this
theorem run_method {t : TypeId} {name : String} {f : FuncId} (hm : methOf P t name = some f) (v : Value) (n : Nat) : (method (n + 1) t v name).run P w = .ok (f, v) w := by
  unfold methOf at hm
  split at hm
  · rename_i i hi
    split at hm
    · rename_i m hfd
      split at hm
      · rename_i f' pr d hpe hfn hu
        split at hm
        · rename_i hpr
          cases hm
          have hpath : m.path.toList = [] := by simpa using hpe
          simp only [method, typeInfo, Sem.run_bind, run_program, Result.andThen_ok, hi, Sem.run_pure, hfd, hpath, follow, hfn, hpe, if_true, receiverAt, run_underlying hu]
          subst hpr
          cases d <;> simp [isPtrDesc, Place.get]
        · cases hm
      · cases hm
    · cases hm
  · cases hm
end
end Go.Den
