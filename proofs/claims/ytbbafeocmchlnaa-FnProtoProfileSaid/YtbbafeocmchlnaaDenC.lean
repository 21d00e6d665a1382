/- The library: contracts of functions over denoted values (C). -/
import Derived.Test.YtbbafeocmchlnaaDenB
import GoSem.Core.Utf8
import GoSem.Instr.TypeAssert
set_option linter.unusedVariables false
set_option linter.unusedSimpArgs false
set_option linter.unusedSectionVars false
set_option linter.unnecessarySimpa false
namespace Go.Den
open Go

/-- The world's other parts are as they were. -/
structure WS (w w' : World) : Prop where
  os : w'.os = w.os
  tape : w'.tape = w.tape
  output : w'.output = w.output
theorem WS.refl (w : World) : WS w w := ⟨rfl, rfl, rfl⟩
theorem WS.trans {a b c : World} (h : WS a b) (h' : WS b c) : WS a c := ⟨h'.os.trans h.os, h'.tape.trans h.tape, h'.output.trans h.output⟩

def GR (e : Env) (G : Nat → DV) : Prop := ∀ g, VR e (G g) (.pointer (some ⟨g, 0, none⟩))
def TR (e : Env) (t : List DV) (vs : Array Value) : Prop := t.length = vs.size ∧ ∀ i (hi : i < t.length) (hi' : i < vs.size), VR e t[i] vs[i]

/-- THE CONTRACT: called at related values, the function returns what is related. -/
def Ok (P : Program) (G : Nat → DV) (f : FuncId) (args : List DV) (h : List Blk) (v : DV) (h' : List Blk) : Prop :=
  ∀ (e : Env) (w : World) (vs : Array Value), e.h = h → e.H = w.heap → HR e → GR e G → TR e args vs →
    Calls P f vs w fun en w' => ∃ v' e', en = .returned v' ∧ e'.H = w'.heap ∧ e'.h = h' ∧ WS w w' ∧ HR e' ∧ VR e' v v' ∧ Ev e.h.length e e'

/-- The same, where more than one outcome is possible. -/
def OkR (P : Program) (G : Nat → DV) (f : FuncId) (args : List DV) (h : List Blk) (R : DV → List Blk → Prop) : Prop :=
  ∀ (e : Env) (w : World) (vs : Array Value), e.h = h → e.H = w.heap → HR e → GR e G → TR e args vs →
    Calls P f vs w fun en w' => ∃ v' e' v h', en = .returned v' ∧ e'.H = w'.heap ∧ e'.h = h' ∧ WS w w' ∧ HR e' ∧ VR e' v v' ∧ Ev e.h.length e e' ∧ R v h'
theorem Ok.toR {P : Program} {G : Nat → DV} {f : FuncId} {args : List DV} {h : List Blk} {v : DV} {h' : List Blk} (hf : Ok P G f args h v h') : OkR P G f args h fun v1 h1 => v1 = v ∧ h1 = h' :=
  fun e w vs he hH hr hg ht => (hf e w vs he hH hr hg ht).mono fun en w' ⟨v', e', h1, h2, h3, h4, h5, h6, h7⟩ => ⟨v', e', v, h', h1, h2, h3, h4, h5, h6, h7, rfl, rfl⟩

inductive Opd where
  | t (n : Nat)
  | c (v : DV)
  | g (n : Nat)
  deriving Inhabited

def Opd.ev (G : Nat → DV) (t : List DV) : Opd → DV
  | .t n => t.getD n .any
  | .c v => v
  | .g n => G n

inductive NK where
  | ptr | sl | map | iface | fn
  deriving DecidableEq

/-- The kinds of cells that are compared. -/
inductive CK where
  | int | bool | str
  deriving DecidableEq

inductive DO where
  | mov (x : Opd)
  | pick (c a b : Opd)
  | bin (op : BinOp) (x y : Opd)
  | eqb (neg : Bool) (x y : Opd)
  | eqn (neg : Bool) (k : NK) (x : Opd)
  | eqi (neg : Bool) (x y : Opd)
  | eqs (neg : Bool) (ks : List CK) (x y : Opd)
  | un (op : UnOp) (x : Opd)
  | cint (k : IntKind) (x : Opd)
  | cstr (x : Opd)
  | b2s (x : Opd)
  | s2b (x : Opd)
  | lens (x : Opd)
  | lenl (x : Opd)
  | lenm (x : Opd)
  | mm (mx : Bool) (x y : Opd)
  | slcs (x : Opd) (lo hi : Option Opd)
  | slcl (sz : Nat) (x : Opd) (lo hi : Option Opd)
  | slca (n sz : Nat) (g : Bool) (x : Opd) (lo hi : Option Opd)
  | idxs (x i : Opd)
  | idxa (n sz : Nat) (g : Bool) (x i : Opd)
  | fld (o sz : Nat) (g : Bool) (x : Opd)
  | bld (zero : List DV) (parts : List (Nat × Nat × Opd))
  | lit (sz : Nat) (els : List Opd)
  | litz (sz : Nat) (els : List Opd)
  | alloc (sz : Nat) (zero : DV)
  | box (x : Opd)
  | load (g : Bool) (sz : Nat) (a : Opd)
  | store (sz : Nat) (a x : Opd)
  | nilchk (k : NK) (x : Opd)
  | faddr (g : Bool) (o sz : Nat) (a : Opd)
  | iaddr (sz : Nat) (x i : Opd)
  | iaddra (n sz : Nat) (g : Bool) (x i : Opd)
  | app (sz bytes : Nat) (x y : Opd)
  | ext (x : Opd) (i : Nat)
  | ifc (t : TypeId) (x : Opd)
  | rngs (x : Opd)
  | nxts (a : Opd)
  | mkmap
  | rngm (x : Opd)
  | nxtm (a : Opd)
  | ent (a : Opd)
  | mupd (ck : CK) (m k x : Opd)
  | look (ck : CK) (zero : DV) (ok : Bool) (m k : Opd)
  | mdel (ck : CK) (m k : Opd)
  | call (f : FuncId) (args : List Opd)
  | callr (f : FuncId) (args : List Opd)
  | stop
  | capl (x : Opd)
  | mks (g : Bool) (sz bytes : Nat) (zero : DV) (n c : Opd)
  | cpy (sz : Nat) (x y : Opd)
  | tas (t : TypeId) (zero : DV) (ok : Bool) (x : Opd)
  | tai (u : TypeId) (ok : Bool) (x : Opd)
  | mkf (f : Fn) (first cap : List Opd)
  | callv (rel : Bool) (x : Opd) (args : List Opd)
  | inv (rel : Bool) (name : String) (x : Opd) (args : List Opd)
  deriving Inhabited

def DV.size : DV → Nat
  | .agg cs => cs.length
  | .any | .tup _ => 0
  | _ => 1

def DV.cells : DV → List DV
  | .agg cs => cs
  | d => [d]

/-- Cells o .. o+sz of a value, as a value. -/
def sub (d : DV) (o sz : Nat) : Bool → DV
  | true => match d with
    | .agg cs => .agg ((cs.drop o).take sz)
    | _ => .any
  | false => match d with
    | .agg cs => cs.getD o .any
    | .any => .any
    | .tup _ => .any
    | d => d

/-- A value with other cells from o on. -/
def put (d : DV) (o : Nat) (x : DV) (sz : Nat) : DV :=
  match d with
  | .agg cs => .agg (cs.take o ++ x.cells ++ cs.drop (o + sz))
  | .any => .any
  | _ => x

def byteD (b : UInt8) : DV := .p (.int .u8 b.toNat)
def bytesD (s : ByteArray) : List DV := s.data.toList.map byteD
def toByte : DV → UInt8
  | .p (.int _ n) => UInt8.ofNat n.toNat
  | _ => 0
def isByte : DV → Bool
  | .p (.int .u8 n) => 0 ≤ n && n < 256
  | _ => false
def strOf (l : List DV) : ByteArray := ⟨(l.map toByte).toArray⟩

/-- Is a value of this kind nil? -/
def isNilD (h : List Blk) : NK → DV → Option Bool
  | .ptr, .p (.pointer none) => some true
  | .ptr, .ptr b _ _ x => match h[b]? with
    | some (.cells _ els) => if x = els.length then some false else none
    | _ => none
  | .ptr, .fp _ => some false
  | .sl, .p (.slice none _ _) => some true
  | .sl, .sl b _ n x => match h[b]? with
    | some (.cells _ els) => if x = els.length ∧ 0 < n then some false else none
    | _ => none
  | .sl, .sa _ _ b _ _ _ _ x => match h[b]? with
    | some (.cells _ els) => if x = els.length then some false else none
    | _ => none
  | .sl, .fz _ l => if l.isEmpty then none else some false
  | .map, .p (.map none) => some true
  | .map, .mp b => match h[b]? with
    | some (.map _) => some false
    | _ => none
  | .iface, .p .nilIface => some true
  | .iface, .iface .. => some false
  | .fn, .p .nilFunc => some true
  | .fn, .fn .. => some false
  | _, _ => none

def cFunc (P : Program) (f : FuncId) : Bool :=
  match P.funcs[f]? with
  | some fn => fn.body.isSome && !(fn.name == "runtime.NumGoroutine")
  | none => false

/-- A type of numbers, truths or texts. -/
def kindOf (P : Program) (t : TypeId) : Option CK :=
  match P.underlying t with
  | some .bool => some .bool
  | some (.int _) => some .int
  | some .string => some .str
  | _ => none
/-- May two values of this type behind an interface be compared? -/
def cmpOf (P : Program) (t : TypeId) : Option CK := if ((P.info? t).any fun i => i.comparable) then kindOf P t else none

/-- Numbers, truths, texts. -/
def iand (k : IntKind) (a b : Int) : Int := k.wrap (BitVec.ofInt k.bits a &&& BitVec.ofInt k.bits b).toNat
def ior (k : IntKind) (a b : Int) : Int := k.wrap (BitVec.ofInt k.bits a ||| BitVec.ofInt k.bits b).toNat
def ixor (k : IntKind) (a b : Int) : Int := k.wrap (BitVec.ofInt k.bits a ^^^ BitVec.ofInt k.bits b).toNat
def iandn (k : IntKind) (a b : Int) : Int := k.wrap (BitVec.ofInt k.bits a &&& ~~~ BitVec.ofInt k.bits b).toNat
def ishl (k : IntKind) (a b : Int) : Int := k.wrap (a * 2 ^ min b.toNat k.bits)
def ishr (k : IntKind) (a b : Int) : Int := a.fdiv (2 ^ min b.toNat k.bits)
def inot (k : IntKind) (n : Int) : Int := k.wrap (BitVec.ofInt k.bits (if k.signed then -1 else k.max) ^^^ BitVec.ofInt k.bits n).toNat

def binK (op : BinOp) (x y : Value) (K : Value → Prop) : Prop :=
  match x, y with
  | .int k a, .int k' b =>
    match op with
    | .shl => 0 ≤ b ∧ K (.int k (ishl k a b))
    | .shr => 0 ≤ b ∧ K (.int k (ishr k a b))
    | .add => k = k' ∧ K (.int k (k.wrap (a + b)))
    | .sub => k = k' ∧ K (.int k (k.wrap (a - b)))
    | .mul => k = k' ∧ K (.int k (k.wrap (a * b)))
    | .quo => k = k' ∧ b ≠ 0 ∧ K (.int k (k.wrap (a.tdiv b)))
    | .rem => k = k' ∧ b ≠ 0 ∧ K (.int k (a.tmod b))
    | .and => k = k' ∧ K (.int k (iand k a b))
    | .or => k = k' ∧ K (.int k (ior k a b))
    | .xor => k = k' ∧ K (.int k (ixor k a b))
    | .andNot => k = k' ∧ K (.int k (iandn k a b))
    | .eql => k = k' ∧ K (.bool (a == b))
    | .neq => k = k' ∧ K (.bool (a != b))
    | .lss => k = k' ∧ K (.bool (decide (a < b)))
    | .leq => k = k' ∧ K (.bool (decide (a ≤ b)))
    | .gtr => k = k' ∧ K (.bool (decide (b < a)))
    | .geq => k = k' ∧ K (.bool (decide (b ≤ a)))
  | .string a, .string b =>
    match op with
    | .add => ((a.size + b.size : Nat) : Int) ≤ 9223372036854775807 ∧ K (.string (a ++ b))
    | .eql => K (.bool (decide (a = b)))
    | .neq => K (.bool (!decide (a = b)))
    | .lss => K (.bool (Op.bytesLess a.data.toList b.data.toList))
    | .leq => K (.bool (Op.bytesLess a.data.toList b.data.toList || decide (a = b)))
    | .gtr => K (.bool (!(Op.bytesLess a.data.toList b.data.toList || decide (a = b))))
    | .geq => K (.bool (!(Op.bytesLess a.data.toList b.data.toList)))
    | _ => False
  | _, _ => False

def unK (op : UnOp) (x : Value) (K : Value → Prop) : Prop :=
  match op, x with
  | .neg, .int k n => K (.int k (k.wrap (0 - n)))
  | .xor, .int k n => K (.int k (inot k n))
  | .not, .bool b => K (.bool (!b))
  | _, _ => False

/-- Equality of two values of single cells: numbers, truths, texts. -/
def cellEq : CK → DV → DV → Option Bool
  | .int, .p (.int k a), .p (.int k' b) => if k = k' then some (a == b) else none
  | .bool, .p (.bool a), .p (.bool b) => some (a == b)
  | .str, .p (.string a), .p (.string b) => some (decide (a = b))
  | _, _, _ => none
def cellsEq : List CK → List DV → List DV → Option Bool
  | [], [], [] => some true
  | k :: ks, x :: xs, y :: ys => match cellEq k x y, cellsEq ks xs ys with
    | some a, some b => some (a && b)
    | _, _ => none
  | _, _, _ => none

/-- A slice's elements. -/
def elemsOf (h : List Blk) (sz : Nat) : DV → Option (List DV)
  | .p (.slice none 0 0) => some []
  | .p (.string s) => if sz = 1 then some (bytesD s) else none
  | .fz sz' l => if sz' = sz then some l else none
  | .sl b i n x => match h[b]? with
    | some (.cells bsz els) => if x = els.length ∧ bsz = sz then some ((els.drop i).take n) else none
    | _ => none
  | .sa g z b i o n c x => match h[b]? with
    | some (.cells bsz els) => if x = els.length ∧ z = sz then some ((List.range n).map fun j => sub (els.getD i .any) (o + j * z) z g) else none
    | _ => none
  | _ => none

def sliceOf (h : List Blk) (sz : Nat) : DV → Option (List DV)
  | .p (.string _) => none
  | d => elemsOf h sz d

/-- Are two keys the same? -/
def keyEq : CK → Value → Value → Option Bool
  | .int, .int k a, .int k' b => if k = k' then some (a == b) else none
  | .bool, .bool a, .bool b => some (a == b)
  | .str, .string a, .string b => some (decide (a = b))
  | _, _, _ => none
/-- Where a key stands in a map, if it does. -/
def mfind (ck : CK) (k : Value) : List (Value × DV) → Nat → Option (Option Nat)
  | [], _ => some none
  | e :: es, i => match keyEq ck k e.1 with
    | some true => some (some i)
    | some false => mfind ck k es (i + 1)
    | none => none
/-- No iterator runs over this map. -/
def noIter (h : List Blk) (b : Nat) : Prop := ∀ (c : Nat) (l : Lf), h[c]? = some (Blk.mit (some b) l) → False
/-- A map's entries, this key's value another one. -/
def mput (es : List (Value × DV)) (k : Value) (v : DV) : Option Nat → List (Value × DV)
  | some i => es.set i (k, v)
  | none => es ++ [(k, v)]
def mres (ok : Bool) (v : DV) (b : Bool) : DV := if ok = true then .tup [v, .p (.bool b)] else v
/-- A value of one cell, not a structure. -/
def DV.one : DV → Bool
  | .agg _ | .any | .tup _ => false
  | _ => true
def isPtrDesc : TypeDesc → Bool
  | .pointer _ => true
  | _ => false
/-- The function of a method of a type, where the receiver is the value itself. -/
def methOf (P : Program) (t : TypeId) (name : String) : Option FuncId :=
  match P.info? t with
  | some i => match i.methods.find? (·.name == name) with
    | some m => match m.path.isEmpty, m.func, P.underlying t with
      | true, some (f, pr), some d => if pr = isPtrDesc d then some f else none
      | _, _, _ => none
    | none => none
  | none => none
/-- Has a type the methods of an interface? -/
def hasM (P : Program) (u t : TypeId) : Option Bool :=
  match P.underlying u, P.info? t with
  | some (.interface want), some i => some (Instr.missingMethod want i.methods).isNone
  | _, _ => none

/-- WHAT AN OPERATION ASKS, and what it leaves. -/
def vcO (P : Program) (G : Nat → DV) (o : DO) (ev : Opd → DV) (h : List Blk) (K : DV → List Blk → Prop) : Prop :=
  match o with
  | .mov x => K (ev x) h
  | .pick c a b => match ev c with
    | .p (.bool t) => if t = true then K (ev a) h else K (ev b) h
    | _ => False
  | .bin op x y => match ev x, ev y with
    | .p a, .p b => binK op a b fun v => K (.p v) h
    | _, _ => False
  | .eqb neg x y => match ev x, ev y with
    | .p (.bool a), .p (.bool b) => K (.p (.bool ((a == b) != neg))) h
    | _, _ => False
  | .eqn neg k x => match isNilD h k (ev x) with
    | some b => K (.p (.bool (b != neg))) h
    | none => False
  | .eqi neg x y => match ev x, ev y with
    | .iface t a, .iface u b => if t = u then (match cmpOf P t with | some k => (match cellEq k a b with | some r => K (.p (.bool (r != neg))) h | none => False) | none => False) else K (.p (.bool neg)) h
    | .p .nilIface, .iface _ _ => K (.p (.bool neg)) h
    | .iface _ _, .p .nilIface => K (.p (.bool neg)) h
    | _, _ => False
  | .eqs neg ks x y => match ev x, ev y with
    | .agg xs, .agg ys => match cellsEq ks xs ys with
      | some r => K (.p (.bool (r != neg))) h
      | none => False
    | _, _ => False
  | .un op x => match ev x with
    | .p a => unK op a fun v => K (.p v) h
    | _ => False
  | .cint k x => match ev x with
    | .p (.int _ n) => K (.p (.int k (k.wrap n))) h
    | _ => False
  | .cstr x => match ev x with
    | .p (.int _ n) => K (.p (.string (Utf8.encode n))) h
    | .p (.string s) => K (.p (.string s)) h
    | _ => False
  | .b2s x => match sliceOf h 1 (ev x) with
    | some l => (∀ d, d ∈ l → isByte d = true) ∧ K (.p (.string (strOf l))) h
    | none => False
  | .s2b x => match ev x with
    | .p (.string s) => K (.sl h.length 0 s.size s.size) (h ++ [.cells 1 (bytesD s)])
    | _ => False
  | .lens x => match ev x with
    | .p (.string s) => K (.p (.int .i64 s.size)) h
    | _ => False
  | .lenl x => match ev x with
    | .p (.slice none 0 0) => K (.p (.int .i64 0)) h
    | .fz _ l => K (.p (.int .i64 l.length)) h
    | .sl _ _ n _ => K (.p (.int .i64 n)) h
    | .sa _ _ _ _ _ n _ _ => K (.p (.int .i64 n)) h
    | _ => False
  | .lenm x => match ev x with
    | .p (.map none) => K (.p (.int .i64 0)) h
    | .mp b => match h[b]? with
      | some (.map es) => K (.p (.int .i64 es.length)) h
      | _ => False
    | _ => False
  | .mm mx x y => match ev x, ev y with
    | .p (.int k a), .p (.int _ b) => K (.p (.int k (if mx then (if a < b then b else a) else (if b < a then b else a)))) h
    | _, _ => False
  | .slcs x lo hi =>
    match ev x with
    | .p (.string s) =>
      match lo.elim (DV.p (.int .i64 0)) ev, hi.elim (DV.p (.int .i64 s.size)) ev with
      | .p (.int _ l), .p (.int _ r) => 0 ≤ l ∧ l ≤ r ∧ r ≤ s.size ∧ K (.p (.string (s.extract l.toNat r.toNat))) h
      | _, _ => False
    | _ => False
  | .slcl sz x lo hi =>
    match ev x with
    | .fz sz' xs =>
      match lo.elim (DV.p (.int .i64 0)) ev, hi.elim (DV.p (.int .i64 xs.length)) ev with
      | .p (.int _ l), .p (.int _ r) => sz' = sz ∧ 0 ≤ l ∧ l ≤ r ∧ r ≤ xs.length ∧ K (.fz sz ((xs.drop l.toNat).take (r.toNat - l.toNat))) h
      | _, _ => False
    | .sl b i n x =>
      match lo.elim (DV.p (.int .i64 0)) ev, hi.elim (DV.p (.int .i64 n)) ev with
      | .p (.int _ l), .p (.int _ r) => (match h[b]? with | some (.cells bsz els) => x = els.length ∧ bsz = sz | _ => False) ∧ 0 ≤ l ∧ l ≤ r ∧ r ≤ n ∧ K (.sl b (i + l.toNat) (r.toNat - l.toNat) x) h
      | _, _ => False
    | .p (.slice none 0 0) =>
      match lo.elim (DV.p (.int .i64 0)) ev, hi.elim (DV.p (.int .i64 0)) ev with
      | .p (.int _ l), .p (.int _ r) => l = 0 ∧ r = 0 ∧ K (.p (.slice none 0 0)) h
      | _, _ => False
    | .sa g z b i o n c x =>
      match lo.elim (DV.p (.int .i64 0)) ev, hi.elim (DV.p (.int .i64 n)) ev with
      | .p (.int _ l), .p (.int _ r) => (match h[b]? with | some (.cells _ els) => x = els.length ∧ z = sz | _ => False) ∧ 0 ≤ l ∧ l ≤ r ∧ r ≤ c ∧ K (.sa g z b i (o + l.toNat * z) (r.toNat - l.toNat) (c - l.toNat) x) h
      | _, _ => False
    | _ => False
  | .slca m z g x lo hi =>
    match ev x with
    | .ptr b i o y =>
      match lo.elim (DV.p (.int .i64 0)) ev, hi.elim (DV.p (.int .i64 m)) ev with
      | .p (.int _ l), .p (.int _ r) => (match h[b]? with | some (.cells bsz els) => y = els.length ∧ o + m * z ≤ bsz | _ => False) ∧ 0 ≤ l ∧ l ≤ r ∧ r ≤ m ∧ K (.sa g z b i (o + l.toNat * z) (r.toNat - l.toNat) (m - l.toNat) y) h
      | _, _ => False
    | _ => False
  | .idxs x i => match ev x, ev i with
    | .p (.string s), .p (.int _ j) => 0 ≤ j ∧ j < s.size ∧ K (byteD (s.data.toList.getD j.toNat 0)) h
    | _, _ => False
  | .idxa n sz g x i => match ev x, ev i with
    | .agg cs, .p (.int _ j) => 0 ≤ j ∧ j < n ∧ cs.length = n * sz ∧ K (sub (.agg cs) (j.toNat * sz) sz g) h
    | _, _ => False
  | .fld o sz g x => match ev x with
    | .agg cs => o + sz ≤ cs.length ∧ K (sub (.agg cs) o sz g) h
    | _ => False
  | .bld zero parts =>
    let r := parts.foldl (fun (acc : Option (List DV)) p => acc.bind fun cs => if (ev p.2.2).size = p.2.1 ∧ (ev p.2.2).storable = true ∧ p.1 + p.2.1 ≤ cs.length then some (cs.take p.1 ++ (ev p.2.2).cells ++ cs.drop (p.1 + p.2.1)) else none) (some zero)
    match r with
    | some cs => K (.agg cs) h
    | none => False
  | .lit sz els => (∀ x, x ∈ els → (ev x).size = sz ∧ (ev x).storable = true) ∧ K (.sl h.length 0 els.length els.length) (h ++ [.cells sz (els.map ev)])
  | .litz sz els => (∀ x, x ∈ els → (ev x).size = sz ∧ (ev x).storable = true) ∧ K (.fz sz (els.map ev)) h
  | .alloc sz zero => K (.ptr h.length 0 0 1) (h ++ [.cells sz [zero]])
  | .box x => (ev x).storable = true ∧ K (.ptr h.length 0 0 1) (h ++ [.cells (ev x).size [ev x]])
  | .load g sz a => match ev a with
    | .ptr b i o x => match h[b]? with
      | some (.cells bsz els) => x = els.length ∧ o + sz ≤ bsz ∧ K (sub (els.getD i .any) o sz g) h
      | _ => False
    | .fp d => sz ≤ d.size ∧ K (sub d 0 sz g) h
    | _ => False
  | .store sz a x => match ev a with
    | .ptr b i o n => match h[b]? with
      | some (.cells bsz els) => n = els.length ∧ (0 < sz ∨ bsz = 0) ∧ o + sz ≤ bsz ∧ (ev x).size = sz ∧ (ev x).storable = true ∧ K .any (h.set b (.cells bsz (els.set i (put (els.getD i .any) o (ev x) sz))))
      | _ => False
    | _ => False
  | .nilchk k x => match isNilD h k (ev x) with
    | some false => K (ev x) h
    | _ => False
  | .faddr g o sz a => match ev a with
    | .ptr b i o' x => (match h[b]? with | some (.cells _ els) => x = els.length | _ => False) ∧ K (.ptr b i (o' + o) x) h
    | .fp d => o + sz ≤ d.size ∧ K (.fp (sub d o sz g)) h
    | _ => False
  | .iaddr sz x i => match ev x, ev i with
    | .sl b s n y, .p (.int _ j) => (match h[b]? with | some (.cells bsz els) => y = els.length ∧ bsz = sz | _ => False) ∧ 0 ≤ j ∧ j < n ∧ K (.ptr b (s + j.toNat) 0 y) h
    | .fz sz' l, .p (.int _ j) => sz' = sz ∧ 0 ≤ j ∧ j < l.length ∧ K (.fp (l.getD j.toNat .any)) h
    | .sa g z b i o n c x, .p (.int _ j) => (match h[b]? with | some (.cells _ els) => x = els.length ∧ z = sz | _ => False) ∧ 0 ≤ j ∧ j < n ∧ K (.ptr b i (o + j.toNat * z) x) h
    | _, _ => False
  | .iaddra n sz g x i => match ev x, ev i with
    | .ptr b s o y, .p (.int _ j) => (match h[b]? with | some (.cells _ els) => y = els.length | _ => False) ∧ 0 ≤ j ∧ j < n ∧ K (.ptr b s (o + j.toNat * sz) y) h
    | .fp d, .p (.int _ j) => d.size = n * sz ∧ 0 ≤ j ∧ j < n ∧ K (.fp (sub d (j.toNat * sz) sz g)) h
    | _, _ => False
  | .app sz bytes x y => match elemsOf h sz (ev y), ev x with
    | some ys, .p (.slice none 0 0) => ys.length * bytes ≤ 140737488355328 ∧ (ys = [] → K (.p (.slice none 0 0)) h) ∧ (ys ≠ [] → K (.sl h.length 0 ys.length ys.length) (h ++ [.cells sz ys]))
    | some ys, .sl b i n z => match h[b]? with
      | some (.cells bsz els) => z = els.length ∧ bsz = sz ∧ (n + ys.length) * bytes ≤ 140737488355328 ∧ i = 0 ∧ n ≤ els.length ∧ (n = els.length ∨ els.length < n + ys.length) ∧
        K (.sl b 0 (n + ys.length) (n + ys.length)) (h.set b (.cells sz ((if n = els.length then els else els.take n) ++ ys)))
      | _ => False
    | _, _ => False
  | .ext x i => match ev x with
    | .tup vs => i < vs.length ∧ K (vs.getD i .any) h
    | _ => False
  | .ifc t x => K (.iface t (ev x)) h
  | .rngs x => match ev x with
    | .p (.string s) => K (.it h.length) (h ++ [.sit s 0])
    | _ => False
  | .nxts a => match ev a with
    | .it b => match h[b]? with
      | some (.sit s pos) => (pos < s.size → K (.tup [.p (.bool true), .p (.int .i64 pos), .p (.int .i32 (Utf8.decode s pos).1)]) (h.set b (.sit s (pos + (Utf8.decode s pos).2)))) ∧ (s.size ≤ pos → K (.tup [.p (.bool false)]) h)
      | _ => False
    | _ => False
  | .mkmap => K (.mp h.length) (h ++ [.map []])
  | .rngm x => match ev x with
    | .p (.map none) => K (.it h.length) (h ++ [.mit none ([], none)])
    | .mp b => match h[b]? with
      | some (.map es) => K (.it h.length) (h ++ [.mit (some b) (List.range es.length, none)])
      | _ => False
    | _ => False
  | .nxtm a => match ev a with
    | .it b => match h[b]? with
      | some (.mit none l) => K (.tup [.p (.bool false)]) h
      | some (.mit (some m) l) => match h[m]? with
        | some (.map es) => (l.1 = [] → K (.tup [.p (.bool false)]) h) ∧ ∀ j, j ∈ l.1 → (es.getD j default).1.oneCell' = true ∧ K (.tup [.p (.bool true), .p (es.getD j default).1, (es.getD j default).2]) (h.set b (.mit (some m) (l.1.erase j, some j)))
        | _ => False
      | _ => False
    | _ => False
  | .ent a => match ev a with
    | .it b => match h[b]? with
      | some (.mit (some m) (_, some j)) => match h[m]? with
        | some (.map es) => (es.getD j default).1.oneCell' = true ∧ K (.tup [.p (es.getD j default).1, (es.getD j default).2]) h
        | _ => False
      | _ => False
    | _ => False
  | .mupd ck m k x => match ev m, ev k with
    | .mp b, .p kv => match h[b]? with
      | some (.map es) => match mfind ck kv es 0 with
        | some r => noIter h b ∧ K .any (h.set b (.map (mput es kv (ev x) r)))
        | none => False
      | _ => False
    | _, _ => False
  | .look ck zero ok m k => match ev m, ev k with
    | .p (.map none), .p kv => K (mres ok zero false) h
    | .mp b, .p kv => match h[b]? with
      | some (.map es) => match mfind ck kv es 0 with
        | some (some i) => K (mres ok (es.getD i default).2 true) h
        | some none => K (mres ok zero false) h
        | none => False
      | _ => False
    | _, _ => False
  | .mdel ck m k => match ev m, ev k with
    | .p (.map none), .p kv => K .any h
    | .mp b, .p kv => match h[b]? with
      | some (.map es) => match mfind ck kv es 0 with
        | some (some i) => noIter h b ∧ K .any (h.set b (.map (es.eraseIdx i)))
        | some none => K .any h
        | none => False
      | _ => False
    | _, _ => False
  | .call f args => ∃ v h', Ok P G f (args.map ev) h v h' ∧ K v h'
  | .stop => False
  | .capl x => match ev x with
    | .p (.slice none 0 0) => K (.p (.int .i64 0)) h
    | .sa _ _ _ _ _ _ c _ => K (.p (.int .i64 c)) h
    | _ => False
  | .mks g sz bytes zero n c => match ev n, ev c with
    | .p (.int _ l), .p (.int _ r) => 0 ≤ l ∧ l ≤ r ∧ r * bytes ≤ 140737488355328 ∧
      (K (.sl h.length 0 l.toNat l.toNat) (h ++ [.cells sz (List.replicate l.toNat zero)]) ∨
        ((g = true ∨ sz = 1) ∧ K (.sa g sz h.length 0 0 l.toNat r.toNat 1) (h ++ [.cells (r.toNat * sz) [.agg (List.replicate r.toNat zero.cells).flatten]])))
    | _, _ => False
  | .cpy sz x y => match elemsOf h sz (ev y), ev x with
    | some _, .p (.slice none 0 0) => K (.p (.int .i64 0)) h
    | some ys, .sl b i n z => match h[b]? with
      | some (.cells bsz els) => z = els.length ∧ bsz = sz ∧ K (.p (.int .i64 (min ys.length n : Nat))) (h.set b (.cells bsz (els.take i ++ ys.take n ++ els.drop (i + min ys.length n))))
      | _ => False
    | some ys, .sa false 1 b i o n c z => match h[b]? with
      | some (.cells bsz els) => match els.getD i .any with
        | .agg l => z = els.length ∧ sz = 1 ∧ (ys.take n).all DV.one = true ∧ K (.p (.int .i64 (min ys.length n : Nat))) (h.set b (.cells bsz (els.set i (.agg (l.take o ++ ys.take n ++ l.drop (o + min ys.length n))))))
        | _ => False
      | _ => False
    | _, _ => False
  | .tas t zero ok x => match ev x with
    | .iface u v => if u = t then K (mres ok v true) h else ok = true ∧ K (mres ok zero false) h
    | .p .nilIface => ok = true ∧ K (mres ok zero false) h
    | _ => False
  | .tai u ok x => match ev x with
    | .iface t v => match hasM P u t with
      | some b => if b = true then K (mres ok (.iface t v) true) h else ok = true ∧ K (mres ok (.p .nilIface) false) h
      | none => False
    | .p .nilIface => ok = true ∧ K (mres ok (.p .nilIface) false) h
    | _ => False
  | .mkf f first cap => K (.fn f (first.map ev) (cap.map ev)) h
  | .callv rel x args => match ev x with
    | .fn (.func f) first cap => cFunc P f = true ∧ (if rel = true then ∃ R, OkR P G f (first ++ args.map ev ++ cap) h R ∧ ∀ v h', R v h' → K v h' else ∃ v h', Ok P G f (first ++ args.map ev ++ cap) h v h' ∧ K v h')
    | _ => False
  | .inv rel name x args => match ev x with
    | .iface t v => match methOf P t name with
      | some f => cFunc P f = true ∧ (if rel = true then ∃ R, OkR P G f (v :: args.map ev) h R ∧ ∀ v h', R v h' → K v h' else ∃ v1 h', Ok P G f (v :: args.map ev) h v1 h' ∧ K v1 h')
      | none => False
    | _ => False
  | .callr f args => ∃ R, OkR P G f (args.map ev) h R ∧ ∀ v h', R v h' → K v h'

structure DOper where
  dst : Option Nat
  op : DO
  guard : Option (Nat × Bool)
  deriving Inhabited

structure St where
  t : List DV
  h : List Blk

def St.put (s : St) (dst : Option Nat) (v : DV) (h : List Blk) : St :=
  match dst with
  | some d => ⟨s.t.set d v, h⟩
  | none => ⟨s.t, h⟩

/-- One after the other. -/
def vcL (P : Program) (G : Nat → DV) : List DOper → St → (St → Prop) → Prop
  | [], s, K => K s
  | o :: l, s, K =>
    match o.guard with
    | none => vcO P G o.op (Opd.ev G s.t) s.h fun v h => vcL P G l (s.put o.dst v h) K
    | some (g, want) =>
      match s.t.getD g .any with
      | .p (.bool b) => if b = want then vcO P G o.op (Opd.ev G s.t) s.h fun v h => vcL P G l (s.put o.dst v h) K else vcL P G l (s.put o.dst (.tup []) s.h) K
      | .tup [] => vcL P G l (s.put o.dst (.tup []) s.h) K
      | _ => False

/-- Whatever stands there stands there still. -/
def HPre (h h' : List Blk) : Prop := ∀ (b : Nat) (k : Blk), h[b]? = some k → h'[b]? = some k

/-- Operations that do something to the memory. -/
def DO.heavy : DO → Bool
  | .s2b .. | .lit .. | .alloc .. | .box .. | .store .. | .app .. | .rngs .. | .nxts .. | .mkmap | .rngm .. | .nxtm .. | .mupd .. | .mdel .. | .call .. | .callr .. | .stop | .mks .. | .cpy .. | .callv .. | .inv .. => true
  | _ => false
/-- Operations that do not look at the memory. -/
def DO.plain : DO → Bool
  | .mov .. | .pick .. | .bin .. | .eqb .. | .eqi .. | .eqs .. | .un .. | .cint .. | .cstr .. | .lens .. | .lenl .. | .mm .. | .slcs .. | .idxs .. | .idxa .. | .fld .. | .bld .. | .ext .. | .ifc .. | .litz .. | .capl .. | .tas .. | .tai .. | .mkf .. => true
  | .eqn _ .iface _ | .eqn _ .fn _ | .nilchk .iface _ | .nilchk .fn _ => true
  | _ => false
/-- What an operation looks at. -/
def DO.opds : DO → List Opd
  | .mov x => [x]
  | .pick c a b => [c, a, b]
  | .bin _ x y => [x, y]
  | .eqb _ x y => [x, y]
  | .eqn _ _ x => [x]
  | .eqi _ x y => [x, y]
  | .eqs _ _ x y => [x, y]
  | .un _ x => [x]
  | .cint _ x => [x]
  | .cstr x => [x]
  | .b2s x => [x]
  | .s2b x => [x]
  | .lens x => [x]
  | .lenl x => [x]
  | .lenm x => [x]
  | .mm _ x y => [x, y]
  | .slcs x lo hi => x :: (lo.toList ++ hi.toList)
  | .slcl _ x lo hi => x :: (lo.toList ++ hi.toList)
  | .slca _ _ _ x lo hi => x :: (lo.toList ++ hi.toList)
  | .idxs x i => [x, i]
  | .idxa _ _ _ x i => [x, i]
  | .fld _ _ _ x => [x]
  | .bld _ parts => parts.map (·.2.2)
  | .lit _ els => els
  | .litz _ els => els
  | .alloc _ _ => []
  | .box x => [x]
  | .load _ _ a => [a]
  | .store _ a x => [a, x]
  | .nilchk _ x => [x]
  | .faddr _ _ _ a => [a]
  | .iaddr _ x i => [x, i]
  | .iaddra _ _ _ x i => [x, i]
  | .app _ _ x y => [x, y]
  | .ext x _ => [x]
  | .ifc _ x => [x]
  | .rngs x => [x]
  | .nxts a => [a]
  | .mkmap => []
  | .rngm x => [x]
  | .nxtm a => [a]
  | .ent a => [a]
  | .mupd _ m k x => [m, k, x]
  | .look _ _ _ m k => [m, k]
  | .mdel _ m k => [m, k]
  | .call _ args => args
  | .callr _ args => args
  | .stop => []
  | .capl x => [x]
  | .mks _ _ _ _ n c => [n, c]
  | .cpy _ x y => [x, y]
  | .tas _ _ _ x => [x]
  | .tai _ _ x => [x]
  | .mkf _ first cap => first ++ cap
  | .callv _ x args => x :: args
  | .inv _ _ x args => x :: args
/-- A literal slice that nobody writes. -/
def DO.frz : DO → DO
  | .lit sz els => .litz sz els
  | o => o
/-- A call of more than one outcome. -/
def DO.rel : DO → DO
  | .call f args => .callr f args
  | .callv _ x args => .callv true x args
  | .inv _ n x args => .inv true n x args
  | o => o
/-- One outcome only. -/
def DO.det : DO → Bool
  | .nxtm .. | .callr .. | .callv true _ _ | .inv true _ _ _ => false
  | _ => true

/-- An operation of a region that is drawn: how many of the operations that do something to the memory come ahead of it for certain; for a heavy one, as of which of the heaps others may look at the memory behind or ahead of it. -/
structure DDOp where
  o : DOper
  a : Nat
  fr : List Nat
  deriving Inhabited

def putL (t : List DV) (dst : Option Nat) (v : DV) : List DV :=
  match dst with
  | some d => t.set d v
  | none => t

/-- One operation of a region that is drawn: what looks at the memory, looks at what it is for certain. -/
def stepD (P : Program) (G : Nat → DV) (d : DDOp) (t : List DV) (Hs : List (List Blk)) (h : List Blk) (K : DV → List (List Blk) → List Blk → Prop) : Prop :=
  if d.o.op.heavy = true then vcO P G d.o.op (Opd.ev G t) h (fun v h' => (∀ m, m ∈ d.fr → HPre (Hs.getD m []) h') ∧ K v (Hs ++ [h']) h')
  else vcO P G d.o.op (Opd.ev G t) (Hs.getD d.a []) (fun v _ => K v Hs h)

/-- A region that is drawn, in the text's order. -/
def vcD (P : Program) (G : Nat → DV) : List DDOp → List DV → List (List Blk) → List Blk → (List DV → List Blk → Prop) → Prop
  | [], t, _, h, K => K t h
  | d :: l, t, Hs, h, K =>
    match d.o.guard with
    | none => stepD P G d t Hs h fun v Hs' h' => vcD P G l (putL t d.o.dst v) Hs' h' K
    | some (g, want) => match t.getD g .any with
      | .p (.bool b) => if b = want then stepD P G d t Hs h fun v Hs' h' => vcD P G l (putL t d.o.dst v) Hs' h' K
        else vcD P G l (putL t d.o.dst (.tup [])) (if d.o.op.heavy = true then Hs ++ [h] else Hs) h K
      | .tup [] => vcD P G l (putL t d.o.dst (.tup [])) (if d.o.op.heavy = true then Hs ++ [h] else Hs) h K
      | _ => False

inductive DC where
  | skip
  | rg (ops : List DOper)
  | rgd (ops : List DDOp)
  | seq (a b : DC)
  | cond (c : Opd) (a b : DC)
  | block (id : Nat) (a : DC)
  | loop (a : DC)
  | exit (id : Nat)
  | ret
  deriving Inhabited

inductive DX where
  | nrm
  | ext (id : Nat)
  | ret
  deriving DecidableEq

structure RelS (G : Nat → DV) (D : List Deferred) (e : Env) (s : St) (a : Act) (w : World) : Prop where
  h : e.h = s.h
  H : e.H = w.heap
  hr : HR e
  gr : GR e G
  tr : TR e s.t a.tmps
  df : a.defers = D

def HWF (h : List Blk) : Prop := ∀ (b : Nat) (k : Blk), h[b]? = some k → k.wf (· < h.length)

/-- Whatever fits the one state fits the other one, the first blocks as they are. -/
def Wk (G : Nat → DV) (h0 : List Blk) (s s' : St) : Prop := HWF h0 → ∀ D e a w, RelS G D e s a w → h0.length ≤ e.h.length → ∃ e', RelS G D e' s' a w ∧ Ev h0.length e e'

def vc (P : Program) (G : Nat → DV) (n : List Blk) : DC → St → (DX → St → Prop) → Prop
  | .skip, s, Q => Q .nrm s
  | .rg ops, s, Q => vcL P G ops s (Q .nrm)
  | .rgd ops, s, Q => vcD P G ops s.t [s.h] s.h fun t h => Q .nrm ⟨t, h⟩
  | .seq a b, s, Q => vc P G n a s fun x s' => match x with | .nrm => vc P G n b s' Q | x => Q x s'
  | .cond c a b, s, Q => match c.ev G s.t with
    | .p (.bool t) => if t = true then vc P G n a s Q else vc P G n b s Q
    | _ => False
  | .block id a, s, Q => vc P G n a s fun x s' => match x with | .ext i => if i = id then Q .nrm s' else Q (.ext i) s' | x => Q x s'
  | .loop a, s, Q => ∃ (I : St → Prop) (μ : St → Nat), (∃ s', Wk G n s s' ∧ I s') ∧ ∀ s, I s → vc P G n a s fun x s1 => match x with | .nrm => ∃ s2, Wk G n s1 s2 ∧ I s2 ∧ μ s2 < μ s | x => Q x s1
  | .exit id, s, Q => Q (.ext id) s
  | .ret, s, Q => Q .ret s

end Go.Den
