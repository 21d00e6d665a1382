/- The library: contracts of functions over denoted values (W). -/
import Derived.Test.YtbbafeocmchlnaaDenVa
set_option linter.unusedVariables false
set_option linter.unusedSimpArgs false
set_option linter.unusedSectionVars false
set_option linter.unnecessarySimpa false
namespace Go.Den
open Go

/-- Said with a proof, not by reckoning. -/
theorem nd {α : Sort _} {a b : α} (h : a = b) : a = b := h

/-- A slot, and a frame with another value in a slot. -/
def gS : List DV → Nat → DV
  | [], _ => .any
  | d :: _, 0 => d
  | _ :: l, n + 1 => gS l n
def sS : List DV → Nat → DV → List DV
  | [], _, _ => []
  | _ :: l, 0, v => v :: l
  | d :: l, n + 1, v => d :: sS l n v
theorem gS_eq : ∀ (l : List DV) (n : Nat), l.getD n .any = gS l n
  | [], _ => by simp [gS]
  | d :: _, 0 => rfl
  | _ :: l, n + 1 => by simpa [gS] using gS_eq l n
theorem sS_eq : ∀ (l : List DV) (n : Nat) (v : DV), l.set n v = sS l n v
  | [], _, _ => by simp [sS]
  | d :: _, 0, _ => rfl
  | d :: l, n + 1, v => by simp [sS, sS_eq l n v]
@[simp] theorem gS_0 {d : DV} {l : List DV} : gS (d :: l) 0 = d := nd rfl
@[simp] theorem gS_1 {d : DV} {l : List DV} {n : Nat} : gS (d :: l) (n + 1) = gS l n := nd rfl
@[simp] theorem sS_0 {d v : DV} {l : List DV} : sS (d :: l) 0 v = v :: l := nd rfl
@[simp] theorem sS_1 {d v : DV} {l : List DV} {n : Nat} : sS (d :: l) (n + 1) v = d :: sS l n v := nd rfl

/-- What is still to be done, as data. -/
inductive Fr where
  | seq (b : DC)
  | blk (id : Nat)

def kon0 (P : Program) (G : Nat → DV) (n : List Blk) : List Fr → (DX → St → Prop) → DX → St → Prop
  | [], Q, x, s => Q x s
  | .seq b :: st, Q, x, s => match x with | .nrm => vc P G n b s (kon0 P G n st Q) | x => kon0 P G n st Q x s
  | .blk id :: st, Q, x, s => match x with | .ext i => if i = id then kon0 P G n st Q .nrm s else kon0 P G n st Q (.ext i) s | x => kon0 P G n st Q x s

def VV0 (P : Program) (G : Nat → DV) (n : List Blk) (c : DC) (s : St) (st : List Fr) (Q : DX → St → Prop) : Prop := vc P G n c s (kon0 P G n st Q)
def LL0 (P : Program) (G : Nat → DV) (n : List Blk) (ops : List DOper) (t : List DV) (h : List Blk) (st : List Fr) (Q : DX → St → Prop) : Prop := vcL P G ops ⟨t, h⟩ (kon0 P G n st Q .nrm)
/-- One operation's value is there: on. -/
def KK0 (P : Program) (G : Nat → DV) (n : List Blk) (dst : Option Nat) (l : List DOper) (t : List DV) (st : List Fr) (Q : DX → St → Prop) (v : DV) (h : List Blk) : Prop :=
  vcL P G l (St.put ⟨t, []⟩ dst v h) (kon0 P G n st Q .nrm)
/-- A test, its value there. -/
def CC0 (P : Program) (G : Nat → DV) (n : List Blk) (d : DV) (a b : DC) (s : St) (st : List Fr) (Q : DX → St → Prop) : Prop :=
  match d with | .p (.bool t) => if t = true then VV0 P G n a s st Q else VV0 P G n b s st Q | _ => False
/-- A guard, its value there. -/
def GG0 (P : Program) (G : Nat → DV) (n : List Blk) (d : DV) (want : Bool) (dst : Option Nat) (op : DO) (l : List DOper) (t : List DV) (h : List Blk) (st : List Fr) (Q : DX → St → Prop) : Prop :=
  match d with | .p (.bool b) => if b = want then LL0 P G n (⟨dst, op, none⟩ :: l) t h st Q else KK0 P G n dst l t st Q (.tup []) h | .tup [] => KK0 P G n dst l t st Q (.tup []) h | _ => False
/-- One of two, the test's value there. -/
def PP0 (P : Program) (G : Nat → DV) (n : List Blk) (d a b : DV) (dst : Option Nat) (l : List DOper) (t : List DV) (h : List Blk) (st : List Fr) (Q : DX → St → Prop) : Prop :=
  match d with | .p (.bool c) => if c = true then KK0 P G n dst l t st Q a h else KK0 P G n dst l t st Q b h | _ => False
/-- A call, its arguments there. -/
def FF0 (P : Program) (G : Nat → DV) (n : List Blk) (f : FuncId) (args : List DV) (dst : Option Nat) (l : List DOper) (t : List DV) (h : List Blk) (st : List Fr) (Q : DX → St → Prop) : Prop :=
  ∃ R, OkR P G f args h R ∧ ∀ v h', R v h' → KK0 P G n dst l t st Q v h'

section
variable {P : Program} {G : Nat → DV} {n : List Blk} {Q : DX → St → Prop} {s s' : St} {st : List Fr} {l : List DOper} {t : List DV} {h : List Blk} {dst : Option Nat} {v : DV}

theorem kon0_nil {x : DX} : kon0 P G n [] Q x s = Q x s := nd rfl
theorem kon0_seq_nrm {b : DC} : kon0 P G n (.seq b :: st) Q .nrm s = VV0 P G n b s st Q := nd rfl
theorem kon0_seq_ret {b : DC} : kon0 P G n (.seq b :: st) Q .ret s = kon0 P G n st Q .ret s := nd rfl
theorem kon0_seq_ext {b : DC} {i : Nat} : kon0 P G n (.seq b :: st) Q (.ext i) s = kon0 P G n st Q (.ext i) s := nd rfl
theorem kon0_blk_nrm {i : Nat} : kon0 P G n (.blk i :: st) Q .nrm s = kon0 P G n st Q .nrm s := nd rfl
theorem kon0_blk_ret {i : Nat} : kon0 P G n (.blk i :: st) Q .ret s = kon0 P G n st Q .ret s := nd rfl
theorem kon0_blk_same {i : Nat} : kon0 P G n (.blk i :: st) Q (.ext i) s = kon0 P G n st Q .nrm s := by simp [kon0]
theorem kon0_blk_ext {i j : Nat} (hij : j ≠ i) : kon0 P G n (.blk i :: st) Q (.ext j) s = kon0 P G n st Q (.ext j) s := by simp [kon0, hij]

theorem VV0_skip : VV0 P G n .skip s st Q = kon0 P G n st Q .nrm s := by simp only [VV0, vc_skip]
theorem VV0_rg {ops : List DOper} : VV0 P G n (.rg ops) ⟨t, h⟩ st Q = LL0 P G n ops t h st Q := by simp only [VV0, vc_rg, LL0]
theorem VV0_seq {a b : DC} : VV0 P G n (.seq a b) s st Q = VV0 P G n a s (.seq b :: st) Q := by
  exact nd rfl
theorem VV0_cond {c : Opd} {a b : DC} : VV0 P G n (.cond c a b) ⟨t, h⟩ st Q = CC0 P G n (c.ev G t) a b ⟨t, h⟩ st Q := by simp only [VV0, vc_cond, CC0]; rfl
theorem VV0_block {id : Nat} {a : DC} : VV0 P G n (.block id a) s st Q = VV0 P G n a s (.blk id :: st) Q := by
  exact nd rfl
theorem VV0_exit {id : Nat} : VV0 P G n (.exit id) s st Q = kon0 P G n st Q (.ext id) s := by simp only [VV0, vc_exit]
theorem VV0_ret : VV0 P G n .ret s st Q = kon0 P G n st Q .ret s := by simp only [VV0, vc_ret]

theorem CC0_true {a b : DC} : CC0 P G n (.p (.bool true)) a b s st Q = VV0 P G n a s st Q := nd rfl
theorem CC0_false {a b : DC} : CC0 P G n (.p (.bool false)) a b s st Q = VV0 P G n b s st Q := nd rfl
theorem CC0_by {x : Bool} {a b : DC} (h1 : x = true → VV0 P G n a s st Q) (h2 : x = false → VV0 P G n b s st Q) : CC0 P G n (.p (.bool x)) a b s st Q := by
  cases x
  · exact h2 rfl
  · exact h1 rfl

theorem KK0_none : KK0 P G n none l t st Q v h = LL0 P G n l t h st Q := nd rfl
theorem KK0_some {d : Nat} : KK0 P G n (some d) l t st Q v h = LL0 P G n l (sS t d v) h st Q := by rw [← sS_eq]; rfl

theorem GG0_pos {op : DO} {want : Bool} : GG0 P G n (.p (.bool want)) want dst op l t h st Q = LL0 P G n (⟨dst, op, none⟩ :: l) t h st Q := by simp [GG0]
theorem GG0_tf {op : DO} : GG0 P G n (.p (.bool true)) false dst op l t h st Q = KK0 P G n dst l t st Q (.tup []) h := by simp [GG0]
theorem GG0_ft {op : DO} : GG0 P G n (.p (.bool false)) true dst op l t h st Q = KK0 P G n dst l t st Q (.tup []) h := by simp [GG0]
theorem GG0_un {op : DO} {want : Bool} : GG0 P G n (.tup []) want dst op l t h st Q = KK0 P G n dst l t st Q (.tup []) h := by simp [GG0]
theorem GG0_by {x : Bool} {op : DO} {want : Bool} (h1 : x = true → GG0 P G n (.p (.bool true)) want dst op l t h st Q) (h2 : x = false → GG0 P G n (.p (.bool false)) want dst op l t h st Q) : GG0 P G n (.p (.bool x)) want dst op l t h st Q := by
  cases x
  · exact h2 rfl
  · exact h1 rfl
theorem PP0_true {a b : DV} : PP0 P G n (.p (.bool true)) a b dst l t h st Q = KK0 P G n dst l t st Q a h := by simp [PP0]
theorem PP0_false {a b : DV} : PP0 P G n (.p (.bool false)) a b dst l t h st Q = KK0 P G n dst l t st Q b h := by simp [PP0]
theorem FF0_by {f : FuncId} {args : List DV} {v : DV} {h' : List Blk} (hf : Ok P G f args h v h') (hk : KK0 P G n dst l t st Q v h') : FF0 P G n f args dst l t h st Q := ⟨_, hf.toR, by rintro v1 h1 ⟨rfl, rfl⟩; exact hk⟩

theorem LL0_nil : LL0 P G n [] t h st Q = kon0 P G n st Q .nrm ⟨t, h⟩ := nd rfl
theorem LL0_guard {g : Nat} {want : Bool} {op : DO} : LL0 P G n (⟨dst, op, some (g, want)⟩ :: l) t h st Q = GG0 P G n (gS t g) want dst op l t h st Q := by
  rw [← gS_eq]
  cases dst <;> simp [LL0, vcL, GG0, KK0, St.put] <;> rfl

theorem LL0_step {op : DO} : LL0 P G n (⟨dst, op, none⟩ :: l) t h st Q = vcO P G op (Opd.ev G t) h (KK0 P G n dst l t st Q) := by
  cases dst <;> rfl
theorem LL0_pick {c a b : Opd} : LL0 P G n (⟨dst, .pick c a b, none⟩ :: l) t h st Q = PP0 P G n (c.ev G t) (a.ev G t) (b.ev G t) dst l t h st Q := by
  rw [LL0_step]
  simp only [vcO, PP0]
  rfl
theorem LL0_call {f : FuncId} {args : List Opd} : LL0 P G n (⟨dst, .callr f args, none⟩ :: l) t h st Q = FF0 P G n f (args.map (Opd.ev G t)) dst l t h st Q := by
  rw [LL0_step, vcO, FF0]
theorem LL0_bin {uop ux uy} : LL0 P G n (⟨dst, .bin uop ux uy, none⟩ :: l) t h st Q = vcO P G (.bin uop ux uy) (Opd.ev G t) h (KK0 P G n dst l t st Q) := nd LL0_step
theorem LL0_eqb {uneg ux uy} : LL0 P G n (⟨dst, .eqb uneg ux uy, none⟩ :: l) t h st Q = vcO P G (.eqb uneg ux uy) (Opd.ev G t) h (KK0 P G n dst l t st Q) := nd LL0_step
theorem LL0_eqn {uneg uk ux} : LL0 P G n (⟨dst, .eqn uneg uk ux, none⟩ :: l) t h st Q = vcO P G (.eqn uneg uk ux) (Opd.ev G t) h (KK0 P G n dst l t st Q) := nd LL0_step
theorem LL0_eqi {uneg ux uy} : LL0 P G n (⟨dst, .eqi uneg ux uy, none⟩ :: l) t h st Q = vcO P G (.eqi uneg ux uy) (Opd.ev G t) h (KK0 P G n dst l t st Q) := nd LL0_step
theorem LL0_eqs {uneg uks ux uy} : LL0 P G n (⟨dst, .eqs uneg uks ux uy, none⟩ :: l) t h st Q = vcO P G (.eqs uneg uks ux uy) (Opd.ev G t) h (KK0 P G n dst l t st Q) := nd LL0_step
theorem LL0_un {uop ux} : LL0 P G n (⟨dst, .un uop ux, none⟩ :: l) t h st Q = vcO P G (.un uop ux) (Opd.ev G t) h (KK0 P G n dst l t st Q) := nd LL0_step
theorem LL0_cint {uk ux} : LL0 P G n (⟨dst, .cint uk ux, none⟩ :: l) t h st Q = vcO P G (.cint uk ux) (Opd.ev G t) h (KK0 P G n dst l t st Q) := nd LL0_step
theorem LL0_cstr {ux} : LL0 P G n (⟨dst, .cstr ux, none⟩ :: l) t h st Q = vcO P G (.cstr ux) (Opd.ev G t) h (KK0 P G n dst l t st Q) := nd LL0_step
theorem LL0_b2s {ux} : LL0 P G n (⟨dst, .b2s ux, none⟩ :: l) t h st Q = vcO P G (.b2s ux) (Opd.ev G t) h (KK0 P G n dst l t st Q) := nd LL0_step
theorem LL0_s2b {ux} : LL0 P G n (⟨dst, .s2b ux, none⟩ :: l) t h st Q = vcO P G (.s2b ux) (Opd.ev G t) h (KK0 P G n dst l t st Q) := nd LL0_step
theorem LL0_lens {ux} : LL0 P G n (⟨dst, .lens ux, none⟩ :: l) t h st Q = vcO P G (.lens ux) (Opd.ev G t) h (KK0 P G n dst l t st Q) := nd LL0_step
theorem LL0_lenl {ux} : LL0 P G n (⟨dst, .lenl ux, none⟩ :: l) t h st Q = vcO P G (.lenl ux) (Opd.ev G t) h (KK0 P G n dst l t st Q) := nd LL0_step
theorem LL0_lenm {ux} : LL0 P G n (⟨dst, .lenm ux, none⟩ :: l) t h st Q = vcO P G (.lenm ux) (Opd.ev G t) h (KK0 P G n dst l t st Q) := nd LL0_step
theorem LL0_mm {umx ux uy} : LL0 P G n (⟨dst, .mm umx ux uy, none⟩ :: l) t h st Q = vcO P G (.mm umx ux uy) (Opd.ev G t) h (KK0 P G n dst l t st Q) := nd LL0_step
theorem LL0_slcs {ux ulo uhi} : LL0 P G n (⟨dst, .slcs ux ulo uhi, none⟩ :: l) t h st Q = vcO P G (.slcs ux ulo uhi) (Opd.ev G t) h (KK0 P G n dst l t st Q) := nd LL0_step
theorem LL0_slcl {usz ux ulo uhi} : LL0 P G n (⟨dst, .slcl usz ux ulo uhi, none⟩ :: l) t h st Q = vcO P G (.slcl usz ux ulo uhi) (Opd.ev G t) h (KK0 P G n dst l t st Q) := nd LL0_step
theorem LL0_idxs {ux ui} : LL0 P G n (⟨dst, .idxs ux ui, none⟩ :: l) t h st Q = vcO P G (.idxs ux ui) (Opd.ev G t) h (KK0 P G n dst l t st Q) := nd LL0_step
theorem LL0_idxa {um usz ug ux ui} : LL0 P G n (⟨dst, .idxa um usz ug ux ui, none⟩ :: l) t h st Q = vcO P G (.idxa um usz ug ux ui) (Opd.ev G t) h (KK0 P G n dst l t st Q) := nd LL0_step
theorem LL0_fld {uo usz ug ux} : LL0 P G n (⟨dst, .fld uo usz ug ux, none⟩ :: l) t h st Q = vcO P G (.fld uo usz ug ux) (Opd.ev G t) h (KK0 P G n dst l t st Q) := nd LL0_step
theorem LL0_litz {usz uels} : LL0 P G n (⟨dst, .litz usz uels, none⟩ :: l) t h st Q = vcO P G (.litz usz uels) (Opd.ev G t) h (KK0 P G n dst l t st Q) := nd LL0_step
theorem LL0_bld {uzero uparts} : LL0 P G n (⟨dst, .bld uzero uparts, none⟩ :: l) t h st Q = vcO P G (.bld uzero uparts) (Opd.ev G t) h (KK0 P G n dst l t st Q) := nd LL0_step
theorem LL0_lit {usz uels} : LL0 P G n (⟨dst, .lit usz uels, none⟩ :: l) t h st Q = vcO P G (.lit usz uels) (Opd.ev G t) h (KK0 P G n dst l t st Q) := nd LL0_step
theorem LL0_alloc {usz uzero} : LL0 P G n (⟨dst, .alloc usz uzero, none⟩ :: l) t h st Q = vcO P G (.alloc usz uzero) (Opd.ev G t) h (KK0 P G n dst l t st Q) := nd LL0_step
theorem LL0_box {ux} : LL0 P G n (⟨dst, .box ux, none⟩ :: l) t h st Q = vcO P G (.box ux) (Opd.ev G t) h (KK0 P G n dst l t st Q) := nd LL0_step
theorem LL0_load {ug usz ua} : LL0 P G n (⟨dst, .load ug usz ua, none⟩ :: l) t h st Q = vcO P G (.load ug usz ua) (Opd.ev G t) h (KK0 P G n dst l t st Q) := nd LL0_step
theorem LL0_store {usz ua ux} : LL0 P G n (⟨dst, .store usz ua ux, none⟩ :: l) t h st Q = vcO P G (.store usz ua ux) (Opd.ev G t) h (KK0 P G n dst l t st Q) := nd LL0_step
theorem LL0_nilchk {uk ux} : LL0 P G n (⟨dst, .nilchk uk ux, none⟩ :: l) t h st Q = vcO P G (.nilchk uk ux) (Opd.ev G t) h (KK0 P G n dst l t st Q) := nd LL0_step
theorem LL0_faddr {ug uo usz ua} : LL0 P G n (⟨dst, .faddr ug uo usz ua, none⟩ :: l) t h st Q = vcO P G (.faddr ug uo usz ua) (Opd.ev G t) h (KK0 P G n dst l t st Q) := nd LL0_step
theorem LL0_iaddr {usz ux ui} : LL0 P G n (⟨dst, .iaddr usz ux ui, none⟩ :: l) t h st Q = vcO P G (.iaddr usz ux ui) (Opd.ev G t) h (KK0 P G n dst l t st Q) := nd LL0_step
theorem LL0_iaddra {um usz ug ux ui} : LL0 P G n (⟨dst, .iaddra um usz ug ux ui, none⟩ :: l) t h st Q = vcO P G (.iaddra um usz ug ux ui) (Opd.ev G t) h (KK0 P G n dst l t st Q) := nd LL0_step
theorem LL0_app {usz ubytes ux uy} : LL0 P G n (⟨dst, .app usz ubytes ux uy, none⟩ :: l) t h st Q = vcO P G (.app usz ubytes ux uy) (Opd.ev G t) h (KK0 P G n dst l t st Q) := nd LL0_step
theorem LL0_ext {ux ui} : LL0 P G n (⟨dst, .ext ux ui, none⟩ :: l) t h st Q = vcO P G (.ext ux ui) (Opd.ev G t) h (KK0 P G n dst l t st Q) := nd LL0_step
theorem LL0_ifc {ut ux} : LL0 P G n (⟨dst, .ifc ut ux, none⟩ :: l) t h st Q = vcO P G (.ifc ut ux) (Opd.ev G t) h (KK0 P G n dst l t st Q) := nd LL0_step
theorem LL0_mov {ux} : LL0 P G n (⟨dst, .mov ux, none⟩ :: l) t h st Q = vcO P G (.mov ux) (Opd.ev G t) h (KK0 P G n dst l t st Q) := nd LL0_step
theorem LL0_mkmap : LL0 P G n (⟨dst, .mkmap, none⟩ :: l) t h st Q = vcO P G .mkmap (Opd.ev G t) h (KK0 P G n dst l t st Q) := nd LL0_step
theorem LL0_rngs {ux} : LL0 P G n (⟨dst, .rngs ux, none⟩ :: l) t h st Q = vcO P G (.rngs ux) (Opd.ev G t) h (KK0 P G n dst l t st Q) := nd LL0_step
theorem LL0_nxts {ua} : LL0 P G n (⟨dst, .nxts ua, none⟩ :: l) t h st Q = vcO P G (.nxts ua) (Opd.ev G t) h (KK0 P G n dst l t st Q) := nd LL0_step
theorem LL0_rngm {ux} : LL0 P G n (⟨dst, .rngm ux, none⟩ :: l) t h st Q = vcO P G (.rngm ux) (Opd.ev G t) h (KK0 P G n dst l t st Q) := nd LL0_step
theorem LL0_nxtm {ua} : LL0 P G n (⟨dst, .nxtm ua, none⟩ :: l) t h st Q = vcO P G (.nxtm ua) (Opd.ev G t) h (KK0 P G n dst l t st Q) := nd LL0_step
theorem LL0_ent {ua} : LL0 P G n (⟨dst, .ent ua, none⟩ :: l) t h st Q = vcO P G (.ent ua) (Opd.ev G t) h (KK0 P G n dst l t st Q) := nd LL0_step
theorem LL0_mupd {uck um uk ux} : LL0 P G n (⟨dst, .mupd uck um uk ux, none⟩ :: l) t h st Q = vcO P G (.mupd uck um uk ux) (Opd.ev G t) h (KK0 P G n dst l t st Q) := nd LL0_step
theorem LL0_look {uck uzero uok um uk} : LL0 P G n (⟨dst, .look uck uzero uok um uk, none⟩ :: l) t h st Q = vcO P G (.look uck uzero uok um uk) (Opd.ev G t) h (KK0 P G n dst l t st Q) := nd LL0_step
theorem LL0_mdel {uck um uk} : LL0 P G n (⟨dst, .mdel uck um uk, none⟩ :: l) t h st Q = vcO P G (.mdel uck um uk) (Opd.ev G t) h (KK0 P G n dst l t st Q) := nd LL0_step
@[simp ↓] theorem bi_shl {k k' : IntKind} {a b : Int} {K : Value → Prop} : binK .shl (.int k a) (.int k' b) K = (0 ≤ b ∧ K (.int k (ishl k a b))) := nd rfl
@[simp ↓] theorem bi_shr {k k' : IntKind} {a b : Int} {K : Value → Prop} : binK .shr (.int k a) (.int k' b) K = (0 ≤ b ∧ K (.int k (ishr k a b))) := nd rfl
@[simp ↓] theorem bi_add {k k' : IntKind} {a b : Int} {K : Value → Prop} : binK .add (.int k a) (.int k' b) K = (k = k' ∧ K (.int k (k.wrap (a + b)))) := nd rfl
@[simp ↓] theorem bi_sub {k k' : IntKind} {a b : Int} {K : Value → Prop} : binK .sub (.int k a) (.int k' b) K = (k = k' ∧ K (.int k (k.wrap (a - b)))) := nd rfl
@[simp ↓] theorem bi_mul {k k' : IntKind} {a b : Int} {K : Value → Prop} : binK .mul (.int k a) (.int k' b) K = (k = k' ∧ K (.int k (k.wrap (a * b)))) := nd rfl
@[simp ↓] theorem bi_quo {k k' : IntKind} {a b : Int} {K : Value → Prop} : binK .quo (.int k a) (.int k' b) K = (k = k' ∧ b ≠ 0 ∧ K (.int k (k.wrap (a.tdiv b)))) := nd rfl
@[simp ↓] theorem bi_rem {k k' : IntKind} {a b : Int} {K : Value → Prop} : binK .rem (.int k a) (.int k' b) K = (k = k' ∧ b ≠ 0 ∧ K (.int k (a.tmod b))) := nd rfl
@[simp ↓] theorem bi_and {k k' : IntKind} {a b : Int} {K : Value → Prop} : binK .and (.int k a) (.int k' b) K = (k = k' ∧ K (.int k (iand k a b))) := nd rfl
@[simp ↓] theorem bi_or {k k' : IntKind} {a b : Int} {K : Value → Prop} : binK .or (.int k a) (.int k' b) K = (k = k' ∧ K (.int k (ior k a b))) := nd rfl
@[simp ↓] theorem bi_xor {k k' : IntKind} {a b : Int} {K : Value → Prop} : binK .xor (.int k a) (.int k' b) K = (k = k' ∧ K (.int k (ixor k a b))) := nd rfl
@[simp ↓] theorem bi_andNot {k k' : IntKind} {a b : Int} {K : Value → Prop} : binK .andNot (.int k a) (.int k' b) K = (k = k' ∧ K (.int k (iandn k a b))) := nd rfl
@[simp ↓] theorem bi_eql {k k' : IntKind} {a b : Int} {K : Value → Prop} : binK .eql (.int k a) (.int k' b) K = (k = k' ∧ K (.bool (a == b))) := nd rfl
@[simp ↓] theorem bi_neq {k k' : IntKind} {a b : Int} {K : Value → Prop} : binK .neq (.int k a) (.int k' b) K = (k = k' ∧ K (.bool (a != b))) := nd rfl
@[simp ↓] theorem bi_lss {k k' : IntKind} {a b : Int} {K : Value → Prop} : binK .lss (.int k a) (.int k' b) K = (k = k' ∧ K (.bool (decide (a < b)))) := nd rfl
@[simp ↓] theorem bi_leq {k k' : IntKind} {a b : Int} {K : Value → Prop} : binK .leq (.int k a) (.int k' b) K = (k = k' ∧ K (.bool (decide (a ≤ b)))) := nd rfl
@[simp ↓] theorem bi_gtr {k k' : IntKind} {a b : Int} {K : Value → Prop} : binK .gtr (.int k a) (.int k' b) K = (k = k' ∧ K (.bool (decide (b < a)))) := nd rfl
@[simp ↓] theorem bi_geq {k k' : IntKind} {a b : Int} {K : Value → Prop} : binK .geq (.int k a) (.int k' b) K = (k = k' ∧ K (.bool (decide (b ≤ a)))) := nd rfl
@[simp ↓] theorem bs_add {a b : ByteArray} {K : Value → Prop} : binK .add (.string a) (.string b) K = (((a.size + b.size : Nat) : Int) ≤ 9223372036854775807 ∧ K (.string (a ++ b))) := nd rfl
@[simp ↓] theorem bs_eql {a b : ByteArray} {K : Value → Prop} : binK .eql (.string a) (.string b) K = (K (.bool (decide (a = b)))) := nd rfl
@[simp ↓] theorem bs_neq {a b : ByteArray} {K : Value → Prop} : binK .neq (.string a) (.string b) K = (K (.bool (!decide (a = b)))) := nd rfl
@[simp ↓] theorem bs_lss {a b : ByteArray} {K : Value → Prop} : binK .lss (.string a) (.string b) K = (K (.bool (Op.bytesLess a.data.toList b.data.toList))) := nd rfl
@[simp ↓] theorem bs_leq {a b : ByteArray} {K : Value → Prop} : binK .leq (.string a) (.string b) K = (K (.bool (Op.bytesLess a.data.toList b.data.toList || decide (a = b)))) := nd rfl
@[simp ↓] theorem bs_gtr {a b : ByteArray} {K : Value → Prop} : binK .gtr (.string a) (.string b) K = (K (.bool (!(Op.bytesLess a.data.toList b.data.toList || decide (a = b))))) := nd rfl
@[simp ↓] theorem bs_geq {a b : ByteArray} {K : Value → Prop} : binK .geq (.string a) (.string b) K = (K (.bool (!(Op.bytesLess a.data.toList b.data.toList)))) := nd rfl
@[simp ↓] theorem un_neg {k : IntKind} {a : Int} {K : Value → Prop} : unK .neg (.int k a) K = (K (.int k (k.wrap (0 - a)))) := nd rfl
@[simp ↓] theorem un_xor {k : IntKind} {a : Int} {K : Value → Prop} : unK .xor (.int k a) K = (K (.int k (inot k a))) := nd rfl
@[simp ↓] theorem un_not {a : Bool} {K : Value → Prop} : unK .not (.bool a) K = (K (.bool (!a))) := nd rfl
end

/-- A LOOP: what holds at its head; each exit goes on with what is still to be done. -/
theorem VV0_loop {P : Program} {G : Nat → DV} {n : List Blk} {Q : DX → St → Prop} {s : St} {st : List Fr} {a : DC} (I : St → Prop) (μ : St → Nat) (h0 : ∃ s', Wk G n s s' ∧ I s')
    (h1 : ∀ s, I s → ∀ B : DX → St → Prop, (∀ s1, (∃ s2, Wk G n s1 s2 ∧ I s2 ∧ μ s2 < μ s) → B .nrm s1) → (∀ i s1, kon0 P G n st Q (.ext i) s1 → B (.ext i) s1) → (∀ s1, kon0 P G n st Q .ret s1 → B .ret s1) → VV0 P G n a s [] B) :
    VV0 P G n (.loop a) s st Q := by
  rw [VV0, vc_loop]
  refine ⟨I, μ, h0, fun s hs => ?_⟩
  exact h1 s hs _ (fun s1 h => h) (fun i s1 h => h) (fun s1 h => h)

/-- The function's end. -/
def RR0 (h : List Blk) (rs : List DR) (v : DV) (h' : List Blk) (x : DX) (s : St) : Prop :=
  match x with
  | .nrm | .ret => ∃ ds, resD s.h s.t rs = some ds ∧ WkV h (mkRes ds) s.h v h'
  | _ => False
/-- The results are there. -/
def RE0 (h : List Blk) (ds : Option (List DV)) (h1 : List Blk) (v : DV) (h' : List Blk) : Prop := ∃ l, ds = some l ∧ WkV h (mkRes l) h1 v h'
theorem RR0_nrm {h : List Blk} {rs : List DR} {v : DV} {h' : List Blk} {t : List DV} {h1 : List Blk} : RR0 h rs v h' .nrm ⟨t, h1⟩ = RE0 h (resD h1 t rs) h1 v h' := nd rfl
theorem RR0_ret {h : List Blk} {rs : List DR} {v : DV} {h' : List Blk} {t : List DV} {h1 : List Blk} : RR0 h rs v h' .ret ⟨t, h1⟩ = RE0 h (resD h1 t rs) h1 v h' := nd rfl
theorem RE0_some {h : List Blk} {l : List DV} {h1 : List Blk} {v : DV} {h' : List Blk} : RE0 h (some l) h1 v h' = WkV h (mkRes l) h1 v h' := by simp [RE0]
theorem RE0_same {h : List Blk} {v : DV} : WkV h v h v h = True := eq_true WkV.refl

theorem Ok_by0 {P : Program} {G : Nat → DV} {f : FuncId} {fn : Func} {d : DC} {rs : List DR} (hf : P.funcs[f]? = some fn) (hc : fn.body.bind (cCode P) = some d) (hrs : cRes P fn.results.toList = some rs) {args : List DV} {h : List Blk} {v : DV} {h' : List Blk} (n : Nat) (hn : fn.ntmps = args.length + n)
    (H : VV0 P G h d ⟨args ++ List.replicate n .any, h⟩ [] (RR0 h rs v h')) : Ok P G f args h v h' := by
  refine Ok_of_code hf hc hrs n hn (vc_mono d (fun x s hx => ?_) H)
  cases x <;> exact hx

@[simp] theorem ev_t {G : Nat → DV} {t : List DV} {n : Nat} : Opd.ev G t (.t n) = gS t n := gS_eq t n
@[simp] theorem ev_c {G : Nat → DV} {t : List DV} {v : DV} : Opd.ev G t (.c v) = v := nd rfl
@[simp] theorem ev_g {G : Nat → DV} {t : List DV} {n : Nat} : Opd.ev G t (.g n) = G n := nd rfl
@[simp] theorem resD_nil {h : List Blk} {t : List DV} : resD h t [] = some [] := nd rfl
@[simp] theorem resD_tmp {h : List Blk} {t : List DV} {n : Nat} {l : List DR} : resD h t (.tmp n :: l) = (resD h t l).map (gS t n :: ·) := by rw [← gS_eq]; rfl
@[simp] theorem resD_cell {h : List Blk} {t : List DV} {a : Nat} {g : Bool} {sz : Nat} {l : List DR} : resD h t (.cell a g sz :: l) = match gS t a, resD h t l with
    | .ptr b i o x, some r => match h[b]? with
      | some (.cells bsz els) => if x = els.length ∧ o + sz ≤ bsz then some (sub (els.getD i .any) o sz g :: r) else none
      | _ => none
    | _, _ => none := by rw [← gS_eq]; exact nd rfl

/-- The same, but for the kernel: nothing here unfolds. -/
structure KON (P : Program) (G : Nat → DV) (n : List Blk) (st : List Fr) (Q : DX → St → Prop) (x : DX) (s : St) : Prop where
  out : kon0 P G n st Q x s
structure VV (P : Program) (G : Nat → DV) (n : List Blk) (c : DC) (s : St) (st : List Fr) (Q : DX → St → Prop) : Prop where
  out : VV0 P G n c s st Q
structure LL (P : Program) (G : Nat → DV) (n : List Blk) (ops : List DOper) (t : List DV) (h : List Blk) (st : List Fr) (Q : DX → St → Prop) : Prop where
  out : LL0 P G n ops t h st Q
structure KK (P : Program) (G : Nat → DV) (n : List Blk) (dst : Option Nat) (l : List DOper) (t : List DV) (st : List Fr) (Q : DX → St → Prop) (v : DV) (h : List Blk) : Prop where
  out : KK0 P G n dst l t st Q v h
structure CC (P : Program) (G : Nat → DV) (n : List Blk) (d : DV) (a b : DC) (s : St) (st : List Fr) (Q : DX → St → Prop) : Prop where
  out : CC0 P G n d a b s st Q
structure GG (P : Program) (G : Nat → DV) (n : List Blk) (d : DV) (want : Bool) (dst : Option Nat) (op : DO) (l : List DOper) (t : List DV) (h : List Blk) (st : List Fr) (Q : DX → St → Prop) : Prop where
  out : GG0 P G n d want dst op l t h st Q
structure PP (P : Program) (G : Nat → DV) (n : List Blk) (d a b : DV) (dst : Option Nat) (l : List DOper) (t : List DV) (h : List Blk) (st : List Fr) (Q : DX → St → Prop) : Prop where
  out : PP0 P G n d a b dst l t h st Q
structure FF (P : Program) (G : Nat → DV) (n : List Blk) (f : FuncId) (args : List DV) (dst : Option Nat) (l : List DOper) (t : List DV) (h : List Blk) (st : List Fr) (Q : DX → St → Prop) : Prop where
  out : FF0 P G n f args dst l t h st Q
/-- An append, its slices there. -/
structure AA (P : Program) (G : Nat → DV) (n : List Blk) (sz bytes : Nat) (dx dy : DV) (dst : Option Nat) (l : List DOper) (t : List DV) (h : List Blk) (st : List Fr) (Q : DX → St → Prop) : Prop where
  out : vcO P G (.app sz bytes (.c dx) (.c dy)) (Opd.ev G []) h (KK P G n dst l t st Q)
/-- A new slice, its length and its capacity there. -/
structure MK (P : Program) (G : Nat → DV) (n : List Blk) (g : Bool) (sz bytes : Nat) (zero dx dy : DV) (dst : Option Nat) (l : List DOper) (t : List DV) (h : List Blk) (st : List Fr) (Q : DX → St → Prop) : Prop where
  out : vcO P G (.mks g sz bytes zero (.c dx) (.c dy)) (Opd.ev G []) h (KK P G n dst l t st Q)
/-- A call of a function's value. -/
structure CV (P : Program) (G : Nat → DV) (n : List Blk) (x : DV) (args : List DV) (dst : Option Nat) (l : List DOper) (t : List DV) (h : List Blk) (st : List Fr) (Q : DX → St → Prop) : Prop where
  out : match x with | .fn (.func f) first cap => cFunc P f = true ∧ FF0 P G n f (first ++ args ++ cap) dst l t h st Q | _ => False
/-- A call of a method. -/
structure IV (P : Program) (G : Nat → DV) (n : List Blk) (name : String) (x : DV) (args : List DV) (dst : Option Nat) (l : List DOper) (t : List DV) (h : List Blk) (st : List Fr) (Q : DX → St → Prop) : Prop where
  out : match x with | .iface ty d => (match methOf P ty name with | some f => cFunc P f = true ∧ FF0 P G n f (d :: args) dst l t h st Q | none => False) | _ => False
structure RR (h : List Blk) (rs : List DR) (v : DV) (h' : List Blk) (x : DX) (s : St) : Prop where
  out : RR0 h rs v h' x s
structure RE (h : List Blk) (ds : Option (List DV)) (h1 : List Blk) (v : DV) (h' : List Blk) : Prop where
  out : RE0 h ds h1 v h'
theorem KON_e : @KON = @kon0 := by
  funext P G n st Q x s
  exact propext ⟨fun x => x.out, fun x => ⟨x⟩⟩
theorem VV_e : @VV = @VV0 := by
  funext P G n c s st Q
  exact propext ⟨fun x => x.out, fun x => ⟨x⟩⟩
theorem LL_e : @LL = @LL0 := by
  funext P G n ops t h st Q
  exact propext ⟨fun x => x.out, fun x => ⟨x⟩⟩
theorem KK_e : @KK = @KK0 := by
  funext P G n dst l t st Q v h
  exact propext ⟨fun x => x.out, fun x => ⟨x⟩⟩
theorem CC_e : @CC = @CC0 := by
  funext P G n d a b s st Q
  exact propext ⟨fun x => x.out, fun x => ⟨x⟩⟩
theorem GG_e : @GG = @GG0 := by
  funext P G n d want dst op l t h st Q
  exact propext ⟨fun x => x.out, fun x => ⟨x⟩⟩
theorem PP_e : @PP = @PP0 := by
  funext P G n d a b dst l t h st Q
  exact propext ⟨fun x => x.out, fun x => ⟨x⟩⟩
theorem FF_e : @FF = @FF0 := by
  funext P G n f args dst l t h st Q
  exact propext ⟨fun x => x.out, fun x => ⟨x⟩⟩
theorem RR_e : @RR = @RR0 := by
  funext h rs v h1 x s
  exact propext ⟨fun x => x.out, fun x => ⟨x⟩⟩
theorem RE_e : @RE = @RE0 := by
  funext h ds h1 v h2
  exact propext ⟨fun x => x.out, fun x => ⟨x⟩⟩

section
variable {P : Program} {G : Nat → DV} {n : List Blk} {Q : DX → St → Prop} {s s' : St} {st : List Fr} {l : List DOper} {t : List DV} {h : List Blk} {dst : Option Nat} {v : DV}
@[simp] theorem KON_nil {x : DX} : KON P G n [] Q x s = Q x s := by
  simp only [KON_e, VV_e, LL_e, KK_e, CC_e, GG_e, PP_e, FF_e, RR_e, RE_e]
  exact kon0_nil
@[simp] theorem KON_seq_nrm {b : DC} : KON P G n (.seq b :: st) Q .nrm s = VV P G n b s st Q := by
  simp only [KON_e, VV_e, LL_e, KK_e, CC_e, GG_e, PP_e, FF_e, RR_e, RE_e]
  exact kon0_seq_nrm
@[simp] theorem KON_seq_ret {b : DC} : KON P G n (.seq b :: st) Q .ret s = KON P G n st Q .ret s := by
  simp only [KON_e, VV_e, LL_e, KK_e, CC_e, GG_e, PP_e, FF_e, RR_e, RE_e]
  exact kon0_seq_ret
@[simp] theorem KON_seq_ext {b : DC} {i : Nat} : KON P G n (.seq b :: st) Q (.ext i) s = KON P G n st Q (.ext i) s := by
  simp only [KON_e, VV_e, LL_e, KK_e, CC_e, GG_e, PP_e, FF_e, RR_e, RE_e]
  exact kon0_seq_ext
@[simp] theorem KON_blk_nrm {i : Nat} : KON P G n (.blk i :: st) Q .nrm s = KON P G n st Q .nrm s := by
  simp only [KON_e, VV_e, LL_e, KK_e, CC_e, GG_e, PP_e, FF_e, RR_e, RE_e]
  exact kon0_blk_nrm
@[simp] theorem KON_blk_ret {i : Nat} : KON P G n (.blk i :: st) Q .ret s = KON P G n st Q .ret s := by
  simp only [KON_e, VV_e, LL_e, KK_e, CC_e, GG_e, PP_e, FF_e, RR_e, RE_e]
  exact kon0_blk_ret
@[simp] theorem KON_blk_same {i : Nat} : KON P G n (.blk i :: st) Q (.ext i) s = KON P G n st Q .nrm s := by
  simp only [KON_e, VV_e, LL_e, KK_e, CC_e, GG_e, PP_e, FF_e, RR_e, RE_e]
  exact kon0_blk_same
theorem KON_blk_ext {i j : Nat} (hij : j ≠ i) : KON P G n (.blk i :: st) Q (.ext j) s = KON P G n st Q (.ext j) s := by
  simp only [KON_e, VV_e, LL_e, KK_e, CC_e, GG_e, PP_e, FF_e, RR_e, RE_e]
  exact kon0_blk_ext hij
@[simp] theorem VV_skip : VV P G n .skip s st Q = KON P G n st Q .nrm s := by
  simp only [KON_e, VV_e, LL_e, KK_e, CC_e, GG_e, PP_e, FF_e, RR_e, RE_e]
  exact VV0_skip
@[simp] theorem VV_rg {ops : List DOper} : VV P G n (.rg ops) ⟨t, h⟩ st Q = LL P G n ops t h st Q := by
  simp only [KON_e, VV_e, LL_e, KK_e, CC_e, GG_e, PP_e, FF_e, RR_e, RE_e]
  exact VV0_rg
@[simp] theorem VV_seq {a b : DC} : VV P G n (.seq a b) s st Q = VV P G n a s (.seq b :: st) Q := by
  simp only [KON_e, VV_e, LL_e, KK_e, CC_e, GG_e, PP_e, FF_e, RR_e, RE_e]
  exact VV0_seq
@[simp] theorem VV_cond {c : Opd} {a b : DC} : VV P G n (.cond c a b) ⟨t, h⟩ st Q = CC P G n (c.ev G t) a b ⟨t, h⟩ st Q := by
  simp only [KON_e, VV_e, LL_e, KK_e, CC_e, GG_e, PP_e, FF_e, RR_e, RE_e]
  exact VV0_cond
@[simp] theorem VV_block {id : Nat} {a : DC} : VV P G n (.block id a) s st Q = VV P G n a s (.blk id :: st) Q := by
  simp only [KON_e, VV_e, LL_e, KK_e, CC_e, GG_e, PP_e, FF_e, RR_e, RE_e]
  exact VV0_block
@[simp] theorem VV_exit {id : Nat} : VV P G n (.exit id) s st Q = KON P G n st Q (.ext id) s := by
  simp only [KON_e, VV_e, LL_e, KK_e, CC_e, GG_e, PP_e, FF_e, RR_e, RE_e]
  exact VV0_exit
@[simp] theorem VV_ret : VV P G n .ret s st Q = KON P G n st Q .ret s := by
  simp only [KON_e, VV_e, LL_e, KK_e, CC_e, GG_e, PP_e, FF_e, RR_e, RE_e]
  exact VV0_ret
@[simp] theorem CC_true {a b : DC} : CC P G n (.p (.bool true)) a b s st Q = VV P G n a s st Q := by
  simp only [KON_e, VV_e, LL_e, KK_e, CC_e, GG_e, PP_e, FF_e, RR_e, RE_e]
  exact CC0_true
@[simp] theorem CC_false {a b : DC} : CC P G n (.p (.bool false)) a b s st Q = VV P G n b s st Q := by
  simp only [KON_e, VV_e, LL_e, KK_e, CC_e, GG_e, PP_e, FF_e, RR_e, RE_e]
  exact CC0_false
@[simp] theorem KK_none : KK P G n none l t st Q v h = LL P G n l t h st Q := by
  simp only [KON_e, VV_e, LL_e, KK_e, CC_e, GG_e, PP_e, FF_e, RR_e, RE_e]
  exact KK0_none
@[simp] theorem KK_some {d : Nat} : KK P G n (some d) l t st Q v h = LL P G n l (sS t d v) h st Q := by
  simp only [KON_e, VV_e, LL_e, KK_e, CC_e, GG_e, PP_e, FF_e, RR_e, RE_e]
  exact KK0_some
@[simp] theorem GG_pos {op : DO} {want : Bool} : GG P G n (.p (.bool want)) want dst op l t h st Q = LL P G n (⟨dst, op, none⟩ :: l) t h st Q := by
  simp only [KON_e, VV_e, LL_e, KK_e, CC_e, GG_e, PP_e, FF_e, RR_e, RE_e]
  exact GG0_pos
@[simp] theorem GG_un {op : DO} {want : Bool} : GG P G n (.tup []) want dst op l t h st Q = KK P G n dst l t st Q (.tup []) h := by
  simp only [KON_e, VV_e, LL_e, KK_e, CC_e, GG_e, PP_e, FF_e, RR_e, RE_e]
  exact GG0_un
@[simp] theorem GG_tf {op : DO} : GG P G n (.p (.bool true)) false dst op l t h st Q = KK P G n dst l t st Q (.tup []) h := by
  simp only [KON_e, VV_e, LL_e, KK_e, CC_e, GG_e, PP_e, FF_e, RR_e, RE_e]
  exact GG0_tf
@[simp] theorem GG_ft {op : DO} : GG P G n (.p (.bool false)) true dst op l t h st Q = KK P G n dst l t st Q (.tup []) h := by
  simp only [KON_e, VV_e, LL_e, KK_e, CC_e, GG_e, PP_e, FF_e, RR_e, RE_e]
  exact GG0_ft
@[simp] theorem PP_true {a b : DV} : PP P G n (.p (.bool true)) a b dst l t h st Q = KK P G n dst l t st Q a h := by
  simp only [KON_e, VV_e, LL_e, KK_e, CC_e, GG_e, PP_e, FF_e, RR_e, RE_e]
  exact PP0_true
@[simp] theorem PP_false {a b : DV} : PP P G n (.p (.bool false)) a b dst l t h st Q = KK P G n dst l t st Q b h := by
  simp only [KON_e, VV_e, LL_e, KK_e, CC_e, GG_e, PP_e, FF_e, RR_e, RE_e]
  exact PP0_false
@[simp] theorem LL_nil : LL P G n [] t h st Q = KON P G n st Q .nrm ⟨t, h⟩ := by
  simp only [KON_e, VV_e, LL_e, KK_e, CC_e, GG_e, PP_e, FF_e, RR_e, RE_e]
  exact LL0_nil
@[simp] theorem LL_guard {g : Nat} {want : Bool} {op : DO} : LL P G n (⟨dst, op, some (g, want)⟩ :: l) t h st Q = GG P G n (gS t g) want dst op l t h st Q := by
  simp only [KON_e, VV_e, LL_e, KK_e, CC_e, GG_e, PP_e, FF_e, RR_e, RE_e]
  exact LL0_guard
theorem LL_step {op : DO} : LL P G n (⟨dst, op, none⟩ :: l) t h st Q = vcO P G op (Opd.ev G t) h (KK P G n dst l t st Q) := by
  simp only [KON_e, VV_e, LL_e, KK_e, CC_e, GG_e, PP_e, FF_e, RR_e, RE_e]
  exact LL0_step
@[simp] theorem LL_pick {c a b : Opd} : LL P G n (⟨dst, .pick c a b, none⟩ :: l) t h st Q = PP P G n (c.ev G t) (a.ev G t) (b.ev G t) dst l t h st Q := by
  simp only [KON_e, VV_e, LL_e, KK_e, CC_e, GG_e, PP_e, FF_e, RR_e, RE_e]
  exact LL0_pick
@[simp] theorem LL_call {f : FuncId} {args : List Opd} : LL P G n (⟨dst, .callr f args, none⟩ :: l) t h st Q = FF P G n f (args.map (Opd.ev G t)) dst l t h st Q := by
  simp only [KON_e, VV_e, LL_e, KK_e, CC_e, GG_e, PP_e, FF_e, RR_e, RE_e]
  exact LL0_call
@[simp] theorem LL_slca {um usz ug ux ulo uhi} : LL P G n (⟨dst, .slca um usz ug ux ulo uhi, none⟩ :: l) t h st Q = vcO P G (.slca um usz ug ux ulo uhi) (Opd.ev G t) h (KK P G n dst l t st Q) := LL_step
@[simp] theorem LL_stop : LL P G n (⟨dst, .stop, none⟩ :: l) t h st Q = False := LL_step
@[simp] theorem LL_bin {uop ux uy} : LL P G n (⟨dst, .bin uop ux uy, none⟩ :: l) t h st Q = vcO P G (.bin uop ux uy) (Opd.ev G t) h (KK P G n dst l t st Q) := by
  simp only [KON_e, VV_e, LL_e, KK_e, CC_e, GG_e, PP_e, FF_e, RR_e, RE_e]
  exact LL0_bin
@[simp] theorem LL_eqb {uneg ux uy} : LL P G n (⟨dst, .eqb uneg ux uy, none⟩ :: l) t h st Q = vcO P G (.eqb uneg ux uy) (Opd.ev G t) h (KK P G n dst l t st Q) := by
  simp only [KON_e, VV_e, LL_e, KK_e, CC_e, GG_e, PP_e, FF_e, RR_e, RE_e]
  exact LL0_eqb
@[simp] theorem LL_eqn {uneg uk ux} : LL P G n (⟨dst, .eqn uneg uk ux, none⟩ :: l) t h st Q = vcO P G (.eqn uneg uk ux) (Opd.ev G t) h (KK P G n dst l t st Q) := by
  simp only [KON_e, VV_e, LL_e, KK_e, CC_e, GG_e, PP_e, FF_e, RR_e, RE_e]
  exact LL0_eqn
@[simp] theorem LL_eqi {uneg ux uy} : LL P G n (⟨dst, .eqi uneg ux uy, none⟩ :: l) t h st Q = vcO P G (.eqi uneg ux uy) (Opd.ev G t) h (KK P G n dst l t st Q) := by
  simp only [KON_e, VV_e, LL_e, KK_e, CC_e, GG_e, PP_e, FF_e, RR_e, RE_e]
  exact LL0_eqi
@[simp] theorem LL_eqs {uneg uks ux uy} : LL P G n (⟨dst, .eqs uneg uks ux uy, none⟩ :: l) t h st Q = vcO P G (.eqs uneg uks ux uy) (Opd.ev G t) h (KK P G n dst l t st Q) := by
  simp only [KON_e, VV_e, LL_e, KK_e, CC_e, GG_e, PP_e, FF_e, RR_e, RE_e]
  exact LL0_eqs
@[simp] theorem LL_un {uop ux} : LL P G n (⟨dst, .un uop ux, none⟩ :: l) t h st Q = vcO P G (.un uop ux) (Opd.ev G t) h (KK P G n dst l t st Q) := by
  simp only [KON_e, VV_e, LL_e, KK_e, CC_e, GG_e, PP_e, FF_e, RR_e, RE_e]
  exact LL0_un
@[simp] theorem LL_cint {uk ux} : LL P G n (⟨dst, .cint uk ux, none⟩ :: l) t h st Q = vcO P G (.cint uk ux) (Opd.ev G t) h (KK P G n dst l t st Q) := by
  simp only [KON_e, VV_e, LL_e, KK_e, CC_e, GG_e, PP_e, FF_e, RR_e, RE_e]
  exact LL0_cint
@[simp] theorem LL_cstr {ux} : LL P G n (⟨dst, .cstr ux, none⟩ :: l) t h st Q = vcO P G (.cstr ux) (Opd.ev G t) h (KK P G n dst l t st Q) := by
  simp only [KON_e, VV_e, LL_e, KK_e, CC_e, GG_e, PP_e, FF_e, RR_e, RE_e]
  exact LL0_cstr
@[simp] theorem LL_b2s {ux} : LL P G n (⟨dst, .b2s ux, none⟩ :: l) t h st Q = vcO P G (.b2s ux) (Opd.ev G t) h (KK P G n dst l t st Q) := by
  simp only [KON_e, VV_e, LL_e, KK_e, CC_e, GG_e, PP_e, FF_e, RR_e, RE_e]
  exact LL0_b2s
@[simp] theorem LL_s2b {ux} : LL P G n (⟨dst, .s2b ux, none⟩ :: l) t h st Q = vcO P G (.s2b ux) (Opd.ev G t) h (KK P G n dst l t st Q) := by
  simp only [KON_e, VV_e, LL_e, KK_e, CC_e, GG_e, PP_e, FF_e, RR_e, RE_e]
  exact LL0_s2b
@[simp] theorem LL_lens {ux} : LL P G n (⟨dst, .lens ux, none⟩ :: l) t h st Q = vcO P G (.lens ux) (Opd.ev G t) h (KK P G n dst l t st Q) := by
  simp only [KON_e, VV_e, LL_e, KK_e, CC_e, GG_e, PP_e, FF_e, RR_e, RE_e]
  exact LL0_lens
@[simp] theorem LL_lenl {ux} : LL P G n (⟨dst, .lenl ux, none⟩ :: l) t h st Q = vcO P G (.lenl ux) (Opd.ev G t) h (KK P G n dst l t st Q) := by
  simp only [KON_e, VV_e, LL_e, KK_e, CC_e, GG_e, PP_e, FF_e, RR_e, RE_e]
  exact LL0_lenl
@[simp] theorem LL_lenm {ux} : LL P G n (⟨dst, .lenm ux, none⟩ :: l) t h st Q = vcO P G (.lenm ux) (Opd.ev G t) h (KK P G n dst l t st Q) := by
  simp only [KON_e, VV_e, LL_e, KK_e, CC_e, GG_e, PP_e, FF_e, RR_e, RE_e]
  exact LL0_lenm
@[simp] theorem LL_mm {umx ux uy} : LL P G n (⟨dst, .mm umx ux uy, none⟩ :: l) t h st Q = vcO P G (.mm umx ux uy) (Opd.ev G t) h (KK P G n dst l t st Q) := by
  simp only [KON_e, VV_e, LL_e, KK_e, CC_e, GG_e, PP_e, FF_e, RR_e, RE_e]
  exact LL0_mm
@[simp] theorem LL_slcs {ux ulo uhi} : LL P G n (⟨dst, .slcs ux ulo uhi, none⟩ :: l) t h st Q = vcO P G (.slcs ux ulo uhi) (Opd.ev G t) h (KK P G n dst l t st Q) := by
  simp only [KON_e, VV_e, LL_e, KK_e, CC_e, GG_e, PP_e, FF_e, RR_e, RE_e]
  exact LL0_slcs
@[simp] theorem LL_slcl {usz ux ulo uhi} : LL P G n (⟨dst, .slcl usz ux ulo uhi, none⟩ :: l) t h st Q = vcO P G (.slcl usz ux ulo uhi) (Opd.ev G t) h (KK P G n dst l t st Q) := by
  simp only [KON_e, VV_e, LL_e, KK_e, CC_e, GG_e, PP_e, FF_e, RR_e, RE_e]
  exact LL0_slcl
@[simp] theorem LL_idxs {ux ui} : LL P G n (⟨dst, .idxs ux ui, none⟩ :: l) t h st Q = vcO P G (.idxs ux ui) (Opd.ev G t) h (KK P G n dst l t st Q) := by
  simp only [KON_e, VV_e, LL_e, KK_e, CC_e, GG_e, PP_e, FF_e, RR_e, RE_e]
  exact LL0_idxs
@[simp] theorem LL_idxa {um usz ug ux ui} : LL P G n (⟨dst, .idxa um usz ug ux ui, none⟩ :: l) t h st Q = vcO P G (.idxa um usz ug ux ui) (Opd.ev G t) h (KK P G n dst l t st Q) := by
  simp only [KON_e, VV_e, LL_e, KK_e, CC_e, GG_e, PP_e, FF_e, RR_e, RE_e]
  exact LL0_idxa
@[simp] theorem LL_fld {uo usz ug ux} : LL P G n (⟨dst, .fld uo usz ug ux, none⟩ :: l) t h st Q = vcO P G (.fld uo usz ug ux) (Opd.ev G t) h (KK P G n dst l t st Q) := by
  simp only [KON_e, VV_e, LL_e, KK_e, CC_e, GG_e, PP_e, FF_e, RR_e, RE_e]
  exact LL0_fld
@[simp] theorem LL_litz {usz uels} : LL P G n (⟨dst, .litz usz uels, none⟩ :: l) t h st Q = vcO P G (.litz usz uels) (Opd.ev G t) h (KK P G n dst l t st Q) := by
  simp only [KON_e, VV_e, LL_e, KK_e, CC_e, GG_e, PP_e, FF_e, RR_e, RE_e]
  exact LL0_litz
@[simp] theorem LL_bld {uzero uparts} : LL P G n (⟨dst, .bld uzero uparts, none⟩ :: l) t h st Q = vcO P G (.bld uzero uparts) (Opd.ev G t) h (KK P G n dst l t st Q) := by
  simp only [KON_e, VV_e, LL_e, KK_e, CC_e, GG_e, PP_e, FF_e, RR_e, RE_e]
  exact LL0_bld
@[simp] theorem LL_lit {usz uels} : LL P G n (⟨dst, .lit usz uels, none⟩ :: l) t h st Q = vcO P G (.lit usz uels) (Opd.ev G t) h (KK P G n dst l t st Q) := by
  simp only [KON_e, VV_e, LL_e, KK_e, CC_e, GG_e, PP_e, FF_e, RR_e, RE_e]
  exact LL0_lit
@[simp] theorem LL_alloc {usz uzero} : LL P G n (⟨dst, .alloc usz uzero, none⟩ :: l) t h st Q = vcO P G (.alloc usz uzero) (Opd.ev G t) h (KK P G n dst l t st Q) := by
  simp only [KON_e, VV_e, LL_e, KK_e, CC_e, GG_e, PP_e, FF_e, RR_e, RE_e]
  exact LL0_alloc
@[simp] theorem LL_box {ux} : LL P G n (⟨dst, .box ux, none⟩ :: l) t h st Q = vcO P G (.box ux) (Opd.ev G t) h (KK P G n dst l t st Q) := by
  simp only [KON_e, VV_e, LL_e, KK_e, CC_e, GG_e, PP_e, FF_e, RR_e, RE_e]
  exact LL0_box
@[simp] theorem LL_load {ug usz ua} : LL P G n (⟨dst, .load ug usz ua, none⟩ :: l) t h st Q = vcO P G (.load ug usz ua) (Opd.ev G t) h (KK P G n dst l t st Q) := by
  simp only [KON_e, VV_e, LL_e, KK_e, CC_e, GG_e, PP_e, FF_e, RR_e, RE_e]
  exact LL0_load
@[simp] theorem LL_store {usz ua ux} : LL P G n (⟨dst, .store usz ua ux, none⟩ :: l) t h st Q = vcO P G (.store usz ua ux) (Opd.ev G t) h (KK P G n dst l t st Q) := by
  simp only [KON_e, VV_e, LL_e, KK_e, CC_e, GG_e, PP_e, FF_e, RR_e, RE_e]
  exact LL0_store
@[simp] theorem LL_nilchk {uk ux} : LL P G n (⟨dst, .nilchk uk ux, none⟩ :: l) t h st Q = vcO P G (.nilchk uk ux) (Opd.ev G t) h (KK P G n dst l t st Q) := by
  simp only [KON_e, VV_e, LL_e, KK_e, CC_e, GG_e, PP_e, FF_e, RR_e, RE_e]
  exact LL0_nilchk
@[simp] theorem LL_faddr {ug uo usz ua} : LL P G n (⟨dst, .faddr ug uo usz ua, none⟩ :: l) t h st Q = vcO P G (.faddr ug uo usz ua) (Opd.ev G t) h (KK P G n dst l t st Q) := by
  simp only [KON_e, VV_e, LL_e, KK_e, CC_e, GG_e, PP_e, FF_e, RR_e, RE_e]
  exact LL0_faddr
@[simp] theorem LL_iaddr {usz ux ui} : LL P G n (⟨dst, .iaddr usz ux ui, none⟩ :: l) t h st Q = vcO P G (.iaddr usz ux ui) (Opd.ev G t) h (KK P G n dst l t st Q) := by
  simp only [KON_e, VV_e, LL_e, KK_e, CC_e, GG_e, PP_e, FF_e, RR_e, RE_e]
  exact LL0_iaddr
@[simp] theorem LL_iaddra {um usz ug ux ui} : LL P G n (⟨dst, .iaddra um usz ug ux ui, none⟩ :: l) t h st Q = vcO P G (.iaddra um usz ug ux ui) (Opd.ev G t) h (KK P G n dst l t st Q) := by
  simp only [KON_e, VV_e, LL_e, KK_e, CC_e, GG_e, PP_e, FF_e, RR_e, RE_e]
  exact LL0_iaddra
@[simp] theorem LL_app {sz bytes : Nat} {x y : Opd} : LL P G n (⟨dst, .app sz bytes x y, none⟩ :: l) t h st Q = AA P G n sz bytes (x.ev G t) (y.ev G t) dst l t h st Q := by
  have h1 : LL P G n (⟨dst, .app sz bytes x y, none⟩ :: l) t h st Q = vcO P G (.app sz bytes x y) (Opd.ev G t) h (KK P G n dst l t st Q) := LL_step
  rw [h1]
  exact propext ⟨fun h => ⟨h⟩, fun h => h.out⟩
@[simp] theorem LL_capl {ux} : LL P G n (⟨dst, .capl ux, none⟩ :: l) t h st Q = vcO P G (.capl ux) (Opd.ev G t) h (KK P G n dst l t st Q) := LL_step
@[simp] theorem LL_cpy {usz ux uy} : LL P G n (⟨dst, .cpy usz ux uy, none⟩ :: l) t h st Q = vcO P G (.cpy usz ux uy) (Opd.ev G t) h (KK P G n dst l t st Q) := LL_step
@[simp] theorem LL_tas {ut uz uo ux} : LL P G n (⟨dst, .tas ut uz uo ux, none⟩ :: l) t h st Q = vcO P G (.tas ut uz uo ux) (Opd.ev G t) h (KK P G n dst l t st Q) := LL_step
@[simp] theorem LL_tai {ut uo ux} : LL P G n (⟨dst, .tai ut uo ux, none⟩ :: l) t h st Q = vcO P G (.tai ut uo ux) (Opd.ev G t) h (KK P G n dst l t st Q) := LL_step
@[simp] theorem LL_mkf {uf ua ub} : LL P G n (⟨dst, .mkf uf ua ub, none⟩ :: l) t h st Q = vcO P G (.mkf uf ua ub) (Opd.ev G t) h (KK P G n dst l t st Q) := LL_step
@[simp] theorem LL_mks {g : Bool} {sz bytes : Nat} {zero : DV} {x y : Opd} : LL P G n (⟨dst, .mks g sz bytes zero x y, none⟩ :: l) t h st Q = MK P G n g sz bytes zero (x.ev G t) (y.ev G t) dst l t h st Q := by
  have h1 : LL P G n (⟨dst, .mks g sz bytes zero x y, none⟩ :: l) t h st Q = vcO P G (.mks g sz bytes zero x y) (Opd.ev G t) h (KK P G n dst l t st Q) := LL_step
  rw [h1]
  exact propext ⟨fun h => ⟨h⟩, fun h => h.out⟩
/-- A slice that can be appended to. -/
theorem MK_sl {g : Bool} {sz bytes : Nat} {zero : DV} {k k' : IntKind} {a b : Int} (h0 : 0 ≤ a) (h1 : a ≤ b) (h2 : b * bytes ≤ 140737488355328) (hk : KK P G n dst l t st Q (.sl h.length 0 a.toNat a.toNat) (h ++ [.cells sz (List.replicate a.toNat zero)])) : MK P G n g sz bytes zero (.p (.int k a)) (.p (.int k' b)) dst l t h st Q :=
  ⟨⟨h0, h1, h2, .inl hk⟩⟩
/-- A slice whose capacity stays. -/
theorem MK_sa {g : Bool} {sz bytes : Nat} {zero : DV} {k k' : IntKind} {a b : Int} (hg : g = true ∨ sz = 1) (h0 : 0 ≤ a) (h1 : a ≤ b) (h2 : b * bytes ≤ 140737488355328) (hk : KK P G n dst l t st Q (.sa g sz h.length 0 0 a.toNat b.toNat 1) (h ++ [.cells (b.toNat * sz) [.agg (List.replicate b.toNat zero.cells).flatten]])) : MK P G n g sz bytes zero (.p (.int k a)) (.p (.int k' b)) dst l t h st Q :=
  ⟨⟨h0, h1, h2, .inr ⟨hg, hk⟩⟩⟩
@[simp] theorem LL_callv {x : Opd} {args : List Opd} : LL P G n (⟨dst, .callv true x args, none⟩ :: l) t h st Q = CV P G n (x.ev G t) (args.map (Opd.ev G t)) dst l t h st Q := by
  have h1 : LL P G n (⟨dst, .callv true x args, none⟩ :: l) t h st Q = vcO P G (.callv true x args) (Opd.ev G t) h (KK P G n dst l t st Q) := LL_step
  rw [h1]
  refine propext ⟨fun h => ⟨?_⟩, fun h => ?_⟩
  · simp only [vcO] at h
    split at h
    · rename_i f first cap hv
      rw [hv]
      obtain ⟨h1, R, h2, h3⟩ := h
      exact ⟨h1, R, h2, fun v h' hr => (h3 v h' hr).out⟩
    · exact h.elim
  · have := h.out
    simp only [vcO]
    split at this
    · rename_i f first cap hv
      rw [hv]
      obtain ⟨h1, R, h2, h3⟩ := this
      exact ⟨h1, R, h2, fun v h' hr => ⟨h3 v h' hr⟩⟩
    · exact this.elim
theorem CV_by {f : FuncId} {first cap args : List DV} (hf : cFunc P f = true) (hk : FF P G n f (first ++ args ++ cap) dst l t h st Q) : CV P G n (.fn (.func f) first cap) args dst l t h st Q := ⟨⟨hf, hk.out⟩⟩
@[simp] theorem LL_inv {name : String} {x : Opd} {args : List Opd} : LL P G n (⟨dst, .inv true name x args, none⟩ :: l) t h st Q = IV P G n name (x.ev G t) (args.map (Opd.ev G t)) dst l t h st Q := by
  have h1 : LL P G n (⟨dst, .inv true name x args, none⟩ :: l) t h st Q = vcO P G (.inv true name x args) (Opd.ev G t) h (KK P G n dst l t st Q) := LL_step
  rw [h1]
  refine propext ⟨fun h => ⟨?_⟩, fun h => ?_⟩
  · simp only [vcO] at h
    split at h
    · rename_i ty d hv
      rw [hv]
      split at h
      · rename_i f hm
        obtain ⟨h1, R, h2, h3⟩ := h
        simp only
        rw [hm]
        exact ⟨h1, R, h2, fun v h' hr => (h3 v h' hr).out⟩
      · exact h.elim
    · exact h.elim
  · have := h.out
    simp only [vcO]
    split at this
    · rename_i ty d hv
      rw [hv]
      split at this
      · rename_i f hm
        obtain ⟨h1, R, h2, h3⟩ := this
        simp only
        rw [hm]
        exact ⟨h1, R, h2, fun v h' hr => ⟨h3 v h' hr⟩⟩
      · exact this.elim
    · exact this.elim
theorem IV_by {name : String} {ty : TypeId} {f : FuncId} {d : DV} {args : List DV} (hm : methOf P ty name = some f) (hf : cFunc P f = true) (hk : FF P G n f (d :: args) dst l t h st Q) : IV P G n name (.iface ty d) args dst l t h st Q := ⟨by simp only; rw [hm]; exact ⟨hf, hk.out⟩⟩
@[simp] theorem LL_ext {ux ui} : LL P G n (⟨dst, .ext ux ui, none⟩ :: l) t h st Q = vcO P G (.ext ux ui) (Opd.ev G t) h (KK P G n dst l t st Q) := by
  simp only [KON_e, VV_e, LL_e, KK_e, CC_e, GG_e, PP_e, FF_e, RR_e, RE_e]
  exact LL0_ext
@[simp] theorem LL_ifc {ut ux} : LL P G n (⟨dst, .ifc ut ux, none⟩ :: l) t h st Q = vcO P G (.ifc ut ux) (Opd.ev G t) h (KK P G n dst l t st Q) := by
  simp only [KON_e, VV_e, LL_e, KK_e, CC_e, GG_e, PP_e, FF_e, RR_e, RE_e]
  exact LL0_ifc
@[simp] theorem LL_mov {ux} : LL P G n (⟨dst, .mov ux, none⟩ :: l) t h st Q = vcO P G (.mov ux) (Opd.ev G t) h (KK P G n dst l t st Q) := by
  simp only [KON_e, VV_e, LL_e, KK_e, CC_e, GG_e, PP_e, FF_e, RR_e, RE_e]
  exact LL0_mov
@[simp] theorem LL_mkmap : LL P G n (⟨dst, .mkmap, none⟩ :: l) t h st Q = vcO P G .mkmap (Opd.ev G t) h (KK P G n dst l t st Q) := by
  simp only [KON_e, VV_e, LL_e, KK_e, CC_e, GG_e, PP_e, FF_e, RR_e, RE_e]
  exact LL0_mkmap
@[simp] theorem LL_rngs {ux} : LL P G n (⟨dst, .rngs ux, none⟩ :: l) t h st Q = vcO P G (.rngs ux) (Opd.ev G t) h (KK P G n dst l t st Q) := by
  simp only [KON_e, VV_e, LL_e, KK_e, CC_e, GG_e, PP_e, FF_e, RR_e, RE_e]
  exact LL0_rngs
@[simp] theorem LL_nxts {ua} : LL P G n (⟨dst, .nxts ua, none⟩ :: l) t h st Q = vcO P G (.nxts ua) (Opd.ev G t) h (KK P G n dst l t st Q) := by
  simp only [KON_e, VV_e, LL_e, KK_e, CC_e, GG_e, PP_e, FF_e, RR_e, RE_e]
  exact LL0_nxts
@[simp] theorem LL_rngm {ux} : LL P G n (⟨dst, .rngm ux, none⟩ :: l) t h st Q = vcO P G (.rngm ux) (Opd.ev G t) h (KK P G n dst l t st Q) := by
  simp only [KON_e, VV_e, LL_e, KK_e, CC_e, GG_e, PP_e, FF_e, RR_e, RE_e]
  exact LL0_rngm
@[simp] theorem LL_nxtm {ua} : LL P G n (⟨dst, .nxtm ua, none⟩ :: l) t h st Q = vcO P G (.nxtm ua) (Opd.ev G t) h (KK P G n dst l t st Q) := by
  simp only [KON_e, VV_e, LL_e, KK_e, CC_e, GG_e, PP_e, FF_e, RR_e, RE_e]
  exact LL0_nxtm
@[simp] theorem LL_ent {ua} : LL P G n (⟨dst, .ent ua, none⟩ :: l) t h st Q = vcO P G (.ent ua) (Opd.ev G t) h (KK P G n dst l t st Q) := by
  simp only [KON_e, VV_e, LL_e, KK_e, CC_e, GG_e, PP_e, FF_e, RR_e, RE_e]
  exact LL0_ent
@[simp] theorem LL_mupd {uck um uk ux} : LL P G n (⟨dst, .mupd uck um uk ux, none⟩ :: l) t h st Q = vcO P G (.mupd uck um uk ux) (Opd.ev G t) h (KK P G n dst l t st Q) := by
  simp only [KON_e, VV_e, LL_e, KK_e, CC_e, GG_e, PP_e, FF_e, RR_e, RE_e]
  exact LL0_mupd
@[simp] theorem LL_look {uck uzero uok um uk} : LL P G n (⟨dst, .look uck uzero uok um uk, none⟩ :: l) t h st Q = vcO P G (.look uck uzero uok um uk) (Opd.ev G t) h (KK P G n dst l t st Q) := by
  simp only [KON_e, VV_e, LL_e, KK_e, CC_e, GG_e, PP_e, FF_e, RR_e, RE_e]
  exact LL0_look
@[simp] theorem LL_mdel {uck um uk} : LL P G n (⟨dst, .mdel uck um uk, none⟩ :: l) t h st Q = vcO P G (.mdel uck um uk) (Opd.ev G t) h (KK P G n dst l t st Q) := by
  simp only [KON_e, VV_e, LL_e, KK_e, CC_e, GG_e, PP_e, FF_e, RR_e, RE_e]
  exact LL0_mdel
theorem CC_by {x : Bool} {a b : DC} (h1 : x = true → VV P G n a s st Q) (h2 : x = false → VV P G n b s st Q) : CC P G n (.p (.bool x)) a b s st Q := by
  cases x
  · rw [CC_false]; exact h2 rfl
  · rw [CC_true]; exact h1 rfl
theorem GG_by {x : Bool} {op : DO} {want : Bool} (h1 : x = true → GG P G n (.p (.bool true)) want dst op l t h st Q) (h2 : x = false → GG P G n (.p (.bool false)) want dst op l t h st Q) : GG P G n (.p (.bool x)) want dst op l t h st Q := by
  cases x
  · exact h2 rfl
  · exact h1 rfl
theorem PP_by {x : Bool} {a b : DV} (h1 : x = true → KK P G n dst l t st Q a h) (h2 : x = false → KK P G n dst l t st Q b h) : PP P G n (.p (.bool x)) a b dst l t h st Q := by
  cases x
  · rw [PP_false]; exact h2 rfl
  · rw [PP_true]; exact h1 rfl
theorem FF_by {f : FuncId} {args : List DV} {v : DV} {h' : List Blk} (hf : Ok P G f args h v h') (hk : KK P G n dst l t st Q v h') : FF P G n f args dst l t h st Q := ⟨_, hf.toR, by rintro v1 h1 ⟨rfl, rfl⟩; exact hk.out⟩
theorem FF_byR {f : FuncId} {args : List DV} {R : DV → List Blk → Prop} (hf : OkR P G f args h R) (hk : ∀ v h', R v h' → KK P G n dst l t st Q v h') : FF P G n f args dst l t h st Q := ⟨_, hf, fun v h' hr => (hk v h' hr).out⟩
@[simp] theorem RR_nrm {h : List Blk} {rs : List DR} {v : DV} {h' : List Blk} {t : List DV} {h1 : List Blk} : RR h rs v h' .nrm ⟨t, h1⟩ = RE h (resD h1 t rs) h1 v h' := by
  rw [RR_e, RE_e]; exact RR0_nrm
@[simp] theorem RR_ret {h : List Blk} {rs : List DR} {v : DV} {h' : List Blk} {t : List DV} {h1 : List Blk} : RR h rs v h' .ret ⟨t, h1⟩ = RE h (resD h1 t rs) h1 v h' := by
  rw [RR_e, RE_e]; exact RR0_ret
@[simp] theorem RE_some {h : List Blk} {l : List DV} {h1 : List Blk} {v : DV} {h' : List Blk} : RE h (some l) h1 v h' = WkV h (mkRes l) h1 v h' := by
  rw [RE_e]; exact RE0_some
@[simp] theorem WkV_same {h : List Blk} {v : DV} : WkV h v h v h = True := eq_true WkV.refl
end

/-- A LOOP: what holds at its head; each exit goes on with what is still to be done. -/
theorem VV_loop {P : Program} {G : Nat → DV} {n : List Blk} {Q : DX → St → Prop} {s : St} {st : List Fr} {a : DC} (I : St → Prop) (μ : St → Nat) (h0 : ∃ s', Wk G n s s' ∧ I s')
    (h1 : ∀ s, I s → ∀ B : DX → St → Prop, (∀ s1, (∃ s2, Wk G n s1 s2 ∧ I s2 ∧ μ s2 < μ s) → B .nrm s1) → (∀ i s1, KON P G n st Q (.ext i) s1 → B (.ext i) s1) → (∀ s1, KON P G n st Q .ret s1 → B .ret s1) → VV P G n a s [] B) :
    VV P G n (.loop a) s st Q :=
  ⟨VV0_loop I μ h0 fun s hs B h1' h2' h3' => (h1 s hs B h1' (fun i s1 h => h2' i s1 h.out) (fun s1 h => h3' s1 h.out)).out⟩


/-! Regions that are drawn. -/
def gH : List (List Blk) → Nat → List Blk
  | [], _ => []
  | d :: _, 0 => d
  | _ :: l, n + 1 => gH l n
theorem gH_eq : ∀ (l : List (List Blk)) (n : Nat), l.getD n [] = gH l n
  | [], _ => by simp [gH]
  | d :: _, 0 => rfl
  | _ :: l, n + 1 => by simpa [gH] using gH_eq l n
@[simp] theorem gH_0 {d : List Blk} {l : List (List Blk)} : gH (d :: l) 0 = d := nd rfl
@[simp] theorem gH_1 {d : List Blk} {l : List (List Blk)} {n : Nat} : gH (d :: l) (n + 1) = gH l n := nd rfl
@[simp] theorem HPre_same {h : List Blk} : HPre h h = True := eq_true (HPre.refl h)
@[simp] theorem HPre_app {h x : List Blk} : HPre h (h ++ x) = True := eq_true (HPre.append h x)

def sP (t : List DV) (dst : Option Nat) (v : DV) : List DV :=
  match dst with
  | some d => sS t d v
  | none => t
@[simp] theorem sP_none {t : List DV} {v : DV} : sP t none v = t := nd rfl
@[simp] theorem sP_some {t : List DV} {d : Nat} {v : DV} : sP t (some d) v = sS t d v := nd rfl
theorem putL_eq (t : List DV) (dst : Option Nat) (v : DV) : putL t dst v = sP t dst v := by
  cases dst with
  | none => rfl
  | some d => exact sS_eq t d v

structure DD (P : Program) (G : Nat → DV) (n : List Blk) (ops : List DDOp) (t : List DV) (Hs : List (List Blk)) (h : List Blk) (st : List Fr) (Q : DX → St → Prop) : Prop where
  out : vcD P G ops t Hs h fun t h => KON P G n st Q .nrm ⟨t, h⟩
/-- A light one's value is there. -/
structure DK (P : Program) (G : Nat → DV) (n : List Blk) (dst : Option Nat) (l : List DDOp) (t : List DV) (Hs : List (List Blk)) (h : List Blk) (st : List Fr) (Q : DX → St → Prop) (v : DV) (h1 : List Blk) : Prop where
  out : DD P G n l (sP t dst v) Hs h st Q
/-- A heavy one's value is there. -/
structure DH (P : Program) (G : Nat → DV) (n : List Blk) (dst : Option Nat) (fr : List Nat) (l : List DDOp) (t : List DV) (Hs : List (List Blk)) (h : List Blk) (st : List Fr) (Q : DX → St → Prop) (v : DV) (h1 : List Blk) : Prop where
  out : (∀ m, m ∈ fr → HPre (Hs.getD m []) h1) ∧ DD P G n l (sP t dst v) (Hs ++ [h1]) h1 st Q
/-- A guard. -/
structure DG (P : Program) (G : Nat → DV) (n : List Blk) (d : DV) (want : Bool) (dst : Option Nat) (op : DO) (a : Nat) (fr : List Nat) (l : List DDOp) (t : List DV) (Hs : List (List Blk)) (h : List Blk) (st : List Fr) (Q : DX → St → Prop) : Prop where
  out : match d with | .p (.bool b) => if b = want then DD P G n (⟨⟨dst, op, none⟩, a, fr⟩ :: l) t Hs h st Q else DD P G n l (sP t dst (.tup [])) (if op.heavy = true then Hs ++ [h] else Hs) h st Q | .tup [] => DD P G n l (sP t dst (.tup [])) (if op.heavy = true then Hs ++ [h] else Hs) h st Q | _ => False
/-- One of two. -/
structure DP (P : Program) (G : Nat → DV) (n : List Blk) (d a b : DV) (dst : Option Nat) (l : List DDOp) (t : List DV) (Hs : List (List Blk)) (h : List Blk) (st : List Fr) (Q : DX → St → Prop) : Prop where
  out : match d with | .p (.bool c) => if c = true then DD P G n l (sP t dst a) Hs h st Q else DD P G n l (sP t dst b) Hs h st Q | _ => False
/-- An append, its slices there. -/
structure DA (P : Program) (G : Nat → DV) (n : List Blk) (sz bytes : Nat) (dx dy : DV) (dst : Option Nat) (fr : List Nat) (l : List DDOp) (t : List DV) (Hs : List (List Blk)) (h : List Blk) (st : List Fr) (Q : DX → St → Prop) : Prop where
  out : vcO P G (.app sz bytes (.c dx) (.c dy)) (Opd.ev G []) h (DH P G n dst fr l t Hs h st Q)
/-- A call. -/
structure DF (P : Program) (G : Nat → DV) (n : List Blk) (f : FuncId) (args : List DV) (dst : Option Nat) (fr : List Nat) (l : List DDOp) (t : List DV) (Hs : List (List Blk)) (h : List Blk) (st : List Fr) (Q : DX → St → Prop) : Prop where
  out : ∃ v h', Ok P G f args h v h' ∧ DH P G n dst fr l t Hs h st Q v h'
/-- A new slice. -/
structure DM (P : Program) (G : Nat → DV) (n : List Blk) (g : Bool) (sz bytes : Nat) (zero dx dy : DV) (dst : Option Nat) (fr : List Nat) (l : List DDOp) (t : List DV) (Hs : List (List Blk)) (h : List Blk) (st : List Fr) (Q : DX → St → Prop) : Prop where
  out : vcO P G (.mks g sz bytes zero (.c dx) (.c dy)) (Opd.ev G []) h (DH P G n dst fr l t Hs h st Q)
/-- A call of a function's value, of a method. -/
structure DCV (P : Program) (G : Nat → DV) (n : List Blk) (x : DV) (args : List DV) (dst : Option Nat) (fr : List Nat) (l : List DDOp) (t : List DV) (Hs : List (List Blk)) (h : List Blk) (st : List Fr) (Q : DX → St → Prop) : Prop where
  out : match x with | .fn (.func f) first cap => cFunc P f = true ∧ DF P G n f (first ++ args ++ cap) dst fr l t Hs h st Q | _ => False
structure DIV (P : Program) (G : Nat → DV) (n : List Blk) (name : String) (x : DV) (args : List DV) (dst : Option Nat) (fr : List Nat) (l : List DDOp) (t : List DV) (Hs : List (List Blk)) (h : List Blk) (st : List Fr) (Q : DX → St → Prop) : Prop where
  out : match x with | .iface ty d => (match methOf P ty name with | some f => cFunc P f = true ∧ DF P G n f (d :: args) dst fr l t Hs h st Q | none => False) | _ => False

section
variable {P : Program} {G : Nat → DV} {n : List Blk} {Q : DX → St → Prop} {s s' : St} {st : List Fr} {l : List DDOp} {t : List DV} {h h1 : List Blk} {Hs : List (List Blk)} {dst : Option Nat} {v : DV} {a : Nat} {fr : List Nat}
theorem eqO {A B : Prop} (h : A → B) (h' : B → A) : A = B := propext ⟨h, h'⟩
@[simp] theorem VV_rgd {ops : List DDOp} : VV P G n (.rgd ops) ⟨t, h⟩ st Q = DD P G n ops t [h] h st Q := by
  refine eqO (fun x => ⟨?_⟩) (fun x => ⟨?_⟩)
  · have := x.out
    rw [VV0, vc_rgd] at this
    exact vcD_mono (fun t h hk => ⟨hk⟩) _ _ _ _ this
  · rw [VV0, vc_rgd]
    exact vcD_mono (fun t h hk => hk.out) _ _ _ _ x.out
@[simp] theorem DD_nil : DD P G n [] t Hs h st Q = KON P G n st Q .nrm ⟨t, h⟩ := eqO (fun x => by have := x.out; rwa [vcD] at this) (fun x => ⟨by rwa [vcD]⟩)
@[simp] theorem DK_on : DK P G n dst l t Hs h st Q v h1 = DD P G n l (sP t dst v) Hs h st Q := eqO (fun x => x.out) (fun x => ⟨x⟩)
@[simp] theorem DH_nil : DH P G n dst [] l t Hs h st Q v h1 = DD P G n l (sP t dst v) (Hs ++ [h1]) h1 st Q := eqO (fun x => x.out.2) (fun x => ⟨by simp, x⟩)
@[simp] theorem DH_cons {m : Nat} : DH P G n dst (m :: fr) l t Hs h st Q v h1 = (HPre (gH Hs m) h1 ∧ DH P G n dst fr l t Hs h st Q v h1) :=
  eqO (fun x => ⟨by rw [← gH_eq]; exact x.out.1 m (by simp), ⟨fun k hk => x.out.1 k (by simp [hk]), x.out.2⟩⟩) (fun x => ⟨fun k hk => by
    rcases List.mem_cons.1 hk with rfl | hk
    · rw [gH_eq]; exact x.1
    · exact x.2.out.1 k hk, x.2.out.2⟩)
theorem DH_iff : DH P G n dst fr l t Hs h st Q v h1 = ((∀ m, m ∈ fr → HPre (Hs.getD m []) h1) ∧ DD P G n l (sP t dst v) (Hs ++ [h1]) h1 st Q) := eqO (fun x => x.out) (fun x => ⟨x⟩)
theorem vcO_iff {o : DO} {ev : Opd → DV} {K K' : DV → List Blk → Prop} (hK : ∀ v h, K v h ↔ K' v h) : vcO P G o ev h K = vcO P G o ev h K' := eqO (vcO_mono fun v h => (hK v h).1) (vcO_mono fun v h => (hK v h).2)
theorem DD_out {ops : List DDOp} : DD P G n ops t Hs h st Q = vcD P G ops t Hs h fun t h => KON P G n st Q .nrm ⟨t, h⟩ := eqO (fun x => x.out) (fun x => ⟨x⟩)
theorem DD_light {op : DO} (hh : op.heavy = false) : DD P G n (⟨⟨dst, op, none⟩, a, fr⟩ :: l) t Hs h st Q = vcO P G op (Opd.ev G t) (gH Hs a) (DK P G n dst l t Hs h st Q) := by
  rw [DD_out, vcD]
  simp only [stepD, hh, if_neg (show ¬ false = true by decide), gH_eq]
  exact vcO_iff fun v h1 => by rw [DK_on, DD_out, putL_eq]
theorem DD_heavy {op : DO} (hh : op.heavy = true) : DD P G n (⟨⟨dst, op, none⟩, a, fr⟩ :: l) t Hs h st Q = vcO P G op (Opd.ev G t) h (DH P G n dst fr l t Hs h st Q) := by
  rw [DD_out, vcD]
  simp only [stepD, hh, if_pos]
  exact vcO_iff fun v h1 => by
    rw [DH_iff, DD_out, putL_eq]
@[simp] theorem DD_guard {g : Nat} {want : Bool} {op : DO} : DD P G n (⟨⟨dst, op, some (g, want)⟩, a, fr⟩ :: l) t Hs h st Q = DG P G n (gS t g) want dst op a fr l t Hs h st Q := by
  rw [DD_out, vcD]
  simp only [gS_eq]
  refine eqO (fun x => ⟨?_⟩) (fun x => ?_)
  · split at x
    · rename_i b hb
      rw [hb]
      simp only
      by_cases hc : b = want
      · rw [if_pos hc] at x ⊢
        rw [DD_out, vcD]
        exact x
      · rw [if_neg hc] at x ⊢
        rw [DD_out, ← putL_eq]
        exact x
    · rename_i hb
      rw [hb]
      simp only
      rw [DD_out, ← putL_eq]
      exact x
    · exact x.elim
  · have y := x.out
    split at y
    · rename_i b hb
      rw [hb]
      simp only
      by_cases hc : b = want
      · rw [if_pos hc] at y ⊢
        rw [DD_out, vcD] at y
        exact y
      · rw [if_neg hc] at y ⊢
        rw [DD_out, ← putL_eq] at y
        exact y
    · rename_i hb
      rw [hb]
      simp only
      rw [DD_out, ← putL_eq] at y
      exact y
    · exact y.elim
@[simp] theorem DG_pos {op : DO} {want : Bool} : DG P G n (.p (.bool want)) want dst op a fr l t Hs h st Q = DD P G n (⟨⟨dst, op, none⟩, a, fr⟩ :: l) t Hs h st Q := eqO (fun x => by simpa only [if_pos] using x.out) (fun x => ⟨by simpa only [if_pos] using x⟩)
@[simp] theorem DG_un {op : DO} {want : Bool} : DG P G n (.tup []) want dst op a fr l t Hs h st Q = DD P G n l (sP t dst (.tup [])) (if op.heavy = true then Hs ++ [h] else Hs) h st Q := eqO (fun x => x.out) (fun x => ⟨x⟩)
@[simp] theorem DG_tf {op : DO} : DG P G n (.p (.bool true)) false dst op a fr l t Hs h st Q = DD P G n l (sP t dst (.tup [])) (if op.heavy = true then Hs ++ [h] else Hs) h st Q := eqO (fun x => x.out) (fun x => ⟨x⟩)
@[simp] theorem DG_ft {op : DO} : DG P G n (.p (.bool false)) true dst op a fr l t Hs h st Q = DD P G n l (sP t dst (.tup [])) (if op.heavy = true then Hs ++ [h] else Hs) h st Q := eqO (fun x => x.out) (fun x => ⟨x⟩)
@[simp] theorem DD_pick {c x y : Opd} : DD P G n (⟨⟨dst, .pick c x y, none⟩, a, fr⟩ :: l) t Hs h st Q = DP P G n (c.ev G t) (x.ev G t) (y.ev G t) dst l t Hs h st Q := by
  rw [DD_light rfl]
  refine eqO (fun z => ⟨?_⟩) (fun z => ?_)
  · simp only [vcO, DK_on] at z
    exact z
  · simp only [vcO, DK_on]
    exact z.out
@[simp] theorem DP_true {x y : DV} : DP P G n (.p (.bool true)) x y dst l t Hs h st Q = DD P G n l (sP t dst x) Hs h st Q := eqO (fun x => x.out) (fun x => ⟨x⟩)
@[simp] theorem DP_false {x y : DV} : DP P G n (.p (.bool false)) x y dst l t Hs h st Q = DD P G n l (sP t dst y) Hs h st Q := eqO (fun x => x.out) (fun x => ⟨x⟩)
@[simp] theorem DD_call {f : FuncId} {args : List Opd} : DD P G n (⟨⟨dst, .call f args, none⟩, a, fr⟩ :: l) t Hs h st Q = DF P G n f (args.map (Opd.ev G t)) dst fr l t Hs h st Q := by
  rw [DD_heavy rfl]
  exact eqO (fun x => ⟨x⟩) (fun x => x.out)
theorem DF_by {f : FuncId} {args : List DV} {v : DV} {h' : List Blk} (hf : Ok P G f args h v h') (hk : DH P G n dst fr l t Hs h st Q v h') : DF P G n f args dst fr l t Hs h st Q := ⟨v, h', hf, hk⟩
@[simp] theorem DD_stop : DD P G n (⟨⟨dst, .stop, none⟩, a, fr⟩ :: l) t Hs h st Q = False := DD_heavy rfl
@[simp] theorem DD_bin {uop ux uy} : DD P G n (⟨⟨dst, .bin uop ux uy, none⟩, a, fr⟩ :: l) t Hs h st Q = vcO P G (.bin uop ux uy) (Opd.ev G t) (gH Hs a) (DK P G n dst l t Hs h st Q) := nd (DD_light rfl)
@[simp] theorem DD_eqb {uneg ux uy} : DD P G n (⟨⟨dst, .eqb uneg ux uy, none⟩, a, fr⟩ :: l) t Hs h st Q = vcO P G (.eqb uneg ux uy) (Opd.ev G t) (gH Hs a) (DK P G n dst l t Hs h st Q) := nd (DD_light rfl)
@[simp] theorem DD_eqn {uneg uk ux} : DD P G n (⟨⟨dst, .eqn uneg uk ux, none⟩, a, fr⟩ :: l) t Hs h st Q = vcO P G (.eqn uneg uk ux) (Opd.ev G t) (gH Hs a) (DK P G n dst l t Hs h st Q) := nd (DD_light rfl)
@[simp] theorem DD_eqi {uneg ux uy} : DD P G n (⟨⟨dst, .eqi uneg ux uy, none⟩, a, fr⟩ :: l) t Hs h st Q = vcO P G (.eqi uneg ux uy) (Opd.ev G t) (gH Hs a) (DK P G n dst l t Hs h st Q) := nd (DD_light rfl)
@[simp] theorem DD_eqs {uneg uks ux uy} : DD P G n (⟨⟨dst, .eqs uneg uks ux uy, none⟩, a, fr⟩ :: l) t Hs h st Q = vcO P G (.eqs uneg uks ux uy) (Opd.ev G t) (gH Hs a) (DK P G n dst l t Hs h st Q) := nd (DD_light rfl)
@[simp] theorem DD_un {uop ux} : DD P G n (⟨⟨dst, .un uop ux, none⟩, a, fr⟩ :: l) t Hs h st Q = vcO P G (.un uop ux) (Opd.ev G t) (gH Hs a) (DK P G n dst l t Hs h st Q) := nd (DD_light rfl)
@[simp] theorem DD_cint {uk ux} : DD P G n (⟨⟨dst, .cint uk ux, none⟩, a, fr⟩ :: l) t Hs h st Q = vcO P G (.cint uk ux) (Opd.ev G t) (gH Hs a) (DK P G n dst l t Hs h st Q) := nd (DD_light rfl)
@[simp] theorem DD_cstr {ux} : DD P G n (⟨⟨dst, .cstr ux, none⟩, a, fr⟩ :: l) t Hs h st Q = vcO P G (.cstr ux) (Opd.ev G t) (gH Hs a) (DK P G n dst l t Hs h st Q) := nd (DD_light rfl)
@[simp] theorem DD_b2s {ux} : DD P G n (⟨⟨dst, .b2s ux, none⟩, a, fr⟩ :: l) t Hs h st Q = vcO P G (.b2s ux) (Opd.ev G t) (gH Hs a) (DK P G n dst l t Hs h st Q) := nd (DD_light rfl)
@[simp] theorem DD_lens {ux} : DD P G n (⟨⟨dst, .lens ux, none⟩, a, fr⟩ :: l) t Hs h st Q = vcO P G (.lens ux) (Opd.ev G t) (gH Hs a) (DK P G n dst l t Hs h st Q) := nd (DD_light rfl)
@[simp] theorem DD_lenl {ux} : DD P G n (⟨⟨dst, .lenl ux, none⟩, a, fr⟩ :: l) t Hs h st Q = vcO P G (.lenl ux) (Opd.ev G t) (gH Hs a) (DK P G n dst l t Hs h st Q) := nd (DD_light rfl)
@[simp] theorem DD_lenm {ux} : DD P G n (⟨⟨dst, .lenm ux, none⟩, a, fr⟩ :: l) t Hs h st Q = vcO P G (.lenm ux) (Opd.ev G t) (gH Hs a) (DK P G n dst l t Hs h st Q) := nd (DD_light rfl)
@[simp] theorem DD_mm {umx ux uy} : DD P G n (⟨⟨dst, .mm umx ux uy, none⟩, a, fr⟩ :: l) t Hs h st Q = vcO P G (.mm umx ux uy) (Opd.ev G t) (gH Hs a) (DK P G n dst l t Hs h st Q) := nd (DD_light rfl)
@[simp] theorem DD_slcs {ux ulo uhi} : DD P G n (⟨⟨dst, .slcs ux ulo uhi, none⟩, a, fr⟩ :: l) t Hs h st Q = vcO P G (.slcs ux ulo uhi) (Opd.ev G t) (gH Hs a) (DK P G n dst l t Hs h st Q) := nd (DD_light rfl)
@[simp] theorem DD_slcl {usz ux ulo uhi} : DD P G n (⟨⟨dst, .slcl usz ux ulo uhi, none⟩, a, fr⟩ :: l) t Hs h st Q = vcO P G (.slcl usz ux ulo uhi) (Opd.ev G t) (gH Hs a) (DK P G n dst l t Hs h st Q) := nd (DD_light rfl)
@[simp] theorem DD_idxs {ux ui} : DD P G n (⟨⟨dst, .idxs ux ui, none⟩, a, fr⟩ :: l) t Hs h st Q = vcO P G (.idxs ux ui) (Opd.ev G t) (gH Hs a) (DK P G n dst l t Hs h st Q) := nd (DD_light rfl)
@[simp] theorem DD_idxa {um usz ug ux ui} : DD P G n (⟨⟨dst, .idxa um usz ug ux ui, none⟩, a, fr⟩ :: l) t Hs h st Q = vcO P G (.idxa um usz ug ux ui) (Opd.ev G t) (gH Hs a) (DK P G n dst l t Hs h st Q) := nd (DD_light rfl)
@[simp] theorem DD_fld {uo usz ug ux} : DD P G n (⟨⟨dst, .fld uo usz ug ux, none⟩, a, fr⟩ :: l) t Hs h st Q = vcO P G (.fld uo usz ug ux) (Opd.ev G t) (gH Hs a) (DK P G n dst l t Hs h st Q) := nd (DD_light rfl)
@[simp] theorem DD_litz {usz uels} : DD P G n (⟨⟨dst, .litz usz uels, none⟩, a, fr⟩ :: l) t Hs h st Q = vcO P G (.litz usz uels) (Opd.ev G t) (gH Hs a) (DK P G n dst l t Hs h st Q) := nd (DD_light rfl)
@[simp] theorem DD_bld {uzero uparts} : DD P G n (⟨⟨dst, .bld uzero uparts, none⟩, a, fr⟩ :: l) t Hs h st Q = vcO P G (.bld uzero uparts) (Opd.ev G t) (gH Hs a) (DK P G n dst l t Hs h st Q) := nd (DD_light rfl)
@[simp] theorem DD_load {ug usz ua} : DD P G n (⟨⟨dst, .load ug usz ua, none⟩, a, fr⟩ :: l) t Hs h st Q = vcO P G (.load ug usz ua) (Opd.ev G t) (gH Hs a) (DK P G n dst l t Hs h st Q) := nd (DD_light rfl)
@[simp] theorem DD_nilchk {uk ux} : DD P G n (⟨⟨dst, .nilchk uk ux, none⟩, a, fr⟩ :: l) t Hs h st Q = vcO P G (.nilchk uk ux) (Opd.ev G t) (gH Hs a) (DK P G n dst l t Hs h st Q) := nd (DD_light rfl)
@[simp] theorem DD_faddr {ug uo usz ua} : DD P G n (⟨⟨dst, .faddr ug uo usz ua, none⟩, a, fr⟩ :: l) t Hs h st Q = vcO P G (.faddr ug uo usz ua) (Opd.ev G t) (gH Hs a) (DK P G n dst l t Hs h st Q) := nd (DD_light rfl)
@[simp] theorem DD_iaddr {usz ux ui} : DD P G n (⟨⟨dst, .iaddr usz ux ui, none⟩, a, fr⟩ :: l) t Hs h st Q = vcO P G (.iaddr usz ux ui) (Opd.ev G t) (gH Hs a) (DK P G n dst l t Hs h st Q) := nd (DD_light rfl)
@[simp] theorem DD_iaddra {um usz ug ux ui} : DD P G n (⟨⟨dst, .iaddra um usz ug ux ui, none⟩, a, fr⟩ :: l) t Hs h st Q = vcO P G (.iaddra um usz ug ux ui) (Opd.ev G t) (gH Hs a) (DK P G n dst l t Hs h st Q) := nd (DD_light rfl)
@[simp] theorem DD_ext {ux ui} : DD P G n (⟨⟨dst, .ext ux ui, none⟩, a, fr⟩ :: l) t Hs h st Q = vcO P G (.ext ux ui) (Opd.ev G t) (gH Hs a) (DK P G n dst l t Hs h st Q) := nd (DD_light rfl)
@[simp] theorem DD_ifc {ut ux} : DD P G n (⟨⟨dst, .ifc ut ux, none⟩, a, fr⟩ :: l) t Hs h st Q = vcO P G (.ifc ut ux) (Opd.ev G t) (gH Hs a) (DK P G n dst l t Hs h st Q) := nd (DD_light rfl)
@[simp] theorem DD_mov {ux} : DD P G n (⟨⟨dst, .mov ux, none⟩, a, fr⟩ :: l) t Hs h st Q = vcO P G (.mov ux) (Opd.ev G t) (gH Hs a) (DK P G n dst l t Hs h st Q) := nd (DD_light rfl)
@[simp] theorem DD_mkmap : DD P G n (⟨⟨dst, .mkmap, none⟩, a, fr⟩ :: l) t Hs h st Q = vcO P G .mkmap (Opd.ev G t) h (DH P G n dst fr l t Hs h st Q) := nd (DD_heavy rfl)
@[simp] theorem DD_rngs {ux} : DD P G n (⟨⟨dst, .rngs ux, none⟩, a, fr⟩ :: l) t Hs h st Q = vcO P G (.rngs ux) (Opd.ev G t) h (DH P G n dst fr l t Hs h st Q) := nd (DD_heavy rfl)
@[simp] theorem DD_nxts {ua} : DD P G n (⟨⟨dst, .nxts ua, none⟩, a, fr⟩ :: l) t Hs h st Q = vcO P G (.nxts ua) (Opd.ev G t) h (DH P G n dst fr l t Hs h st Q) := nd (DD_heavy rfl)
@[simp] theorem DD_rngm {ux} : DD P G n (⟨⟨dst, .rngm ux, none⟩, a, fr⟩ :: l) t Hs h st Q = vcO P G (.rngm ux) (Opd.ev G t) h (DH P G n dst fr l t Hs h st Q) := nd (DD_heavy rfl)
@[simp] theorem DD_nxtm {ua} : DD P G n (⟨⟨dst, .nxtm ua, none⟩, a, fr⟩ :: l) t Hs h st Q = vcO P G (.nxtm ua) (Opd.ev G t) h (DH P G n dst fr l t Hs h st Q) := nd (DD_heavy rfl)
@[simp] theorem DD_ent {ua} : DD P G n (⟨⟨dst, .ent ua, none⟩, a, fr⟩ :: l) t Hs h st Q = vcO P G (.ent ua) (Opd.ev G t) (gH Hs a) (DK P G n dst l t Hs h st Q) := nd (DD_light rfl)
@[simp] theorem DD_mupd {uck um uk ux} : DD P G n (⟨⟨dst, .mupd uck um uk ux, none⟩, a, fr⟩ :: l) t Hs h st Q = vcO P G (.mupd uck um uk ux) (Opd.ev G t) h (DH P G n dst fr l t Hs h st Q) := nd (DD_heavy rfl)
@[simp] theorem DD_look {uck uzero uok um uk} : DD P G n (⟨⟨dst, .look uck uzero uok um uk, none⟩, a, fr⟩ :: l) t Hs h st Q = vcO P G (.look uck uzero uok um uk) (Opd.ev G t) (gH Hs a) (DK P G n dst l t Hs h st Q) := nd (DD_light rfl)
@[simp] theorem DD_mdel {uck um uk} : DD P G n (⟨⟨dst, .mdel uck um uk, none⟩, a, fr⟩ :: l) t Hs h st Q = vcO P G (.mdel uck um uk) (Opd.ev G t) h (DH P G n dst fr l t Hs h st Q) := nd (DD_heavy rfl)
@[simp] theorem DD_capl {ux} : DD P G n (⟨⟨dst, .capl ux, none⟩, a, fr⟩ :: l) t Hs h st Q = vcO P G (.capl ux) (Opd.ev G t) (gH Hs a) (DK P G n dst l t Hs h st Q) := nd (DD_light rfl)
@[simp] theorem DD_tas {ut uz uo ux} : DD P G n (⟨⟨dst, .tas ut uz uo ux, none⟩, a, fr⟩ :: l) t Hs h st Q = vcO P G (.tas ut uz uo ux) (Opd.ev G t) (gH Hs a) (DK P G n dst l t Hs h st Q) := nd (DD_light rfl)
@[simp] theorem DD_tai {ut uo ux} : DD P G n (⟨⟨dst, .tai ut uo ux, none⟩, a, fr⟩ :: l) t Hs h st Q = vcO P G (.tai ut uo ux) (Opd.ev G t) (gH Hs a) (DK P G n dst l t Hs h st Q) := nd (DD_light rfl)
@[simp] theorem DD_mkf {uf ua ub} : DD P G n (⟨⟨dst, .mkf uf ua ub, none⟩, a, fr⟩ :: l) t Hs h st Q = vcO P G (.mkf uf ua ub) (Opd.ev G t) (gH Hs a) (DK P G n dst l t Hs h st Q) := nd (DD_light rfl)
@[simp] theorem DD_slca {um usz ug ux ulo uhi} : DD P G n (⟨⟨dst, .slca um usz ug ux ulo uhi, none⟩, a, fr⟩ :: l) t Hs h st Q = vcO P G (.slca um usz ug ux ulo uhi) (Opd.ev G t) (gH Hs a) (DK P G n dst l t Hs h st Q) := nd (DD_light rfl)
@[simp] theorem DD_cpy {usz ux uy} : DD P G n (⟨⟨dst, .cpy usz ux uy, none⟩, a, fr⟩ :: l) t Hs h st Q = vcO P G (.cpy usz ux uy) (Opd.ev G t) h (DH P G n dst fr l t Hs h st Q) := nd (DD_heavy rfl)
@[simp] theorem DD_mks {g : Bool} {sz bytes : Nat} {zero : DV} {x y : Opd} : DD P G n (⟨⟨dst, .mks g sz bytes zero x y, none⟩, a, fr⟩ :: l) t Hs h st Q = DM P G n g sz bytes zero (x.ev G t) (y.ev G t) dst fr l t Hs h st Q := by
  rw [DD_heavy rfl]
  exact propext ⟨fun h => ⟨h⟩, fun h => h.out⟩
theorem DM_sl {g : Bool} {sz bytes : Nat} {zero : DV} {k k' : IntKind} {x y : Int} (h0 : 0 ≤ x) (h1 : x ≤ y) (h2 : y * bytes ≤ 140737488355328) (hk : DH P G n dst fr l t Hs h st Q (.sl h.length 0 x.toNat x.toNat) (h ++ [.cells sz (List.replicate x.toNat zero)])) : DM P G n g sz bytes zero (.p (.int k x)) (.p (.int k' y)) dst fr l t Hs h st Q :=
  ⟨⟨h0, h1, h2, .inl hk⟩⟩
@[simp] theorem DD_callv {x : Opd} {args : List Opd} : DD P G n (⟨⟨dst, .callv false x args, none⟩, a, fr⟩ :: l) t Hs h st Q = DCV P G n (x.ev G t) (args.map (Opd.ev G t)) dst fr l t Hs h st Q := by
  rw [DD_heavy rfl]
  refine propext ⟨fun h => ⟨?_⟩, fun h => ?_⟩
  · simp only [vcO, Bool.false_eq_true, if_false] at h
    split at h
    · rename_i f first cap hv
      rw [hv]
      exact ⟨h.1, ⟨h.2⟩⟩
    · exact h.elim
  · have := h.out
    simp only [vcO, Bool.false_eq_true, if_false]
    split at this
    · rename_i f first cap hv
      rw [hv]
      exact ⟨this.1, this.2.out⟩
    · exact this.elim
theorem DCV_by {f : FuncId} {first cap args : List DV} (hf : cFunc P f = true) (hk : DF P G n f (first ++ args ++ cap) dst fr l t Hs h st Q) : DCV P G n (.fn (.func f) first cap) args dst fr l t Hs h st Q := ⟨⟨hf, hk⟩⟩
@[simp] theorem DD_inv {name : String} {x : Opd} {args : List Opd} : DD P G n (⟨⟨dst, .inv false name x args, none⟩, a, fr⟩ :: l) t Hs h st Q = DIV P G n name (x.ev G t) (args.map (Opd.ev G t)) dst fr l t Hs h st Q := by
  rw [DD_heavy rfl]
  refine propext ⟨fun h => ⟨?_⟩, fun h => ?_⟩
  · simp only [vcO, Bool.false_eq_true, if_false] at h
    split at h
    · rename_i ty d hv
      rw [hv]
      split at h
      · rename_i f hm
        simp only
        rw [hm]
        exact ⟨h.1, ⟨h.2⟩⟩
      · exact h.elim
    · exact h.elim
  · have := h.out
    simp only [vcO, Bool.false_eq_true, if_false]
    split at this
    · rename_i ty d hv
      rw [hv]
      split at this
      · rename_i f hm
        simp only
        rw [hm]
        exact ⟨this.1, this.2.out⟩
      · exact this.elim
    · exact this.elim
theorem DIV_by {name : String} {ty : TypeId} {f : FuncId} {d : DV} {args : List DV} (hm : methOf P ty name = some f) (hf : cFunc P f = true) (hk : DF P G n f (d :: args) dst fr l t Hs h st Q) : DIV P G n name (.iface ty d) args dst fr l t Hs h st Q := ⟨by simp only; rw [hm]; exact ⟨hf, hk⟩⟩
@[simp] theorem DD_s2b {ux} : DD P G n (⟨⟨dst, .s2b ux, none⟩, a, fr⟩ :: l) t Hs h st Q = vcO P G (.s2b ux) (Opd.ev G t) h (DH P G n dst fr l t Hs h st Q) := nd (DD_heavy rfl)
@[simp] theorem DD_lit {usz uels} : DD P G n (⟨⟨dst, .lit usz uels, none⟩, a, fr⟩ :: l) t Hs h st Q = vcO P G (.lit usz uels) (Opd.ev G t) h (DH P G n dst fr l t Hs h st Q) := nd (DD_heavy rfl)
@[simp] theorem DD_alloc {usz uzero} : DD P G n (⟨⟨dst, .alloc usz uzero, none⟩, a, fr⟩ :: l) t Hs h st Q = vcO P G (.alloc usz uzero) (Opd.ev G t) h (DH P G n dst fr l t Hs h st Q) := nd (DD_heavy rfl)
@[simp] theorem DD_box {ux} : DD P G n (⟨⟨dst, .box ux, none⟩, a, fr⟩ :: l) t Hs h st Q = vcO P G (.box ux) (Opd.ev G t) h (DH P G n dst fr l t Hs h st Q) := nd (DD_heavy rfl)
@[simp] theorem DD_store {usz ua ux} : DD P G n (⟨⟨dst, .store usz ua ux, none⟩, a, fr⟩ :: l) t Hs h st Q = vcO P G (.store usz ua ux) (Opd.ev G t) h (DH P G n dst fr l t Hs h st Q) := nd (DD_heavy rfl)
@[simp] theorem DD_app {sz bytes : Nat} {x y : Opd} : DD P G n (⟨⟨dst, .app sz bytes x y, none⟩, a, fr⟩ :: l) t Hs h st Q = DA P G n sz bytes (x.ev G t) (y.ev G t) dst fr l t Hs h st Q := by
  rw [DD_heavy rfl]
  exact propext ⟨fun h => ⟨h⟩, fun h => h.out⟩
theorem DA_raw {sz bytes : Nat} {dx dy : DV} : DA P G n sz bytes dx dy dst fr l t Hs h st Q = vcO P G (.app sz bytes (.c dx) (.c dy)) (Opd.ev G []) h (DH P G n dst fr l t Hs h st Q) := propext ⟨fun h => h.out, fun h => ⟨h⟩⟩
end
attribute [simp] DO.heavy

theorem least_of {p : Nat → Prop} : ∀ (n : Nat), p n → ∃ m, p m ∧ ∀ k, p k → m ≤ k := by
  intro n
  induction n using Nat.strongRecOn with
  | _ n ih =>
    intro hn
    by_cases h : ∃ m, m < n ∧ p m
    · obtain ⟨m, h1, h2⟩ := h
      exact ih m h1 h2
    · exact ⟨n, hn, fun k hk => Nat.le_of_not_lt fun hlt => h ⟨k, hlt, hk⟩⟩

/-- A loop by a family of states: what it was entered with, and one round. -/
theorem VV_fam {P : Program} {G : Nat → DV} {n : List Blk} {Q : DX → St → Prop} {s : St} {st : List Fr} {a : DC} {α : Type} (F : α → St) (ok : α → Prop) (m : α → Nat) (a0 : α) (hok : ok a0) (h0 : Wk G n s (F a0))
    (h1 : ∀ x, ok x → ∀ B : DX → St → Prop, (∀ s1 x', Wk G n s1 (F x') → ok x' → m x' < m x → B .nrm s1) → (∀ i s1, KON P G n st Q (.ext i) s1 → B (.ext i) s1) → (∀ s1, KON P G n st Q .ret s1 → B .ret s1) → VV P G n a (F x) [] B) :
    VV P G n (.loop a) s st Q := by
  let p : St → Nat → Prop := fun s k => ∃ x, ok x ∧ F x = s ∧ m x = k
  have key : ∀ s, ∃ k, (∃ k, p s k) → p s k ∧ ∀ j, p s j → k ≤ j := fun s => by
    by_cases h : ∃ k, p s k
    · obtain ⟨k, hk⟩ := h
      obtain ⟨j, hj⟩ := least_of k hk
      exact ⟨j, fun _ => hj⟩
    · exact ⟨0, fun h' => (h h').elim⟩
  let μ : St → Nat := fun s => Classical.choose (key s)
  have hμ : ∀ s, (∃ k, p s k) → p s (μ s) ∧ ∀ j, p s j → μ s ≤ j := fun s => Classical.choose_spec (key s)
  refine VV_loop (fun s => ∃ x, ok x ∧ F x = s) μ ⟨F a0, h0, a0, hok, rfl⟩ ?_
  rintro s1 ⟨y, hy, rfl⟩ B hb he hr
  obtain ⟨⟨x, hx, hF, hm⟩, _⟩ := hμ (F y) ⟨m y, y, hy, rfl, rfl⟩
  rw [← hF]
  refine h1 x hx B (fun s1 x' hw hx' hlt => hb s1 ⟨F x', hw, ⟨x', hx', rfl⟩, ?_⟩) he hr
  have := (hμ (F x') ⟨m x', x', hx', rfl, rfl⟩).2 (m x') ⟨x', hx', rfl, rfl⟩
  omega

/-- The slots that live on are those of the loop's frame; all else is forgotten there. -/
def fits : List DV → List DV → Bool → Prop
  | [], [], _ => True
  | d :: l, d' :: l', b => (d' = .any ∨ d' = d) ∧ fits l l' b
  | _, _, _ => False
theorem fits_length : ∀ (l l' : List DV) (b : Bool), fits l l' b → l'.length = l.length
  | [], [], _, _ => rfl
  | _ :: l, _ :: l', b, h => by simp [fits_length l l' b h.2]
  | [], _ :: _, _, h => h.elim
  | _ :: _, [], _, h => h.elim
theorem fits_get : ∀ (l l' : List DV) (b : Bool), fits l l' b → ∀ i (hi : i < l'.length) (hi' : i < l.length), l'[i] = .any ∨ l'[i] = l[i]
  | [], [], _, _, i, hi, _ => by simp at hi
  | d :: l, d' :: l', b, h, 0, _, _ => by simpa using h.1
  | d :: l, d' :: l', b, h, i + 1, hi, hi' => by
    simp only [List.getElem_cons_succ]
    exact fits_get l l' b h.2 i _ _
  | [], _ :: _, _, h, _, _, _ => h.elim
  | _ :: _, [], _, h, _, _, _ => h.elim

/-- At a loop's head or behind its round: the memory as it is, the slots the frame's. -/
theorem Wk.fits {G : Nat → DV} {h0 h : List Blk} {t t' : List DV} (hf : fits t t' true) : Wk G h0 ⟨t, h⟩ ⟨t', h⟩ := by
  intro h0w D e a w hr hl
  have hlen := fits_length t t' true hf
  refine ⟨e, ⟨hr.h, hr.H, hr.hr, hr.gr, ⟨by rw [hlen]; exact hr.tr.1, fun i hi hi' => ?_⟩, hr.df⟩, Ev.refl' e hl⟩
  have hi2 : i < t.length := by simpa [hlen] using hi
  rcases fits_get t t' true hf i hi hi2 with h | h
  · simp only [h]; exact .any
  · simp only [h]; exact hr.tr.2 i hi2 hi'
attribute [simp] fits

theorem Ok_by {P : Program} {G : Nat → DV} {f : FuncId} {fn : Func} {d : DC} {rs : List DR} (hf : P.funcs[f]? = some fn) (hc : fn.body.bind (cCode P) = some d) (hrs : cRes P fn.results.toList = some rs) {args : List DV} {h : List Blk} {v : DV} {h' : List Blk} (n : Nat) (hn : fn.ntmps = args.length + n)
    (H : VV P G h d ⟨args ++ List.replicate n .any, h⟩ [] (RR h rs v h')) : Ok P G f args h v h' :=
  Ok_by0 hf hc hrs n hn (by have := H.out; rw [RR_e] at this; exact this)

/-- The same, where more than one outcome is possible. -/
structure RRr (h : List Blk) (rs : List DR) (R : DV → List Blk → Prop) (x : DX) (s : St) : Prop where
  out : match x with
    | .nrm | .ret => ∃ ds, resD s.h s.t rs = some ds ∧ ∃ v h', WkV h (mkRes ds) s.h v h' ∧ R v h'
    | _ => False
structure REr (h : List Blk) (ds : Option (List DV)) (h1 : List Blk) (R : DV → List Blk → Prop) : Prop where
  out : ∃ l, ds = some l ∧ ∃ v h', WkV h (mkRes l) h1 v h' ∧ R v h'
@[simp] theorem RRr_nrm {h : List Blk} {rs : List DR} {R : DV → List Blk → Prop} {t : List DV} {h1 : List Blk} : RRr h rs R .nrm ⟨t, h1⟩ = REr h (resD h1 t rs) h1 R := propext ⟨fun x => ⟨x.out⟩, fun x => ⟨x.out⟩⟩
@[simp] theorem RRr_ret {h : List Blk} {rs : List DR} {R : DV → List Blk → Prop} {t : List DV} {h1 : List Blk} : RRr h rs R .ret ⟨t, h1⟩ = REr h (resD h1 t rs) h1 R := propext ⟨fun x => ⟨x.out⟩, fun x => ⟨x.out⟩⟩
theorem REr_by {h : List Blk} {l : List DV} {h1 : List Blk} {R : DV → List Blk → Prop} (v : DV) (h' : List Blk) (hw : WkV h (mkRes l) h1 v h') (hR : R v h') : REr h (some l) h1 R := ⟨l, rfl, v, h', hw, hR⟩
theorem OkR_by {P : Program} {G : Nat → DV} {f : FuncId} {fn : Func} {d : DC} {rs : List DR} (hf : P.funcs[f]? = some fn) (hc : fn.body.bind (cCode P) = some d) (hrs : cRes P fn.results.toList = some rs) {args : List DV} {h : List Blk} {R : DV → List Blk → Prop} (n : Nat) (hn : fn.ntmps = args.length + n)
    (H : VV P G h d ⟨args ++ List.replicate n .any, h⟩ [] (RRr h rs R)) : OkR P G f args h R := by
  refine OkR_of_code hf hc hrs n hn (vc_mono d (fun x s hx => ?_) H.out)
  have := hx.out
  cases x <;> exact this

/-- A function that puts off a call. -/
def WFs (B : Nat → Prop) : List DV → Prop
  | [] => True
  | d :: l => WF B d ∧ WFs B l
theorem WFs_spec {B : Nat → Prop} : ∀ {l : List DV}, WFs B l → ∀ d, d ∈ l → WF B d
  | [], _, d, hd => by simp at hd
  | x :: l, h, d, hd => by
    rcases List.mem_cons.1 hd with rfl | hd
    · exact h.1
    · exact WFs_spec h.2 d hd
@[simp] theorem WFs_nil {B : Nat → Prop} : WFs B [] = True := rfl
@[simp] theorem WFs_cons {B : Nat → Prop} {d : DV} {l : List DV} : WFs B (d :: l) = (WF B d ∧ WFs B l) := rfl
structure RDE (P : Program) (G : Nat → DV) (h : List Blk) (rs : List DR) (R : DV → List Blk → Prop) (f : FuncId) (args : List DV) (t : List DV) (h1 : List Blk) : Prop where
  out : ∃ R', OkD P G f args h1 R' ∧ ∀ v1 h2, R' v1 h2 → REr h (resD h2 t rs) h2 R
structure RRD (P : Program) (G : Nat → DV) (h : List Blk) (rs : List DR) (R : DV → List Blk → Prop) (f : FuncId) (args : List DV) (x : DX) (s : St) : Prop where
  out : match x with | .nrm | .ret => RDE P G h rs R f args s.t s.h | _ => False
structure RD1 (P : Program) (G : Nat → DV) (h : List Blk) (rs : List DR) (R : DV → List Blk → Prop) (f : FuncId) (args : List Opd) (dst : Option Nat) (rest : DC) (x : DX) (s : St) : Prop where
  out : match x with | .nrm => WFs (· < h.length) (args.map (Opd.ev G s.t)) ∧ VV P G h rest ⟨sP s.t dst (.tup []), s.h⟩ [] (RRD P G h rs R f (args.map (Opd.ev G s.t))) | _ => False
section
variable {P : Program} {G : Nat → DV} {h h1 : List Blk} {rs : List DR} {R : DV → List Blk → Prop} {f : FuncId} {t : List DV}
@[simp] theorem RRD_nrm {args : List DV} : RRD P G h rs R f args .nrm ⟨t, h1⟩ = RDE P G h rs R f args t h1 := propext ⟨fun x => x.out, fun x => ⟨x⟩⟩
@[simp] theorem RRD_ret {args : List DV} : RRD P G h rs R f args .ret ⟨t, h1⟩ = RDE P G h rs R f args t h1 := propext ⟨fun x => x.out, fun x => ⟨x⟩⟩
@[simp] theorem RD1_nrm {args : List Opd} {dst : Option Nat} {rest : DC} : RD1 P G h rs R f args dst rest .nrm ⟨t, h1⟩ = (WFs (· < h.length) (args.map (Opd.ev G t)) ∧ VV P G h rest ⟨sP t dst (.tup []), h1⟩ [] (RRD P G h rs R f (args.map (Opd.ev G t)))) := propext ⟨fun x => x.out, fun x => ⟨x⟩⟩
theorem RDE_by {args : List DV} {R' : DV → List Blk → Prop} (hf : OkD P G f args h1 R') (hk : ∀ v1 h2, R' v1 h2 → REr h (resD h2 t rs) h2 R) : RDE P G h rs R f args t h1 := ⟨R', hf, hk⟩
theorem OkR_by_defer {f : FuncId} {fn : Func} {d : DfC} {rs : List DR} (hf : P.funcs[f]? = some fn) (hc : fn.body.bind (cDef P) = some d) (hrs : cRes P fn.results.toList = some rs) {args : List DV} {h : List Blk} {R : DV → List Blk → Prop} (n : Nat) (hn : fn.ntmps = args.length + n)
    (H : VV P G h (.seq d.a (.rg d.init)) ⟨args ++ List.replicate n .any, h⟩ [] (RD1 P G h rs R d.f d.args d.dst d.rest)) : OkR P G f args h R := by
  refine OkR_of_defer hf hc hrs n hn (vc_mono _ (fun x s hx => ?_) H.out)
  have := hx.out
  cases x with
  | nrm =>
    obtain ⟨h1, h2⟩ := this
    refine ⟨fun y hy => WFs_spec h1 _ (List.mem_map_of_mem hy), ?_⟩
    have h3 := h2.out
    unfold VV0 at h3
    have hs : s.put d.dst (.tup []) s.h = ⟨sP s.t d.dst (.tup []), s.h⟩ := by
      rw [← putL_eq]
      cases d.dst <;> rfl
    rw [hs]
    refine vc_mono _ (fun x s2 hx2 => ?_) h3
    have h4 := hx2.out
    cases x with
    | nrm => exact ⟨h4.out.choose, h4.out.choose_spec.1, fun v1 h2 hr => (h4.out.choose_spec.2 v1 h2 hr).out⟩
    | ret => exact ⟨h4.out.choose, h4.out.choose_spec.1, fun v1 h2 hr => (h4.out.choose_spec.2 v1 h2 hr).out⟩
    | ext i => exact h4.elim
  | ret => exact this.elim
  | ext i => exact this.elim
theorem OkD_by {f : FuncId} {fn : Func} {d : DC} {rs : List DR} (hf : P.funcs[f]? = some fn) (hc : fn.body.bind (cCode P) = some d) (hrs : cRes P fn.results.toList = some rs) {args : List DV} {h : List Blk} {R : DV → List Blk → Prop} (n : Nat) (hn : fn.ntmps = args.length + n)
    (H : VV P G h d ⟨args ++ List.replicate n .any, h⟩ [] (RRr h rs R)) : OkD P G f args h R := by
  refine OkD_of_code hf hc hrs n hn (vc_mono d (fun x s hx => ?_) H.out)
  have := hx.out
  cases x <;> exact this
end

attribute [simp] List.replicate mres vcO mkRes DV.size DV.storable DV.cells sub Den.put isNilD cellEq cellsEq
@[simp] theorem elemsOf_nil {h : List Blk} {sz : Nat} : elemsOf h sz (.p (.slice none 0 0)) = some [] := rfl
@[simp] theorem elemsOf_str {h : List Blk} {sz : Nat} {s : ByteArray} : elemsOf h sz (.p (.string s)) = if sz = 1 then some (bytesD s) else none := rfl
@[simp] theorem elemsOf_fz {h : List Blk} {sz sz' : Nat} {l : List DV} : elemsOf h sz (.fz sz' l) = if sz' = sz then some l else none := rfl
@[simp] theorem elemsOf_sl {h : List Blk} {sz b i n x : Nat} : elemsOf h sz (.sl b i n x) = match h[b]? with
    | some (.cells bsz els) => if x = els.length ∧ bsz = sz then some ((els.drop i).take n) else none
    | _ => none := rfl
@[simp] theorem elemsOf_sa {h : List Blk} {sz : Nat} {g : Bool} {z b i o n c x : Nat} : elemsOf h sz (.sa g z b i o n c x) = match h[b]? with
    | some (.cells bsz els) => if x = els.length ∧ z = sz then some ((List.range n).map fun j => Den.sub (els.getD i .any) (o + j * z) z g) else none
    | _ => none := rfl
@[simp] theorem sliceOf_sa {h : List Blk} {sz : Nat} {g : Bool} {z b i o n c x : Nat} : sliceOf h sz (.sa g z b i o n c x) = match h[b]? with
    | some (.cells bsz els) => if x = els.length ∧ z = sz then some ((List.range n).map fun j => Den.sub (els.getD i .any) (o + j * z) z g) else none
    | _ => none := rfl
@[simp] theorem sliceOf_nil {h : List Blk} {sz : Nat} : sliceOf h sz (.p (.slice none 0 0)) = some [] := rfl
@[simp] theorem sliceOf_fz {h : List Blk} {sz sz' : Nat} {l : List DV} : sliceOf h sz (.fz sz' l) = if sz' = sz then some l else none := rfl
@[simp] theorem sliceOf_sl {h : List Blk} {sz b i n x : Nat} : sliceOf h sz (.sl b i n x) = match h[b]? with
    | some (.cells bsz els) => if x = els.length ∧ bsz = sz then some ((els.drop i).take n) else none
    | _ => none := rfl
end Go.Den
