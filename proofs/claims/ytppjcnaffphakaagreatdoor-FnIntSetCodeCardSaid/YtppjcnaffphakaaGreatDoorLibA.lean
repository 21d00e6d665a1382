/- The library: contracts of functions over denoted values (LibA). -/
import Derived.Calls
import Derived.Orders
import Derived.Still
import Derived.Laws.Sem
import Derived.Laws.World
import Derived.Laws.Entries
import Derived.Laws.Cells
import Derived.KernelRfl
import GoSem.Core.Utf8
import GoSem.ClaimData
import GoSem.Core.Float
import GoSem.Op.Equal
import GoSem.Instr.TypeAssert
import Derived.Laws.Strings
import Derived.Laws.Tables
import Derived.Laws.BytesArg
import Derived.Laws.AppendOwn
import Derived.Laws.StructEq
import Derived.ChangeKeysEq
import Derived.Laws.Build
import Derived.Laws.RangeString
import Derived.Laws.RangeAny
import Derived.Laws.IdiomRangeMap
import Derived.Lib.OthersKept
import Derived.Maps.RangeRun
import Derived.MapKept
import Derived.WideMake
set_option linter.unusedVariables false
set_option linter.unusedSimpArgs false
set_option linter.unusedSectionVars false
set_option linter.unnecessarySimpa false
namespace Go.Den
open Go

/-- Abstract values. 'p': a value that holds no address; 'ptr': into block b, at element i, cell o, of a row of x elements; 'sl': elements i .. i+n of such a row; 'sa': a slice of an array: n elements of z cells (g: structured) from cell o of element i on; 'fz': a slice that nobody writes any more, as its elements (each of so many cells); 'fp': a pointer to memory that nobody writes any more; 'mp': a map; 'it': an iterator. 'fm': a map that nobody writes any more: keys, values. -/
inductive DV where
  | p (v : Value)
  | any
  | ptr (b i o x : Nat)
  | sl (b i n x : Nat)
  | sa (g : Bool) (z b i o n c x : Nat)
  | fz (sz : Nat) (l : List DV)
  | fp (v : DV)
  | agg (cs : List DV)
  | tup (vs : List DV)
  | mp (b : Nat)
  | it (b : Nat)
  | iface (t : TypeId) (v : DV)
  | fn (f : Fn) (first cap : List DV)
  | fm (ks : List Value) (vs : List DV)
  deriving Inhabited

/-- An iterator over a map: the entries that are left; the one where it stands. -/
abbrev Lf := List Nat × Option Nat

/-- Abstract blocks. -/
inductive Blk where
  | dead
  | cells (sz : Nat) (els : List DV)
  | map (es : List (Value × DV))
  | sit (s : ByteArray) (pos : Nat)
  | mit (m : Option Nat) (left : Lf)
  deriving Inhabited

/-- What a reference into a block leans on. -/
inductive Key where
  | c (sz n : Nat)
  | m
  | s
  | i
  deriving DecidableEq

def Blk.key : Blk → Option Key
  | .dead => none
  | .cells sz els => some (.c sz els.length)
  | .map _ => some .m
  | .sit _ _ => some .s
  | .mit _ _ => some .i

/-- Grown: of the same kind, no shorter. -/
def Key.le : Key → Key → Prop
  | .c sz n, .c sz' n' => sz = sz' ∧ n ≤ n'
  | .m, .m => True
  | .s, .s => True
  | .i, .i => True
  | _, _ => False

theorem Key.le_refl (k : Key) : Key.le k k := by cases k <;> simp [Key.le]
theorem Key.le_trans {a b c : Key} (h : Key.le a b) (h' : Key.le b c) : Key.le a c := by
  cases a <;> cases b <;> simp only [Key.le] at h <;> cases c <;> simp only [Key.le] at h' ⊢
  exact ⟨h.1.trans h'.1, Nat.le_trans h.2 h'.2⟩
theorem Key.le_antisymm {a b : Key} (h : Key.le a b) (h' : Key.le b a) : a = b := by
  cases a <;> cases b <;> simp only [Key.le] at h h' ⊢
  rw [h.1, Nat.le_antisymm h.2 h'.2]

/-- pv: the machine's blocks that a region is making on the side. -/
structure Env where
  ρ : Nat → Option (Nat × Nat)
  h : List Blk
  H : Array Obj
  pv : Nat → Prop

def Env.key (e : Env) (b : Nat) : Option Key := (e.h[b]?).bind Blk.key

/-- A block of the machine that no living block stands for. -/
def RO (e : Env) (r : Nat) : Prop := r < e.H.size ∧ (∀ b q, e.key b ≠ none → e.ρ b = some q → q.1 ≠ r) ∧ ¬ e.pv r

def cellAt (H : Array Obj) (r o : Nat) : Option Value :=
  match H[r]? with
  | some (.cells c _ _) => c[o]?
  | _ => none

theorem cellAt_cell? (w : World) (r o : Nat) : w.cell? ⟨r, o, none⟩ = cellAt w.heap r o := by
  unfold World.cell? cellAt
  dsimp only
  split <;> simp_all

/-- All cells are single ones. -/
def Cells1 (v : Value) : Prop := ∀ i (hi : i < v.cells.size), v.cells[i].oneCell' = true

inductive VR (e : Env) : DV → Value → Prop
  | p {v : Value} (h1 : v.oneCell' = true) : VR e (.p v) v
  | any {v : Value} : VR e .any v
  | ptr {b i o x : Nat} {v : Value} (hb : b < e.h.length) (h : ∀ sz n, e.key b = some (.c sz n) → x ≤ n ∧ (x = n → i < n ∧ ∃ q, e.ρ b = some q ∧ v = .pointer (some ⟨q.1, i * sz + o, none⟩))) (h1 : v.oneCell' = true) : VR e (.ptr b i o x) v
  | sl {b i n x : Nat} {v : Value} (hb : b < e.h.length)
      (h : ∀ sz m, e.key b = some (.c sz m) → x ≤ m ∧ (x = m → i + n ≤ m ∧ ((e.ρ b = none ∧ v = .slice none 0 0) ∨ ∃ q a cap, e.ρ b = some q ∧ v = .slice (some a) n cap ∧ m ≤ i + cap ∧ (i + cap) * sz ≤ q.2 ∧ (0 < cap → a = ⟨q.1, i * sz, none⟩)))) (h1 : ∃ a c, v = .slice a n c) : VR e (.sl b i n x) v
  | sa {g : Bool} {z b i o n c x : Nat} {v : Value} (hb : b < e.h.length) (hg : g = false → z = 1)
      (h : ∀ sz m, e.key b = some (.c sz m) → x ≤ m ∧ (x = m → i < m ∧ ∃ q a, e.ρ b = some q ∧ v = .slice (some a) n c ∧ n ≤ c ∧ o + c * z ≤ sz ∧ (0 < c → a = ⟨q.1, i * sz + o, none⟩))) (h1 : ∃ a, v = .slice a n c) : VR e (.sa g z b i o n c x) v
  | fz0 {sz : Nat} {a : Option Addr} {cap : Nat} : VR e (.fz sz []) (.slice a 0 cap)
  | fz {sz : Nat} {l : List DV} {a : Addr} {cap : Nat} (vs : Nat → Value) (hs : a.spot = none) (hc : l.length ≤ cap) (hr : RO e a.block)
      (hv : ∀ j (hj : j < l.length), VR e l[j] (vs j)) (hsz : ∀ j, j < l.length → (vs j).cells.size = sz) (h1 : ∀ j, j < l.length → Cells1 (vs j))
      (hcell : ∀ j, j < l.length → ∀ k, k < sz → cellAt e.H a.block (a.off + j * sz + k) = (vs j).cells[k]?) : VR e (.fz sz l) (.slice (some a) l.length cap)
  | fp {d : DV} {a : Addr} (v0 : Value) (hs : a.spot = none) (hr : RO e a.block) (hv : VR e d v0)
      (hcell : ∀ k, k < v0.cells.size → cellAt e.H a.block (a.off + k) = v0.cells[k]?) : VR e (.fp d) (.pointer (some a))
  | agg {cs : List DV} {vs : Array Value} (hl : cs.length = vs.size) (h1 : ∀ i (hi : i < vs.size), vs[i].oneCell' = true) (h : ∀ i (hi : i < cs.length) (hi' : i < vs.size), VR e cs[i] vs[i]) : VR e (.agg cs) (.agg vs)
  | tup {cs : List DV} {vs : Array Value} (hl : cs.length = vs.size) (h : ∀ i (hi : i < cs.length) (hi' : i < vs.size), VR e cs[i] vs[i]) : VR e (.tup cs) (.tuple vs)
  | mp {b : Nat} {v : Value} (hb : b < e.h.length) (h : e.key b = some .m → ∃ q, e.ρ b = some q ∧ v = .map (some q.1)) (h1 : v.oneCell' = true) : VR e (.mp b) v
  | it {b : Nat} {v : Value} (hb : b < e.h.length) (h : ∀ k, e.key b = some k → k = .s ∨ k = .i → ∃ q, e.ρ b = some q ∧ v = .pointer (some ⟨q.1, 0, none⟩)) (h1 : v.oneCell' = true) : VR e (.it b) v
  | iface {t : TypeId} {d : DV} {v : Value} (h : VR e d v) : VR e (.iface t d) (.iface t v)
  | fn {f : Fn} {ds es : List DV} {vs us : Array Value} (hl : ds.length = vs.size) (h : ∀ i (hi : i < ds.length) (hi' : i < vs.size), VR e ds[i] vs[i])
      (hl' : es.length = us.size) (h' : ∀ i (hi : i < es.length) (hi' : i < us.size), VR e es[i] us[i]) : VR e (.fn f ds es) (.func f vs us)
  | fm {ks : List Value} {ds : List DV} {r : Nat} (es : List (Value × DV)) (res : Array MapEntry) (clock : Nat) (hr : RO e r) (hH : e.H[r]? = some (.map res clock)) (hp : es.Perm (ks.zip ds)) (hkl : ks.length = ds.length) (hl : es.length = res.size)
      (hk : ∀ j (hj : j < es.length) (hj' : j < res.size), es[j].1 = res[j].key) (hv : ∀ j (hj : j < es.length) (hj' : j < res.size), VR e es[j].2 res[j].val) : VR e (.fm ks ds) (.map (some r))

/-- From e to e': of what was there before, blocks below n: what can still be spoken of is as it was. -/
structure Ev (n : Nat) (e e' : Env) : Prop where
  len : n ≤ e'.h.length
  size : e.H.size ≤ e'.H.size
  ro : ∀ r, RO e r → RO e' r ∧ e'.H[r]? = e.H[r]?
  key : ∀ b, b < n → ∀ k', e'.key b = some k' → ∃ k, e.key b = some k ∧ Key.le k k' ∧ (k = k' → e'.ρ b = e.ρ b)
  pv : e'.pv = e.pv
  pvH : ∀ r, e.pv r → e'.H[r]? = e.H[r]?

theorem Ev.refl (e : Env) : Ev e.h.length e e := ⟨Nat.le_refl _, Nat.le_refl _, fun r h => ⟨h, rfl⟩, fun b _ k' h => ⟨k', h, Key.le_refl _, fun _ => rfl⟩, rfl, fun _ _ => rfl⟩
theorem Ev.refl' {n : Nat} (e : Env) (h : n ≤ e.h.length) : Ev n e e := ⟨h, Nat.le_refl _, fun r h => ⟨h, rfl⟩, fun b _ k' h => ⟨k', h, Key.le_refl _, fun _ => rfl⟩, rfl, fun _ _ => rfl⟩
theorem Ev.trans {n m : Nat} {a b c : Env} (h : Ev n a b) (h' : Ev m b c) (hnm : n ≤ m) : Ev n a c := by
  refine ⟨Nat.le_trans hnm h'.len, Nat.le_trans h.size h'.size, fun r hr => ?_, fun x hx k'' hk => ?_, h'.pv.trans h.pv, fun r hr => (h'.pvH r (by rw [h.pv]; exact hr)).trans (h.pvH r hr)⟩
  · obtain ⟨h1, h2⟩ := h.ro r hr
    obtain ⟨h3, h4⟩ := h'.ro r h1
    exact ⟨h3, h4.trans h2⟩
  · obtain ⟨k', h1, h2, h3⟩ := h'.key x (by omega) k'' hk
    obtain ⟨k, h4, h5, h6⟩ := h.key x hx k' h1
    refine ⟨k, h4, Key.le_trans h5 h2, fun he => ?_⟩
    subst he
    have : k' = k := Key.le_antisymm h2 h5
    subst this
    rw [h3 rfl, h6 rfl]
theorem Ev.mono {n m : Nat} {a b : Env} (h : Ev n a b) (hm : m ≤ n) : Ev m a b := ⟨by have := h.len; omega, h.size, h.ro, fun x hx => h.key x (by omega), h.pv, h.pvH⟩

theorem cellAt_eq {H H' : Array Obj} {r : Nat} (h : H'[r]? = H[r]?) (o : Nat) : cellAt H' r o = cellAt H r o := by simp only [cellAt, h]

/-- All blocks that a value speaks of are among these. -/
inductive WF (B : Nat → Prop) : DV → Prop
  | p {v : Value} : WF B (.p v)
  | any : WF B .any
  | ptr {b i o x : Nat} (h : B b) : WF B (.ptr b i o x)
  | sl {b i n x : Nat} (h : B b) : WF B (.sl b i n x)
  | sa {g : Bool} {z b i o n c x : Nat} (h : B b) : WF B (.sa g z b i o n c x)
  | fz {sz : Nat} {l : List DV} (h : ∀ j (hj : j < l.length), WF B l[j]) : WF B (.fz sz l)
  | fp {d : DV} (h : WF B d) : WF B (.fp d)
  | agg {l : List DV} (h : ∀ j (hj : j < l.length), WF B l[j]) : WF B (.agg l)
  | tup {l : List DV} (h : ∀ j (hj : j < l.length), WF B l[j]) : WF B (.tup l)
  | mp {b : Nat} (h : B b) : WF B (.mp b)
  | it {b : Nat} (h : B b) : WF B (.it b)
  | iface {t : TypeId} {d : DV} (h : WF B d) : WF B (.iface t d)
  | fn {f : Fn} {l m : List DV} (h : ∀ j (hj : j < l.length), WF B l[j]) (h' : ∀ j (hj : j < m.length), WF B m[j]) : WF B (.fn f l m)
  | fm {ks : List Value} {l : List DV} (h : ∀ j (hj : j < l.length), WF B l[j]) : WF B (.fm ks l)

theorem WF.mono {B B' : Nat → Prop} (hB : ∀ b, B b → B' b) {d : DV} (h : WF B d) : WF B' d := by
  induction h with
  | p => exact .p
  | any => exact .any
  | ptr h => exact .ptr (hB _ h)
  | sl h => exact .sl (hB _ h)
  | sa h => exact .sa (hB _ h)
  | fz _ ih => exact .fz ih
  | fp _ ih => exact .fp ih
  | agg _ ih => exact .agg ih
  | tup _ ih => exact .tup ih
  | mp h => exact .mp (hB _ h)
  | it h => exact .it (hB _ h)
  | iface _ ih => exact .iface ih
  | fn _ _ ih ih' => exact .fn ih ih'
  | fm _ ih => exact .fm ih

/-- The values of a map's entries in another order. -/
theorem zip_val {ks : List Value} {ds : List DV} {es : List (Value × DV)} (hp : es.Perm (ks.zip ds)) (hkl : ks.length = ds.length) {j : Nat} (hj : j < ds.length) : ∃ i, ∃ hi : i < es.length, es[i].2 = ds[j] := by
  have h1 : (ks[j]'(by omega), ds[j]) ∈ ks.zip ds := List.mem_iff_getElem.2 ⟨j, by simp [hkl, hj], by simp⟩
  obtain ⟨i, hi, he⟩ := List.getElem_of_mem (hp.mem_iff.2 h1)
  exact ⟨i, hi, by rw [he]⟩
theorem zip_val' {ks : List Value} {ds : List DV} {es : List (Value × DV)} (hp : es.Perm (ks.zip ds)) {i : Nat} (hi : i < es.length) : ∃ j, ∃ hj : j < ds.length, es[i].2 = ds[j] := by
  have h1 : es[i] ∈ ks.zip ds := hp.mem_iff.1 (List.getElem_mem hi)
  obtain ⟨j, hj, he⟩ := List.getElem_of_mem h1
  have hj' : j < ds.length := by simp at hj; omega
  exact ⟨j, hj', by rw [← he]; simp⟩
theorem VR.wf {e : Env} {d : DV} {v : Value} (h : VR e d v) : WF (· < e.h.length) d := by
  induction h with
  | p _ => exact .p
  | any => exact .any
  | ptr hb _ _ => exact .ptr hb
  | sl hb _ _ => exact .sl hb
  | sa hb _ _ _ => exact .sa hb
  | fz0 => exact .fz (fun j hj => absurd hj (by simp))
  | fz _ _ _ _ _ _ _ _ ih => exact .fz ih
  | fp _ _ _ _ _ ih => exact .fp ih
  | agg hl _ _ ih => exact .agg fun j hj => ih j hj (hl ▸ hj)
  | tup hl _ ih => exact .tup fun j hj => ih j hj (hl ▸ hj)
  | mp hb _ _ => exact .mp hb
  | it hb _ _ => exact .it hb
  | iface _ ih => exact .iface ih
  | fn hl _ hl' _ ih ih' => exact .fn (fun j hj => ih j hj (hl ▸ hj)) (fun j hj => ih' j hj (hl' ▸ hj))
  | fm es res clock hr hH hp hkl hl hk hv ih =>
    refine .fm fun j hj => ?_
    obtain ⟨i, hi, he⟩ := zip_val hp hkl hj
    rw [← he]
    exact ih i hi (hl ▸ hi)

/-- What may change while the values that speak of the blocks B stay as they are. -/
structure EvB (B : Nat → Prop) (e e' : Env) : Prop where
  len : ∀ b, B b → b < e'.h.length
  ro : ∀ r, RO e r → RO e' r ∧ e'.H[r]? = e.H[r]?
  key : ∀ b, B b → ∀ k', e'.key b = some k' → ∃ k, e.key b = some k ∧ Key.le k k' ∧ (k = k' → e'.ρ b = e.ρ b)
  pv : e'.pv = e.pv
  pvH : ∀ r, e.pv r → e'.H[r]? = e.H[r]?

theorem Ev.toB {n : Nat} {e e' : Env} (h : Ev n e e') : EvB (· < n) e e' := ⟨fun b hb => Nat.lt_of_lt_of_le hb h.len, h.ro, h.key, h.pv, h.pvH⟩

/-- The like; of what is private nothing is said. -/
structure EvR (B : Nat → Prop) (e e' : Env) : Prop where
  len : ∀ b, B b → b < e'.h.length
  ro : ∀ r, RO e r → RO e' r ∧ e'.H[r]? = e.H[r]?
  key : ∀ b, B b → ∀ k', e'.key b = some k' → ∃ k, e.key b = some k ∧ Key.le k k' ∧ (k = k' → e'.ρ b = e.ρ b)

theorem VR.gen0 {B : Nat → Prop} {e e' : Env} {d : DV} {v : Value} (h : VR e d v) (ev : EvR B e e') (hw : WF B d) : VR e' d v := by
  induction h with
  | p h1 => exact .p h1
  | any => exact .any
  | ptr hb h h1 =>
    cases hw with
    | ptr hB =>
    refine .ptr (ev.len _ hB) (fun sz n hk => ?_) h1
    obtain ⟨k, h2, h3, h4⟩ := ev.key _ hB _ hk
    cases k with
    | c sz' n' =>
      simp only [Key.le] at h3
      obtain ⟨rfl, h3⟩ := h3
      obtain ⟨h5, h6⟩ := h _ _ h2
      refine ⟨Nat.le_trans h5 h3, fun hx => ?_⟩
      subst hx
      obtain rfl : n' = _ := Nat.le_antisymm h3 h5
      obtain ⟨h7, q, h8, h9⟩ := h6 rfl
      exact ⟨h7, q, by rw [h4 rfl]; exact h8, h9⟩
    | _ => simp [Key.le] at h3
  | sl hb h h1 =>
    cases hw with
    | sl hB =>
    refine .sl (ev.len _ hB) (fun sz m hk => ?_) h1
    obtain ⟨k, h2, h3, h4⟩ := ev.key _ hB _ hk
    cases k with
    | c sz' n' =>
      simp only [Key.le] at h3
      obtain ⟨rfl, h3⟩ := h3
      obtain ⟨h5, h6⟩ := h _ _ h2
      refine ⟨Nat.le_trans h5 h3, fun hx => ?_⟩
      subst hx
      obtain rfl : n' = _ := Nat.le_antisymm h3 h5
      rw [h4 rfl]
      exact h6 rfl
    | _ => simp [Key.le] at h3
  | sa hb hg h h1 =>
    cases hw with
    | sa hB =>
    refine .sa (ev.len _ hB) hg (fun sz m hk => ?_) h1
    obtain ⟨k, h2, h3, h4⟩ := ev.key _ hB _ hk
    cases k with
    | c sz' n' =>
      simp only [Key.le] at h3
      obtain ⟨rfl, h3⟩ := h3
      obtain ⟨h5, h6⟩ := h _ _ h2
      refine ⟨Nat.le_trans h5 h3, fun hx => ?_⟩
      subst hx
      obtain rfl : n' = _ := Nat.le_antisymm h3 h5
      rw [h4 rfl]
      exact h6 rfl
    | _ => simp [Key.le] at h3
  | fz0 => exact .fz0
  | fz vs hs hc hr hv hsz h1 hcell ih =>
    cases hw with
    | fz hw =>
    refine .fz vs hs hc (ev.ro _ hr).1 (fun j hj => ih j hj (hw j hj)) hsz h1 fun j hj k hk => ?_
    rw [cellAt_eq (ev.ro _ hr).2]
    exact hcell j hj k hk
  | fp v0 hs hr hv hcell ih =>
    cases hw with
    | fp hw =>
    refine .fp v0 hs (ev.ro _ hr).1 (ih hw) fun k hk => ?_
    rw [cellAt_eq (ev.ro _ hr).2]
    exact hcell k hk
  | agg hl h1 h ih =>
    cases hw with
    | agg hw => exact .agg hl h1 fun i hi hi' => ih i hi hi' (hw i hi)
  | tup hl h ih =>
    cases hw with
    | tup hw => exact .tup hl fun i hi hi' => ih i hi hi' (hw i hi)
  | mp hb h h1 =>
    cases hw with
    | mp hB =>
    refine .mp (ev.len _ hB) (fun hk => ?_) h1
    obtain ⟨k, h2, h3, h4⟩ := ev.key _ hB _ hk
    cases k <;> simp [Key.le] at h3
    rw [h4 rfl]
    exact h h2
  | it hb h h1 =>
    cases hw with
    | it hB =>
    refine .it (ev.len _ hB) (fun k' hk hs => ?_) h1
    obtain ⟨k, h2, h3, h4⟩ := ev.key _ hB _ hk
    have : k = k' := by rcases hs with rfl | rfl <;> cases k <;> simp_all [Key.le]
    rw [h4 this]
    exact h _ h2 (this ▸ hs)
  | iface _ ih =>
    cases hw with
    | iface hw => exact .iface (ih hw)
  | fn hl h hl' h' ih ih' =>
    cases hw with
    | fn hw hw' => exact .fn hl (fun i hi hi' => ih i hi hi' (hw i hi)) hl' (fun i hi hi' => ih' i hi hi' (hw' i hi))
  | fm es res clock hr hH hp hkl hl hk hv ih =>
    cases hw with
    | fm hw =>
    refine .fm es res clock (ev.ro _ hr).1 (by rw [(ev.ro _ hr).2]; exact hH) hp hkl hl hk fun j hj hj' => ih j hj hj' ?_
    obtain ⟨i, hi, he⟩ := zip_val' hp hj
    rw [he]
    exact hw i hi

theorem VR.gen {B : Nat → Prop} {e e' : Env} {d : DV} {v : Value} (h : VR e d v) (ev : EvB B e e') (hw : WF B d) : VR e' d v := h.gen0 ⟨ev.len, ev.ro, ev.key⟩ hw
theorem VR.mono {e e' : Env} {d : DV} {v : Value} (h : VR e d v) (ev : Ev e.h.length e e') : VR e' d v := h.gen ev.toB h.wf

theorem VR.one {e : Env} {d : DV} {v : Value} (h : VR e d v) : (match d with | .any | .agg _ | .tup _ => true | _ => v.oneCell') = true := by
  cases h with
  | p h => exact h
  | ptr _ _ h1 => exact h1
  | sl _ _ h1 => obtain ⟨a, c, rfl⟩ := h1; rfl
  | sa _ _ _ h1 => obtain ⟨a, rfl⟩ := h1; rfl
  | mp _ _ h1 => exact h1
  | it _ _ h1 => exact h1
  | _ => rfl

def DV.storable : DV → Bool
  | .any | .tup _ => false
  | _ => true

theorem VR.cells1 {e : Env} {d : DV} {v : Value} (h : VR e d v) (hd : d.storable = true) : Cells1 v := by
  have h0 := h.one
  have key : v.oneCell' = true → Cells1 v := by
    intro ho i hi
    have : v.cells = #[v] := by cases v <;> first | rfl | simp [Value.oneCell'] at ho
    simp only [this] at hi ⊢
    have : i = 0 := by simp at hi; exact hi
    subst this
    simpa using ho
  cases h with
  | any => cases hd
  | tup => cases hd
  | agg hl h1 h => exact fun i hi => h1 i hi
  | _ => exact key h0

/-- A living block, and what stands for it. -/
inductive BR (e : Env) (b : Nat) : Blk → Prop
  | dead : BR e b .dead
  | nil {sz : Nat} (h : e.ρ b = none) : BR e b (.cells sz [])
  | cells {sz : Nat} {els : List DV} (q : Nat × Nat) (c : Array Value) (T : TypeId) (fr : Nat × Nat) (vs : Nat → Value) (hq : e.ρ b = some q)
      (hH : e.H[q.1]? = some (.cells c T fr)) (hc : c.size = q.2) (hl : els.length * sz ≤ q.2) (hf : ∀ k, k ≤ q.2 → (sz ≠ 1 ∨ k < q.2) → ¬(fr.1 ≤ k ∧ k < fr.2))
      (hv : ∀ j (hj : j < els.length), VR e els[j] (vs j)) (hsz : ∀ j, j < els.length → (vs j).cells.size = sz) (h1 : ∀ j, j < els.length → Cells1 (vs j))
      (hcell : ∀ j, j < els.length → ∀ k, k < sz → c[j * sz + k]? = (vs j).cells[k]?) : BR e b (.cells sz els)
  | map {es : List (Value × DV)} (q : Nat × Nat) (res : Array MapEntry) (clock : Nat) (hq : e.ρ b = some q) (hH : e.H[q.1]? = some (.map res clock)) (hl : es.length = res.size)
      (hk : ∀ j (hj : j < es.length) (hj' : j < res.size), es[j].1 = res[j].key) (hv : ∀ j (hj : j < es.length) (hj' : j < res.size), VR e es[j].2 res[j].val)
      (hb : ∀ j (hj : j < res.size), res[j].born < clock) (hd : ∀ i j (hi : i < res.size) (hj : j < res.size), res[i].born = res[j].born → i = j) : BR e b (.map es)
  | sit {s : ByteArray} {pos : Nat} (q : Nat × Nat) (hq : e.ρ b = some q) (hH : e.H[q.1]? = some (.stringIter s pos)) : BR e b (.sit s pos)
  | mit0 (q : Nat × Nat) (since : Nat) (seen : Array Nat) (last : Nat) (hq : e.ρ b = some q) (hH : e.H[q.1]? = some (.mapIter none since seen last)) : BR e b (.mit none ([], none))
  | mit {m : Nat} {left : Lf} (q : Nat × Nat) (rm since : Nat) (seen : Array Nat) (last : Nat) (hml : m < e.h.length) (hq : e.ρ b = some q) (hH : e.H[q.1]? = some (.mapIter (some rm) since seen last))
      (hm : e.key m = some .m → ∃ qm res clock, e.ρ m = some qm ∧ qm.1 = rm ∧ e.H[rm]? = some (.map res clock) ∧ (∀ j (hj : j < res.size), res[j].born < since ∧ res[j].born < last) ∧
        (∀ j (hj : j < res.size), j ∈ left.1 ↔ res[j].born ∉ seen) ∧ (∀ j, j ∈ left.1 → j < res.size) ∧ left.1.Nodup ∧ last = clock ∧ since = clock ∧ ∀ j, left.2 = some j → ∃ hj : j < res.size, seen.back? = some (res[j]'hj).born) : BR e b (.mit (some m) left)

structure HR (e : Env) : Prop where
  inj : ∀ b b' q q', e.key b ≠ none → e.key b' ≠ none → e.ρ b = some q → e.ρ b' = some q' → q.1 = q'.1 → b = b'
  blk : ∀ b k, e.h[b]? = some k → BR e b k
  pvs : ∀ r, e.pv r → r < e.H.size
  pvl : ∀ r, e.pv r → ∀ b q, e.key b ≠ none → e.ρ b = some q → q.1 ≠ r

end Go.Den

namespace Go.Den
open Go

def upd {α : Type} (f : Nat → α) (b : Nat) (x : α) : Nat → α := fun i => if i = b then x else f i
theorem upd_same {α : Type} (f : Nat → α) (b : Nat) (x : α) : upd f b x b = x := by simp [upd]
theorem upd_ne {α : Type} (f : Nat → α) {b i : Nat} (x : α) (h : i ≠ b) : upd f b x i = f i := by simp [upd, h]

theorem Env.key_some {e : Env} {b : Nat} {k : Key} (h : e.key b = some k) : ∃ x, e.h[b]? = some x ∧ x.key = some k := by
  simp only [Env.key] at h
  cases hx : e.h[b]? with
  | none => simp [hx] at h
  | some x => exact ⟨x, rfl, by simpa [hx] using h⟩
theorem Env.key_lt {e : Env} {b : Nat} (h : e.key b ≠ none) : b < e.h.length := by
  rcases Nat.lt_or_ge b e.h.length with h1 | h1
  · exact h1
  · simp [Env.key, List.getElem?_eq_none h1] at h
theorem Env.key_of {e : Env} {b : Nat} {x : Blk} (h : e.h[b]? = some x) : e.key b = x.key := by simp [Env.key, h]

/-- Another block's reading, once the values read as before and its own memory is as it was. -/
theorem BR.keep {e e' : Env} {b : Nat} {k : Blk} (h : BR e b k) (hk : k.key ≠ none → e.key b ≠ none) (hρ : ∀ c, c = b ∨ e.key c = some .m → e'.key c ≠ none → e.key c ≠ none → e'.ρ c = e.ρ c)
    (hb : e'.key b = k.key) (hlen : e.h.length ≤ e'.h.length) (hkm : ∀ m l, k = .mit (some m) l → m < e.h.length → e'.key m = some .m → e.key m = some .m)
    (hH : ∀ c q, c = b ∨ (e.key c = some .m ∧ ∃ l, k = .mit (some c) l) → e.key c ≠ none → e.ρ c = some q → e'.H[q.1]? = e.H[q.1]?)
    (hv : ∀ d v, VR e d v → VR e' d v) : BR e' b k := by
  have hself : k.key ≠ none → e'.ρ b = e.ρ b := fun h1 => hρ b (.inl rfl) (by rw [hb]; exact h1) (hk h1)
  have hown : ∀ q, k.key ≠ none → e.ρ b = some q → e'.H[q.1]? = e.H[q.1]? := fun q h1 h2 => hH b q (.inl rfl) (hk h1) h2
  cases h with
  | dead => exact .dead
  | nil h => exact .nil (by rw [hself (by simp [Blk.key])]; exact h)
  | cells q c T fr vs hq hh hc hl hf hvs hsz h1 hcell =>
    exact .cells q c T fr vs (by rw [hself (by simp [Blk.key])]; exact hq) (by rw [hown q (by simp [Blk.key]) hq]; exact hh) hc hl hf (fun j hj => hv _ _ (hvs j hj)) hsz h1 hcell
  | map q res clock hq hh hl hkk hvs hb9 hd =>
    exact .map q res clock (by rw [hself (by simp [Blk.key])]; exact hq) (by rw [hown q (by simp [Blk.key]) hq]; exact hh) hl hkk (fun j hj hj' => hv _ _ (hvs j hj hj')) hb9 hd
  | sit q hq hh => exact .sit q (by rw [hself (by simp [Blk.key])]; exact hq) (by rw [hown q (by simp [Blk.key]) hq]; exact hh)
  | mit0 q since seen last hq hh => exact .mit0 q since seen last (by rw [hself (by simp [Blk.key])]; exact hq) (by rw [hown q (by simp [Blk.key]) hq]; exact hh)
  | mit q rm since seen last hml hq hh hm =>
    refine .mit q rm since seen last (by omega) (by rw [hself (by simp [Blk.key])]; exact hq) (by rw [hown q (by simp [Blk.key]) hq]; exact hh) fun h1 => ?_
    have h2 := hkm _ _ rfl hml h1
    obtain ⟨qm, res, clock, h3, rfl, h4, h5⟩ := hm h2
    exact ⟨qm, res, clock, by rw [hρ _ (.inr h2) (by rw [h1]; simp) (by rw [h2]; simp)]; exact h3, rfl, by rw [hH _ qm (.inr ⟨h2, _, rfl⟩) (by rw [h2]; simp) h3]; exact h4, h5⟩

theorem BR.lt {e : Env} {b : Nat} {k : Blk} (h : BR e b k) {q : Nat × Nat} (hk : k.key ≠ none) (hq : e.ρ b = some q) : q.1 < e.H.size := by
  have key : ∀ (o : Obj) (r : Nat), e.H[r]? = some o → r < e.H.size := fun o r h => (Array.getElem?_eq_some_iff.1 h).1
  cases h with
  | dead => simp [Blk.key] at hk
  | nil h => rw [h] at hq; cases hq
  | cells q' c T fr vs hq' hh => rw [hq'] at hq; cases hq; exact key _ _ hh
  | map q' res clock hq' hh => rw [hq'] at hq; cases hq; exact key _ _ hh
  | sit q' hq' hh => rw [hq'] at hq; cases hq; exact key _ _ hh
  | mit0 q' _ _ _ hq' hh => rw [hq'] at hq; cases hq; exact key _ _ hh
  | mit q' _ _ _ _ _ hq' hh => rw [hq'] at hq; cases hq; exact key _ _ hh

theorem HR.lt {e : Env} (hr : HR e) {c : Nat} {q : Nat × Nat} (hk : e.key c ≠ none) (hq : e.ρ c = some q) : q.1 < e.H.size := by
  obtain ⟨k, h3⟩ := Option.ne_none_iff_exists'.1 hk
  obtain ⟨x, h4, h5⟩ := Env.key_some h3
  exact (hr.blk c x h4).lt (by rw [h5]; simp) hq

/-- A new block at the end. -/
theorem env_push {e : Env} (hr : HR e) (x : Blk) (q : Option (Nat × Nat)) (H' : Array Obj) (hs : e.H.size ≤ H'.size) (hsame : ∀ r, r < e.H.size → H'[r]? = e.H[r]?)
    (hq : ∀ q0, q = some q0 → e.H.size ≤ q0.1) :
    let e' : Env := ⟨upd e.ρ e.h.length q, e.h ++ [x], H', e.pv⟩
    Ev e.h.length e e' ∧ (BR e' e.h.length x → HR e') := by
  intro e'
  have hkey : ∀ b, b < e.h.length → e'.key b = e.key b := fun b hb => by simp [Env.key, e', List.getElem?_append_left hb]
  have hρ : ∀ b, b < e.h.length → e'.ρ b = e.ρ b := fun b hb => upd_ne _ _ (by omega)
  have ev : Ev e.h.length e e' := by
    refine ⟨by simp [e'], hs, fun r h => ⟨⟨Nat.lt_of_lt_of_le h.1 hs, fun b q0 hk hb => ?_, h.2.2⟩, hsame r h.1⟩, fun b hb k' hk' => ⟨k', by rw [← hkey b hb]; exact hk', Key.le_refl _, fun _ => hρ b hb⟩, rfl, fun r h => hsame r (hr.pvs r h)⟩
    by_cases hb' : b < e.h.length
    · exact h.2.1 b q0 (by rw [← hkey b hb']; exact hk) (by rw [← hρ b hb']; exact hb)
    · have hlt : b < e'.h.length := Env.key_lt hk
      have : b = e.h.length := by simp [e'] at hlt; omega
      subst this
      have h1 := hq q0 (by rw [← hb]; exact (upd_same _ _ _).symm)
      have := h.1
      omega
  refine ⟨ev, fun hx => ⟨fun b b' q1 q2 hk hk' h1 h2 he => ?_, fun b k hb => ?_, fun r h => Nat.lt_of_lt_of_le (hr.pvs r h) hs, fun r h b q0 hk hb => by
    by_cases hb' : b < e.h.length
    · exact hr.pvl r h b q0 (by rw [← hkey b hb']; exact hk) (by rw [← hρ b hb']; exact hb)
    · have hlt : b < e'.h.length := Env.key_lt hk
      have : b = e.h.length := by simp [e'] at hlt; omega
      subst this
      have h1 := hq q0 (by rw [← hb]; exact (upd_same _ _ _).symm)
      have := hr.pvs r h
      omega⟩⟩
  · have old : ∀ b q, b < e.h.length → e'.key b ≠ none → e'.ρ b = some q → q.1 < e.H.size := fun b q hb hk hq => by
      rw [hkey b hb] at hk
      rw [hρ b hb] at hq
      exact hr.lt hk hq
    have hlt : ∀ b, e'.key b ≠ none → b < e.h.length ∨ b = e.h.length := fun b hk => by
      have := Env.key_lt hk
      simp [e'] at this
      omega
    have new : ∀ q, e'.ρ e.h.length = some q → e.H.size ≤ q.1 := fun q0 h => hq q0 (by rw [← h]; exact (upd_same _ _ _).symm)
    rcases hlt b hk with hb | rfl <;> rcases hlt b' hk' with hb' | rfl
    · exact hr.inj b b' q1 q2 (by rw [← hkey b hb]; exact hk) (by rw [← hkey b' hb']; exact hk') (by rw [← hρ b hb]; exact h1) (by rw [← hρ b' hb']; exact h2) he
    · have := old b q1 hb hk h1; have := new q2 h2; omega
    · have := old b' q2 hb' hk' h2; have := new q1 h1; omega
    · rfl
  · by_cases hb' : b < e.h.length
    · have hb0 : e.h[b]? = some k := by simpa [e', List.getElem?_append_left hb'] using hb
      exact (hr.blk b k hb0).keep (fun h => by rw [Env.key_of hb0]; exact h) (fun c _ _ h => hρ c (Env.key_lt h)) (by rw [hkey b hb']; exact Env.key_of hb0) ev.len
        (fun m l hm h1 h => by rw [← hkey m h1]; exact h)
        (fun c q _ hk hq => hsame _ (hr.lt hk hq)) (fun d v h => h.mono ev)
    · have hlt : b < e'.h.length := by
        rcases Nat.lt_or_ge b e'.h.length with h1 | h1
        · exact h1
        · rw [List.getElem?_eq_none h1] at hb; cases hb
      have : b = e.h.length := by simp [e'] at hlt; omega
      subst this
      have : k = x := by simpa [e'] using hb.symm
      subst this
      exact hx

/-- A living block is written, or moves. -/
theorem env_set {e : Env} (hr : HR e) (b : Nat) (k k' : Key) (hb : e.key b = some k) (x : Blk) (hx : x.key = some k') (hle : Key.le k k') (q : Option (Nat × Nat)) (hkq : k = k' → q = e.ρ b)
    (H' : Array Obj) (hs : e.H.size ≤ H'.size) (hsame : ∀ r, r < e.H.size → (∀ q0, e.ρ b = some q0 → q0.1 ≠ r) → H'[r]? = e.H[r]?)
    (hq : ∀ q0, q = some q0 → (∃ q1, e.ρ b = some q1 ∧ q1.1 = q0.1) ∨ e.H.size ≤ q0.1)
    (hmit : ∀ (c : Nat) (l : Lf), e.h[c]? = some (Blk.mit (some b) l) → e.key b = some .m → False) :
    let e' : Env := ⟨upd e.ρ b q, e.h.set b x, H', e.pv⟩
    Ev e.h.length e e' ∧ (BR e' b x → HR e') := by
  intro e'
  have hlt : b < e.h.length := Env.key_lt (by rw [hb]; simp)
  have hkey : ∀ c, c ≠ b → e'.key c = e.key c := fun c hc => by simp [Env.key, e', List.getElem?_set_ne (Ne.symm hc)]
  have hkb : e'.key b = some k' := by simp [Env.key, e', hlt, hx]
  have hρ : ∀ c, c ≠ b → e'.ρ c = e.ρ c := fun c hc => upd_ne _ _ hc
  have hρb : e'.ρ b = q := upd_same _ _ _
  have old : ∀ c q, e.key c ≠ none → e.ρ c = some q → q.1 < e.H.size := fun c q hk hq => by
    exact hr.lt hk hq
  have ev : Ev e.h.length e e' := by
    refine ⟨by simp [e'], hs, fun r h => ⟨⟨Nat.lt_of_lt_of_le h.1 hs, fun c q0 hk hc => ?_, h.2.2⟩, hsame r h.1 fun q0 h1 => h.2.1 b q0 (by rw [hb]; simp) h1⟩, fun c hc k1 hk1 => ?_, rfl, fun r h => hsame r (hr.pvs r h) fun q0 h1 => hr.pvl r h b q0 (by rw [hb]; simp) h1⟩
    · by_cases hcb : c = b
      · subst hcb
        rw [hρb] at hc
        rcases hq q0 hc with ⟨q1, h1, h2⟩ | h1
        · rw [← h2]; exact h.2.1 c q1 (by rw [hb]; simp) h1
        · have := h.1; omega
      · exact h.2.1 c q0 (by rw [← hkey c hcb]; exact hk) (by rw [← hρ c hcb]; exact hc)
    · by_cases hcb : c = b
      · subst hcb
        rw [hkb] at hk1
        cases hk1
        exact ⟨k, hb, hle, fun h => by rw [hρb]; exact hkq h⟩
      · exact ⟨k1, by rw [← hkey c hcb]; exact hk1, Key.le_refl _, fun _ => hρ c hcb⟩
  refine ⟨ev, fun hbr => ⟨fun c c' q1 q2 hk hk' h1 h2 he => ?_, fun c y hc => ?_, fun r h => Nat.lt_of_lt_of_le (hr.pvs r h) hs, fun r h c q0 hk hc => by
    by_cases hcb : c = b
    · subst hcb
      rw [hρb] at hc
      rcases hq q0 hc with ⟨q1, h1, h2⟩ | h1
      · rw [← h2]; exact hr.pvl r h c q1 (by rw [hb]; simp) h1
      · have := hr.pvs r h; omega
    · exact hr.pvl r h c q0 (by rw [← hkey c hcb]; exact hk) (by rw [← hρ c hcb]; exact hc)⟩⟩
  · have cross : ∀ c q1 q2, c ≠ b → e'.key c ≠ none → e'.ρ c = some q1 → q = some q2 → q1.1 ≠ q2.1 := fun c q1 q2 hcb hk h1 h2 he => by
      rw [hkey c hcb] at hk
      rw [hρ c hcb] at h1
      rcases hq q2 h2 with ⟨q3, h3, h4⟩ | h3
      · exact hcb (hr.inj c b q1 q3 hk (by rw [hb]; simp) h1 h3 (by rw [h4]; exact he))
      · have := old c q1 hk h1; omega
    by_cases hcb : c = b <;> by_cases hcb' : c' = b
    · rw [hcb, hcb']
    · subst hcb; rw [hρb] at h1; exact absurd he.symm (cross c' q2 q1 hcb' hk' h2 h1)
    · subst hcb'; rw [hρb] at h2; exact absurd he (cross c q1 q2 hcb hk h1 h2)
    · exact hr.inj c c' q1 q2 (by rw [← hkey c hcb]; exact hk) (by rw [← hkey c' hcb']; exact hk') (by rw [← hρ c hcb]; exact h1) (by rw [← hρ c' hcb']; exact h2) he
  · by_cases hcb : c = b
    · subst hcb
      have : y = x := by simpa [e', hlt] using hc.symm
      subst this
      exact hbr
    · have hc0 : e.h[c]? = some y := by simpa [e', List.getElem?_set_ne (Ne.symm hcb)] using hc
      refine (hr.blk c y hc0).keep (fun h => by rw [Env.key_of hc0]; exact h) (fun d h1 h2 h3 => ?_) (by rw [hkey c hcb]; exact Env.key_of hc0) ev.len (fun m l hm h1 h => ?_) (fun d q0 h1 h2 h3 => hsame _ (hr.lt h2 h3) fun q1 h4 he => ?_) (fun d v h => h.mono ev)
      · by_cases hd : d = b
        · subst hd
          rcases h1 with h1 | h1
          · exact absurd h1.symm hcb
          · rw [hb] at h1
            cases h1
            rw [hρb]
            refine hkq ?_
            cases k' <;> simp_all [Key.le]
        · exact hρ d hd
      · by_cases hd : m = b
        · subst hd
          rw [hkb] at h
          cases h
          rw [hb]
          cases k <;> simp_all [Key.le]
        · rw [← hkey m hd]; exact h
      · have hdb : d = b := hr.inj d b q0 q1 h2 (by rw [hb]; simp) h3 h4 he.symm
        subst hdb
        rcases h1 with h1 | ⟨h5, l, h1⟩
        · exact hcb h1.symm
        · exact hmit c l (by subst h1; exact hc0) h5

/-- What a block speaks of. -/
def Blk.wf (B : Nat → Prop) : Blk → Prop
  | .cells _ els => ∀ j (hj : j < els.length), WF B els[j]
  | .map es => ∀ j (hj : j < es.length), WF B es[j].2
  | .mit (some m) _ => B m
  | _ => True

theorem BR.wf {e : Env} {b : Nat} {k : Blk} (h : BR e b k) : k.wf (· < e.h.length) := by
  cases h with
  | dead => trivial
  | nil h => exact fun j hj => absurd hj (by simp)
  | cells q c T fr vs hq hh hc hl hf hvs hsz h1 hcell => exact fun j hj => (hvs j hj).wf
  | map q res clock hq hh hl hk hvs hb' hd' => exact fun j hj => (hvs j hj (hl ▸ hj)).wf
  | sit q hq hh => trivial
  | mit0 => trivial
  | mit _ _ _ _ _ hml => exact hml

theorem Blk.wf_mono {B B' : Nat → Prop} (hB : ∀ b, B b → B' b) {k : Blk} (h : k.wf B) : k.wf B' := by
  cases k with
  | dead => trivial
  | cells sz els => exact fun j hj => (h j hj).mono hB
  | map es => exact fun j hj => (h j hj).mono hB
  | sit => trivial
  | mit m l => cases m with
    | none => trivial
    | some m => exact hB _ h

/-- Some blocks are no longer spoken of. -/
theorem env_drop {e : Env} (hr : HR e) (h' : List Blk) (hd : ∀ (b : Nat) (k : Blk), h'[b]? = some k → e.h[b]? = some k ∨ k = Blk.dead) :
    let e' : Env := ⟨e.ρ, h', e.H, e.pv⟩
    EvB (· < h'.length) e e' ∧ ((∀ (b : Nat) (k : Blk), h'[b]? = some k → k.wf (· < h'.length)) → HR e') := by
  intro e'
  have hkey : ∀ b k', e'.key b = some k' → e.key b = some k' := fun b k' h => by
    obtain ⟨x, h1, h2⟩ := Env.key_some h
    rcases hd b x h1 with h3 | rfl
    · rw [Env.key_of h3]; exact h2
    · cases h2
  have ev : EvB (· < h'.length) e e' := ⟨fun b hb => hb, fun r h => ⟨⟨h.1, fun b q hk hq => h.2.1 b q (by
      obtain ⟨k, h3⟩ := Option.ne_none_iff_exists'.1 hk
      rw [hkey b k h3]; simp) hq, h.2.2⟩, rfl⟩, fun b hb k' h => ⟨k', hkey b k' h, Key.le_refl _, fun _ => rfl⟩, rfl, fun _ _ => rfl⟩
  refine ⟨ev, fun hw => ⟨fun b b' q q' hk hk' => ?_, fun b k hb => ?_, hr.pvs, fun r h b q hk hq => hr.pvl r h b q (by
    obtain ⟨k, h3⟩ := Option.ne_none_iff_exists'.1 hk
    rw [hkey b k h3]; simp) hq⟩⟩
  · obtain ⟨k1, h3⟩ := Option.ne_none_iff_exists'.1 hk
    obtain ⟨k2, h4⟩ := Option.ne_none_iff_exists'.1 hk'
    exact hr.inj b b' q q' (by rw [hkey b k1 h3]; simp) (by rw [hkey b' k2 h4]; simp)
  · by_cases hkd : k = .dead
    · subst hkd; exact .dead
    · have hb0 := (hd b k hb).resolve_right hkd
      have hw' := hw b k hb
      have h := hr.blk b k hb0
      cases h with
      | dead => exact .dead
      | nil h => exact .nil h
      | cells q c T fr vs hq hh hc hl hf hvs hsz h1 hcell =>
        exact .cells q c T fr vs hq hh hc hl hf (fun j hj => (hvs j hj).gen ev (hw' j hj)) hsz h1 hcell
      | map q res clock hq hh hl hk hvs hb' hd' =>
        exact .map q res clock hq hh hl hk (fun j hj hj' => (hvs j hj hj').gen ev (hw' j hj)) hb' hd'
      | sit q hq hh => exact .sit q hq hh
      | mit0 q since seen last hq hh => exact .mit0 q since seen last hq hh
      | mit q rm since seen last hml hq hh hm => exact .mit q rm since seen last hw' hq hh fun h => hm (hkey _ _ h)

end Go.Den

namespace Go.Den
open Go

/-- The world's other parts are as they were. -/
structure WS (w w' : World) : Prop where
  os : w'.os = w.os
  tape : w'.tape = w.tape
  output : w'.output = w.output
theorem WS.refl (w : World) : WS w w := ⟨rfl, rfl, rfl⟩
theorem WS.trans {a b c : World} (h : WS a b) (h' : WS b c) : WS a c := ⟨h'.os.trans h.os, h'.tape.trans h.tape, h'.output.trans h.output⟩

/-- A variable of a structure or an array that is told has just these cells. -/
def GX (e : Env) (g : Nat) : DV → Prop
  | .fp (.agg (_ :: cs)) => ∃ c T f, e.H[g]? = some (.cells c T f) ∧ c.size = cs.length + 1
  | _ => True
theorem GX.mono {e e' : Env} {g : Nat} {d : DV} (hv : VR e d (.pointer (some ⟨g, 0, none⟩))) (hx : GX e g d) (h : ∀ r, RO e r → e'.H[r]? = e.H[r]?) : GX e' g d := by
  unfold GX at hx ⊢
  split
  · cases hv with
    | fp v0 hs hr hv hc => rw [h g hr]; exact hx
  · trivial
def GR (e : Env) (G : Nat → DV) : Prop := ∀ g, VR e (G g) (.pointer (some ⟨g, 0, none⟩)) ∧ GX e g (G g)
def TR (e : Env) (t : List DV) (vs : Array Value) : Prop := t.length = vs.size ∧ ∀ i (hi : i < t.length) (hi' : i < vs.size), VR e t[i] vs[i]

/-- THE CONTRACT: called at related values, the function returns what is related. -/
def Ok (P : Program) (G : Nat → DV) (f : FuncId) (args : List DV) (h : List Blk) (v : DV) (h' : List Blk) : Prop :=
  ∀ (e : Env) (w : World) (vs : Array Value), e.h = h → e.H = w.heap → HR e → GR e G → TR e args vs →
    Calls P f vs w fun en w' => ∃ v' e', en = .returned v' ∧ e'.H = w'.heap ∧ e'.h = h' ∧ WS w w' ∧ HR e' ∧ VR e' v v' ∧ Ev e.h.length e e'

/-- The same, where more than one outcome is possible. -/
def OkR (P : Program) (G : Nat → DV) (f : FuncId) (args : List DV) (h : List Blk) (R : DV → List Blk → Prop) : Prop :=
  ∀ (e : Env) (w : World) (vs : Array Value), e.h = h → e.H = w.heap → HR e → GR e G → TR e args vs →
    Calls P f vs w fun en w' => ∃ v' e' v h', en = .returned v' ∧ e'.H = w'.heap ∧ e'.h = h' ∧ WS w w' ∧ HR e' ∧ VR e' v v' ∧ Ev e.h.length e e' ∧ R v h'
theorem Ok.toR {P : Program} {G : Nat → DV} {f : FuncId} {args : List DV} {h : List Blk} {v : DV} {h' : List Blk} (hf : Ok P G f args h v h') : OkR P G f args h fun v1 h1 => v1 = v ∧ h1 = h' :=
  fun e w vs he hH hr hg ht => (hf e w vs he hH hr hg ht).mono fun en w' ⟨v', e', h1, h2, h3, h4, h5, h6, h7⟩ => ⟨v', e', v, h', h1, h2, h3, h4, h5, h6, h7, rfl, rfl⟩

inductive Opd where
  | t (n : Nat)
  | c (v : DV)
  | g (n : Nat)
  deriving Inhabited

def Opd.ev (G : Nat → DV) (t : List DV) : Opd → DV
  | .t n => t.getD n .any
  | .c v => v
  | .g n => G n

inductive NK where
  | ptr | sl | map | iface | fn
  deriving DecidableEq

/-- The kinds of cells that are compared. -/
inductive CK where
  | int | bool | str | flt
  deriving DecidableEq

inductive DO where
  | mov (x : Opd)
  | pick (c a b : Opd)
  | bin (op : BinOp) (x y : Opd)
  | eqb (neg : Bool) (x y : Opd)
  | eqn (neg : Bool) (k : NK) (x : Opd)
  | eqi (neg : Bool) (x y : Opd)
  | eqp (neg : Bool) (x y : Opd)
  | eqs (neg : Bool) (ks : List CK) (x y : Opd)
  | un (op : UnOp) (x : Opd)
  | cint (k : IntKind) (x : Opd)
  | cstr (x : Opd)
  | b2s (x : Opd)
  | s2b (x : Opd)
  | s2bl (x : Opd)
  | lens (x : Opd)
  | lenl (x : Opd)
  | lenm (x : Opd)
  | mm (mx : Bool) (x y : Opd)
  | slcs (x : Opd) (lo hi : Option Opd)
  | slcl (sz : Nat) (x : Opd) (lo hi : Option Opd)
  | slca (n sz : Nat) (g : Bool) (x : Opd) (lo hi : Option Opd)
  | idxs (x i : Opd)
  | idxa (n sz : Nat) (g : Bool) (x i : Opd)
  | fld (o sz : Nat) (g : Bool) (x : Opd)
  | bld (zero : List DV) (parts : List (Nat × Nat × Opd))
  | lit (sz : Nat) (els : List Opd)
  | litz (sz : Nat) (els : List Opd)
  | alloc (sz : Nat) (zero : DV)
  | box (x : Opd)
  | boxn (sz : Nat) (x : Opd)
  | load (g : Bool) (sz : Nat) (a : Opd)
  | store (sz : Nat) (a x : Opd)
  | nilchk (k : NK) (x : Opd)
  | faddr (g : Bool) (o sz : Nat) (a : Opd)
  | iaddr (sz : Nat) (x i : Opd)
  | iaddra (n sz : Nat) (g : Bool) (x i : Opd)
  | app (sz bytes : Nat) (x y : Opd)
  | appz (y : Opd)
  | lmk
  | lin
  | lpb (ck : CK) (ks : List Value) (xs : List Opd)
  | ext (x : Opd) (i : Nat)
  | ifc (t : TypeId) (x : Opd)
  | rngs (x : Opd)
  | nxts (a : Opd)
  | mkmap
  | mkmapr (x : Opd)
  | pcall (f : FuncId) (args : List Opd)
  | rngm (x : Opd)
  | nxtm (a : Opd)
  | ent (a : Opd)
  | mupd (ck : CK) (m k x : Opd)
  | look (ck : CK) (zero : DV) (ok : Bool) (m k : Opd)
  | mdel (ck : CK) (m k : Opd)
  | clr (zero : DV) (x : Opd)
  | call (f : FuncId) (args : List Opd)
  | callr (f : FuncId) (args : List Opd)
  | stop
  | capl (x : Opd)
  | mks (g : Bool) (sz bytes : Nat) (zero : DV) (n c : Opd)
  | cpy (sz : Nat) (x y : Opd)
  | tas (t : TypeId) (zero : DV) (ok : Bool) (x : Opd)
  | tai (u : TypeId) (ok : Bool) (x : Opd)
  | mkf (f : Fn) (first cap : List Opd)
  | callv (rel : Bool) (x : Opd) (args : List Opd)
  | inv (rel : Bool) (name : String) (x : Opd) (args : List Opd)
  deriving Inhabited

def DV.size : DV → Nat
  | .agg cs => cs.length
  | .any | .tup _ => 0
  | _ => 1

def DV.cells : DV → List DV
  | .agg cs => cs
  | d => [d]

/-- Cells o .. o+sz of a value, as a value. -/
def sub (d : DV) (o sz : Nat) : Bool → DV
  | true => match d with
    | .agg cs => .agg ((cs.drop o).take sz)
    | _ => .any
  | false => match d with
    | .agg cs => cs.getD o .any
    | .any => .any
    | .tup _ => .any
    | d => d

/-- A value with other cells from o on. -/
def put (d : DV) (o : Nat) (x : DV) (sz : Nat) : DV :=
  match d with
  | .agg cs => .agg (cs.take o ++ x.cells ++ cs.drop (o + sz))
  | .any => .any
  | _ => x

def byteD (b : UInt8) : DV := .p (.int .u8 b.toNat)
def bytesD (s : ByteArray) : List DV := s.data.toList.map byteD
def toByte : DV → UInt8
  | .p (.int _ n) => UInt8.ofNat n.toNat
  | _ => 0
def isByte : DV → Bool
  | .p (.int .u8 n) => 0 ≤ n && n < 256
  | _ => false
def strOf (l : List DV) : ByteArray := ⟨(l.map toByte).toArray⟩

/-- Is a value of this kind nil? -/
def isNilD (h : List Blk) : NK → DV → Option Bool
  | .ptr, .p (.pointer none) => some true
  | .ptr, .ptr b _ _ x => match h[b]? with
    | some (.cells _ els) => if x = els.length then some false else none
    | _ => none
  | .ptr, .fp _ => some false
  | .sl, .p (.slice none _ _) => some true
  | .sl, .sl b _ n x => match h[b]? with
    | some (.cells _ els) => if x = els.length ∧ 0 < n then some false else none
    | _ => none
  | .sl, .sa _ _ b _ _ _ _ x => match h[b]? with
    | some (.cells _ els) => if x = els.length then some false else none
    | _ => none
  | .sl, .fz _ l => if l.isEmpty then none else some false
  | .map, .p (.map none) => some true
  | .map, .mp b => match h[b]? with
    | some (.map _) => some false
    | _ => none
  | .map, .fm _ _ => some false
  | .iface, .p .nilIface => some true
  | .iface, .iface .. => some false
  | .fn, .p .nilFunc => some true
  | .fn, .fn .. => some false
  | _, _ => none

def cFunc (P : Program) (f : FuncId) : Bool :=
  match P.funcs[f]? with
  | some fn => fn.body.isSome && !(fn.name == "runtime.NumGoroutine")
  | none => false

/-- A type of numbers, truths or texts. -/
def kindOf (P : Program) (t : TypeId) : Option CK :=
  match P.underlying t with
  | some .bool => some .bool
  | some (.int _) => some .int
  | some .string => some .str
  | some (.float _) => some .flt
  | _ => none
/-- May two values of this type behind an interface be compared? -/
def cmpOf (P : Program) (t : TypeId) : Option CK := if ((P.info? t).any fun i => i.comparable) then kindOf P t else none

/-- Numbers, truths, texts. -/
def iand (k : IntKind) (a b : Int) : Int := k.wrap (BitVec.ofInt k.bits a &&& BitVec.ofInt k.bits b).toNat
def ior (k : IntKind) (a b : Int) : Int := k.wrap (BitVec.ofInt k.bits a ||| BitVec.ofInt k.bits b).toNat
def ixor (k : IntKind) (a b : Int) : Int := k.wrap (BitVec.ofInt k.bits a ^^^ BitVec.ofInt k.bits b).toNat
def iandn (k : IntKind) (a b : Int) : Int := k.wrap (BitVec.ofInt k.bits a &&& ~~~ BitVec.ofInt k.bits b).toNat
def ishl (k : IntKind) (a b : Int) : Int := k.wrap (a * 2 ^ min b.toNat k.bits)
def ishr (k : IntKind) (a b : Int) : Int := a.fdiv (2 ^ min b.toNat k.bits)
def inot (k : IntKind) (n : Int) : Int := k.wrap (BitVec.ofInt k.bits (if k.signed then -1 else k.max) ^^^ BitVec.ofInt k.bits n).toNat

def binK (op : BinOp) (x y : Value) (K : Value → Prop) : Prop :=
  match x, y with
  | .int k a, .int k' b =>
    match op with
    | .shl => 0 ≤ b ∧ K (.int k (ishl k a b))
    | .shr => 0 ≤ b ∧ K (.int k (ishr k a b))
    | .add => k = k' ∧ K (.int k (k.wrap (a + b)))
    | .sub => k = k' ∧ K (.int k (k.wrap (a - b)))
    | .mul => k = k' ∧ K (.int k (k.wrap (a * b)))
    | .quo => k = k' ∧ b ≠ 0 ∧ K (.int k (k.wrap (a.tdiv b)))
    | .rem => k = k' ∧ b ≠ 0 ∧ K (.int k (a.tmod b))
    | .and => k = k' ∧ K (.int k (iand k a b))
    | .or => k = k' ∧ K (.int k (ior k a b))
    | .xor => k = k' ∧ K (.int k (ixor k a b))
    | .andNot => k = k' ∧ K (.int k (iandn k a b))
    | .eql => k = k' ∧ K (.bool (a == b))
    | .neq => k = k' ∧ K (.bool (a != b))
    | .lss => k = k' ∧ K (.bool (decide (a < b)))
    | .leq => k = k' ∧ K (.bool (decide (a ≤ b)))
    | .gtr => k = k' ∧ K (.bool (decide (b < a)))
    | .geq => k = k' ∧ K (.bool (decide (b ≤ a)))
  | .string a, .string b =>
    match op with
    | .add => ((a.size + b.size : Nat) : Int) ≤ 9223372036854775807 ∧ K (.string (a ++ b))
    | .eql => K (.bool (decide (a = b)))
    | .neq => K (.bool (!decide (a = b)))
    | .lss => K (.bool (Op.bytesLess a.data.toList b.data.toList))
    | .leq => K (.bool (Op.bytesLess a.data.toList b.data.toList || decide (a = b)))
    | .gtr => K (.bool (!(Op.bytesLess a.data.toList b.data.toList || decide (a = b))))
    | .geq => K (.bool (!(Op.bytesLess a.data.toList b.data.toList)))
    | _ => False
  | .float k a, .float k' b =>
    match op with
    | .add => k = k' ∧ (k.format.add a b).isSome = true ∧ K (.float k ((k.format.add a b).getD 0))
    | .sub => k = k' ∧ (k.format.sub a b).isSome = true ∧ K (.float k ((k.format.sub a b).getD 0))
    | .mul => k = k' ∧ (k.format.mul a b).isSome = true ∧ K (.float k ((k.format.mul a b).getD 0))
    | .quo => k = k' ∧ (k.format.div a b).isSome = true ∧ K (.float k ((k.format.div a b).getD 0))
    | .eql => k = k' ∧ K (.bool (k.format.order a b == some .eq))
    | .neq => k = k' ∧ K (.bool (k.format.order a b != some .eq))
    | .lss => k = k' ∧ K (.bool (k.format.order a b == some .lt))
    | .leq => k = k' ∧ K (.bool (k.format.order a b == some .lt || k.format.order a b == some .eq))
    | .gtr => k = k' ∧ K (.bool (k.format.order a b == some .gt))
    | .geq => k = k' ∧ K (.bool (k.format.order a b == some .gt || k.format.order a b == some .eq))
    | _ => False
  | _, _ => False

def unK (op : UnOp) (x : Value) (K : Value → Prop) : Prop :=
  match op, x with
  | .neg, .int k n => K (.int k (k.wrap (0 - n)))
  | .xor, .int k n => K (.int k (inot k n))
  | .not, .bool b => K (.bool (!b))
  | _, _ => False

/-- Equality of two values of single cells: numbers, truths, texts. -/
def cellEq : CK → DV → DV → Option Bool
  | .int, .p (.int k a), .p (.int k' b) => if k = k' then some (a == b) else none
  | .bool, .p (.bool a), .p (.bool b) => some (a == b)
  | .str, .p (.string a), .p (.string b) => some (decide (a = b))
  | .flt, .p (.float k a), .p (.float k' b) => if k = k' then some (Op.floatEq k a b) else none
  | _, _, _ => none
def cellsEq : List CK → List DV → List DV → Option Bool
  | [], [], [] => some true
  | k :: ks, x :: xs, y :: ys => match cellEq k x y, cellsEq ks xs ys with
    | some a, some b => some (a && b)
    | _, _ => none
  | _, _, _ => none

/-- A slice's elements. -/
def elemsOf (h : List Blk) (sz : Nat) : DV → Option (List DV)
  | .p (.slice none 0 0) => some []
  | .p (.string s) => if sz = 1 then some (bytesD s) else none
  | .fz sz' l => if sz' = sz then some l else none
  | .sl b i n x => match h[b]? with
    | some (.cells bsz els) => if x = els.length ∧ bsz = sz then some ((els.drop i).take n) else none
    | _ => none
  | .sa g z b i o n c x => match h[b]? with
    | some (.cells bsz els) => if x = els.length ∧ z = sz then some ((List.range n).map fun j => sub (els.getD i .any) (o + j * z) z g) else none
    | _ => none
  | _ => none

def sliceOf (h : List Blk) (sz : Nat) : DV → Option (List DV)
  | .p (.string _) => none
  | d => elemsOf h sz d

/-- Are two keys the same? -/
def keyEq : CK → Value → Value → Option Bool
  | .int, .int k a, .int k' b => if k = k' then some (a == b) else none
  | .bool, .bool a, .bool b => some (a == b)
  | .str, .string a, .string b => some (decide (a = b))
  | _, _, _ => none
/-- Where a key stands in a map, if it does. -/
def mfind (ck : CK) (k : Value) : List (Value × DV) → Nat → Option (Option Nat)
  | [], _ => some none
  | e :: es, i => match keyEq ck k e.1 with
    | some true => some (some i)
    | some false => mfind ck k es (i + 1)
    | none => none
/-- Keys no two of which are alike. -/
def kdist (ck : CK) : List Value → Bool
  | [] => true
  | k :: ks => (ks.all fun x => keyEq ck k x == some false) && kdist ck ks
/-- Keys that can be held against one. -/
def kdec (ck : CK) (k : Value) (ks : List Value) : Bool := ks.all fun x => (keyEq ck k x).isSome
/-- No iterator runs over this map. -/
def noIter (h : List Blk) (b : Nat) : Prop := ∀ (c : Nat) (l : Lf), h[c]? = some (Blk.mit (some b) l) → False
/-- A map's entries, this key's value another one. -/
def mput (es : List (Value × DV)) (k : Value) (v : DV) : Option Nat → List (Value × DV)
  | some i => es.set i (k, v)
  | none => es ++ [(k, v)]
def mres (ok : Bool) (v : DV) (b : Bool) : DV := if ok = true then .tup [v, .p (.bool b)] else v
/-- A value of one cell, not a structure. -/
def DV.one : DV → Bool
  | .agg _ | .any | .tup _ => false
  | _ => true
def isPtrDesc : TypeDesc → Bool
  | .pointer _ => true
  | _ => false
/-- The function of a method of a type, where the receiver is the value itself. -/
def methOf (P : Program) (t : TypeId) (name : String) : Option FuncId :=
  match P.info? t with
  | some i => match i.methods.find? (·.name == name) with
    | some m => match m.path.isEmpty, m.func, P.underlying t with
      | true, some (f, pr), some d => if pr = isPtrDesc d then some f else none
      | _, _, _ => none
    | none => none
  | none => none
/-- Has a type the methods of an interface? -/
def hasM (P : Program) (u t : TypeId) : Option Bool :=
  match P.underlying u, P.info? t with
  | some (.interface want), some i => some (Instr.missingMethod want i.methods).isNone
  | _, _ => none

/-- Whatever stands there stands there still. -/
def HPre (h h' : List Blk) : Prop := ∀ (b : Nat) (k : Blk), h[b]? = some k → h'[b]? = some k

/-- The like, but of what is dead nothing is asked: a view of the memory. -/
def HV (h h' : List Blk) : Prop := ∀ (b : Nat) (k : Blk), h[b]? = some k → h'[b]? = some k ∨ k = .dead

/-- WHAT AN OPERATION ASKS, and what it leaves. -/
def vcO (P : Program) (G : Nat → DV) (o : DO) (ev : Opd → DV) (h : List Blk) (K : DV → List Blk → Prop) : Prop :=
  match o with
  | .mov x => K (ev x) h
  | .pick c a b => match ev c with
    | .p (.bool t) => if t = true then K (ev a) h else K (ev b) h
    | _ => False
  | .bin op x y => match ev x, ev y with
    | .p a, .p b => binK op a b fun v => K (.p v) h
    | _, _ => False
  | .eqb neg x y => match ev x, ev y with
    | .p (.bool a), .p (.bool b) => K (.p (.bool ((a == b) != neg))) h
    | _, _ => False
  | .eqn neg k x => match isNilD h k (ev x) with
    | some b => K (.p (.bool (b != neg))) h
    | none => False
  | .eqp neg x y => match ev x, ev y with
    | .ptr b _ o n, .ptr b' _ o' n' => match h[b]? with
      | some (.cells sz els) => match h[b']? with
        | some (.cells sz' els') => (n = els.length ∧ n' = els'.length ∧ b ≠ b' ∧ o = 0 ∧ o' = 0 ∧ sz ≠ 1 ∧ sz' ≠ 1) ∧ K (.p (.bool neg)) h
        | _ => False
      | _ => False
    | _, _ => False
  | .eqi neg x y => match ev x, ev y with
    | .iface t a, .iface u b => if t = u then (match cmpOf P t with | some k => (match cellEq k a b with | some r => K (.p (.bool (r != neg))) h | none => False) | none => False) else K (.p (.bool neg)) h
    | .p .nilIface, .iface _ _ => K (.p (.bool neg)) h
    | .iface _ _, .p .nilIface => K (.p (.bool neg)) h
    | _, _ => False
  | .eqs neg ks x y => match ev x, ev y with
    | .agg xs, .agg ys => match cellsEq ks xs ys with
      | some r => K (.p (.bool (r != neg))) h
      | none => False
    | _, _ => False
  | .un op x => match ev x with
    | .p a => unK op a fun v => K (.p v) h
    | _ => False
  | .cint k x => match ev x with
    | .p (.int _ n) => K (.p (.int k (k.wrap n))) h
    | _ => False
  | .cstr x => match ev x with
    | .p (.int _ n) => K (.p (.string (Utf8.encode n))) h
    | .p (.string s) => K (.p (.string s)) h
    | _ => False
  | .b2s x => match sliceOf h 1 (ev x) with
    | some l => (∀ d, d ∈ l → isByte d = true) ∧ K (.p (.string (strOf l))) h
    | none => False
  | .s2b x => match ev x with
    | .p (.string s) => K (.fz 1 (bytesD s)) h
    | _ => False
  | .s2bl x => match ev x with
    | .p (.string s) => K (.sl h.length 0 s.size s.size) (h ++ [.cells 1 (bytesD s)])
    | _ => False
  | .lens x => match ev x with
    | .p (.string s) => K (.p (.int .i64 s.size)) h
    | _ => False
  | .lenl x => match ev x with
    | .p (.slice none 0 0) => K (.p (.int .i64 0)) h
    | .fz _ l => K (.p (.int .i64 l.length)) h
    | .sl _ _ n _ => K (.p (.int .i64 n)) h
    | .sa _ _ _ _ _ n _ _ => K (.p (.int .i64 n)) h
    | _ => False
  | .lenm x => match ev x with
    | .p (.map none) => K (.p (.int .i64 0)) h
    | .mp b => match h[b]? with
      | some (.map es) => K (.p (.int .i64 es.length)) h
      | _ => False
    | _ => False
  | .mm mx x y => match ev x, ev y with
    | .p (.int k a), .p (.int _ b) => K (.p (.int k (if mx then (if a < b then b else a) else (if b < a then b else a)))) h
    | _, _ => False
  | .slcs x lo hi =>
    match ev x with
    | .p (.string s) =>
      match lo.elim (DV.p (.int .i64 0)) ev, hi.elim (DV.p (.int .i64 s.size)) ev with
      | .p (.int _ l), .p (.int _ r) => 0 ≤ l ∧ l ≤ r ∧ r ≤ s.size ∧ K (.p (.string (s.extract l.toNat r.toNat))) h
      | _, _ => False
    | _ => False
  | .slcl sz x lo hi =>
    match ev x with
    | .fz sz' xs =>
      match lo.elim (DV.p (.int .i64 0)) ev, hi.elim (DV.p (.int .i64 xs.length)) ev with
      | .p (.int _ l), .p (.int _ r) => sz' = sz ∧ 0 ≤ l ∧ l ≤ r ∧ r ≤ xs.length ∧ K (.fz sz ((xs.drop l.toNat).take (r.toNat - l.toNat))) h
      | _, _ => False
    | .sl b i n x =>
      match lo.elim (DV.p (.int .i64 0)) ev, hi.elim (DV.p (.int .i64 n)) ev with
      | .p (.int _ l), .p (.int _ r) => (match h[b]? with | some (.cells bsz els) => x = els.length ∧ bsz = sz | _ => False) ∧ 0 ≤ l ∧ l ≤ r ∧ r ≤ n ∧ K (.sl b (i + l.toNat) (r.toNat - l.toNat) x) h
      | _, _ => False
    | .p (.slice none 0 0) =>
      match lo.elim (DV.p (.int .i64 0)) ev, hi.elim (DV.p (.int .i64 0)) ev with
      | .p (.int _ l), .p (.int _ r) => l = 0 ∧ r = 0 ∧ K (.p (.slice none 0 0)) h
      | _, _ => False
    | .sa g z b i o n c x =>
      match lo.elim (DV.p (.int .i64 0)) ev, hi.elim (DV.p (.int .i64 n)) ev with
      | .p (.int _ l), .p (.int _ r) => (match h[b]? with | some (.cells _ els) => x = els.length ∧ z = sz | _ => False) ∧ 0 ≤ l ∧ l ≤ r ∧ r ≤ c ∧ K (.sa g z b i (o + l.toNat * z) (r.toNat - l.toNat) (c - l.toNat) x) h
      | _, _ => False
    | _ => False
  | .slca m z g x lo hi =>
    match ev x with
    | .ptr b i o y =>
      match lo.elim (DV.p (.int .i64 0)) ev, hi.elim (DV.p (.int .i64 m)) ev with
      | .p (.int _ l), .p (.int _ r) => (match h[b]? with | some (.cells bsz els) => y = els.length ∧ o + m * z ≤ bsz | _ => False) ∧ 0 ≤ l ∧ l ≤ r ∧ r ≤ m ∧ K (.sa g z b i (o + l.toNat * z) (r.toNat - l.toNat) (m - l.toNat) y) h
      | _, _ => False
    | _ => False
  | .idxs x i => match ev x, ev i with
    | .p (.string s), .p (.int _ j) => 0 ≤ j ∧ j < s.size ∧ K (byteD (s.data.toList.getD j.toNat 0)) h
    | _, _ => False
  | .idxa n sz g x i => match ev x, ev i with
    | .agg cs, .p (.int _ j) => 0 ≤ j ∧ j < n ∧ cs.length = n * sz ∧ K (sub (.agg cs) (j.toNat * sz) sz g) h
    | _, _ => False
  | .fld o sz g x => match ev x with
    | .agg cs => o + sz ≤ cs.length ∧ K (sub (.agg cs) o sz g) h
    | _ => False
  | .bld zero parts =>
    let r := parts.foldl (fun (acc : Option (List DV)) p => acc.bind fun cs => if (ev p.2.2).size = p.2.1 ∧ (ev p.2.2).storable = true ∧ p.1 + p.2.1 ≤ cs.length then some (cs.take p.1 ++ (ev p.2.2).cells ++ cs.drop (p.1 + p.2.1)) else none) (some zero)
    match r with
    | some cs => K (.agg cs) h
    | none => False
  | .lit sz els => (∀ x, x ∈ els → (ev x).size = sz ∧ (ev x).storable = true) ∧ K (.sl h.length 0 els.length els.length) (h ++ [.cells sz (els.map ev)])
  | .litz sz els => (∀ x, x ∈ els → (ev x).size = sz ∧ (ev x).storable = true) ∧ K (.fz sz (els.map ev)) h
  | .alloc sz zero => K (.ptr h.length 0 0 1) (h ++ [.cells sz [zero]])
  | .box x => (ev x).storable = true ∧ K (.ptr h.length 0 0 1) (h ++ [.cells (ev x).size [ev x]])
  | .boxn sz x => ((ev x).storable = true ∧ (ev x).size = sz) ∧ K (.ptr h.length 0 0 1) (h ++ [.cells (ev x).size [ev x]])
  | .load g sz a => match ev a with
    | .ptr b i o x => match h[b]? with
      | some (.cells bsz els) => x = els.length ∧ o + sz ≤ bsz ∧ K (sub (els.getD i .any) o sz g) h
      | _ => False
    | .fp d => sz ≤ d.size ∧ K (sub d 0 sz g) h
    | .p (.pointer (some q)) => (q.spot = none ∧ g = true ∧ sz = 0) ∧ K (.agg []) h
    | _ => False
  | .store sz a x => match ev a with
    | .ptr b i o n => match h[b]? with
      | some (.cells bsz els) => n = els.length ∧ (0 < sz ∨ bsz = 0) ∧ o + sz ≤ bsz ∧ (ev x).size = sz ∧ (ev x).storable = true ∧ K .any (h.set b (.cells bsz (els.set i (put (els.getD i .any) o (ev x) sz))))
      | _ => False
    | _ => False
  | .nilchk k x => match isNilD h k (ev x) with
    | some false => K (ev x) h
    | _ => False
  | .faddr g o sz a => match ev a with
    | .ptr b i o' x => (match h[b]? with | some (.cells _ els) => x = els.length | _ => False) ∧ K (.ptr b i (o' + o) x) h
    | .fp d => o + sz ≤ d.size ∧ K (.fp (sub d o sz g)) h
    | _ => False
  | .iaddr sz x i => match ev x, ev i with
    | .sl b s n y, .p (.int _ j) => (match h[b]? with | some (.cells bsz els) => y = els.length ∧ bsz = sz | _ => False) ∧ 0 ≤ j ∧ j < n ∧ K (.ptr b (s + j.toNat) 0 y) h
    | .fz sz' l, .p (.int _ j) => sz' = sz ∧ 0 ≤ j ∧ j < l.length ∧ K (.fp (l.getD j.toNat .any)) h
    | .sa g z b i o n c x, .p (.int _ j) => (match h[b]? with | some (.cells _ els) => x = els.length ∧ z = sz | _ => False) ∧ 0 ≤ j ∧ j < n ∧ K (.ptr b i (o + j.toNat * z) x) h
    | _, _ => False
  | .iaddra n sz g x i => match ev x, ev i with
    | .ptr b s o y, .p (.int _ j) => (match h[b]? with | some (.cells _ els) => y = els.length | _ => False) ∧ 0 ≤ j ∧ j < n ∧ K (.ptr b s (o + j.toNat * sz) y) h
    | .fp d, .p (.int _ j) => d.size = n * sz ∧ 0 ≤ j ∧ j < n ∧ K (.fp (sub d (j.toNat * sz) sz g)) h
    | _, _ => False
  | .app sz bytes x y => match elemsOf h sz (ev y), ev x with
    | some ys, .p (.slice none 0 0) => ys.length * bytes ≤ 140737488355328 ∧ (ys = [] → K (.p (.slice none 0 0)) h) ∧ (ys ≠ [] → K (.sl h.length 0 ys.length ys.length) (h ++ [.cells sz ys]))
    | some ys, .sl b i n z => match h[b]? with
      | some (.cells bsz els) => z = els.length ∧ bsz = sz ∧ (n + ys.length) * bytes ≤ 140737488355328 ∧ i = 0 ∧ n ≤ els.length ∧
        (if n = els.length ∨ els.length < n + ys.length then K (.sl b 0 (n + ys.length) (n + ys.length)) (h.set b (.cells sz ((if n = els.length then els else els.take n) ++ ys)))
        else K (.sl b 0 (n + ys.length) els.length) (h.set b (.cells sz (els.take n ++ ys ++ els.drop (n + ys.length)))))
      | _ => False
    | _, _ => False
  | .appz y => match elemsOf h 1 (ev y) with
    | some ys => ys.length ≤ 140737488355328 ∧ (ys = [] → K (.p (.slice none 0 0)) h) ∧ (ys ≠ [] → K (.sl h.length 0 ys.length ys.length) (h ++ [.cells 1 ys]) ∨
        ∀ (cap : Nat) (z : Value), ys.length ≤ cap → cap ≤ maxLen → z.oneCell' = true → ys.all DV.one = true ∧ K (.sa false 1 h.length 0 0 ys.length cap 1) (h ++ [.cells cap [.agg (ys ++ List.replicate (cap - ys.length) (.p z))]]))
    | none => False
  | .lmk => K .any h
  | .lin => K .any h
  | .lpb ck ks xs => (kdist ck ks = true ∧ ks.length = xs.length) ∧ K (.fm ks (xs.map ev)) h
  | .ext x i => match ev x with
    | .tup vs => i < vs.length ∧ K (vs.getD i .any) h
    | _ => False
  | .ifc t x => K (.iface t (ev x)) h
  | .rngs x => match ev x with
    | .p (.string s) => K (.it h.length) (h ++ [.sit s 0])
    | _ => False
  | .nxts a => match ev a with
    | .it b => match h[b]? with
      | some (.sit s pos) => (pos < s.size → K (.tup [.p (.bool true), .p (.int .i64 pos), .p (.int .i32 (Utf8.decode s pos).1)]) (h.set b (.sit s (pos + (Utf8.decode s pos).2)))) ∧ (s.size ≤ pos → K (.tup [.p (.bool false)]) h)
      | _ => False
    | _ => False
  | .mkmap => K (.mp h.length) (h ++ [.map []])
  | .mkmapr x => match ev x with
    | .p (.int _ _) => K (.mp h.length) (h ++ [.map []])
    | _ => False
  | .pcall f args => ∃ v, (∀ h', HV h h' → Ok P G f (args.map ev) h' v h') ∧ K v h
  | .rngm x => match ev x with
    | .p (.map none) => K (.it h.length) (h ++ [.mit none ([], none)])
    | .mp b => match h[b]? with
      | some (.map es) => K (.it h.length) (h ++ [.mit (some b) (List.range es.length, none)])
      | _ => False
    | _ => False
  | .nxtm a => match ev a with
    | .it b => match h[b]? with
      | some (.mit none l) => K (.tup [.p (.bool false)]) h
      | some (.mit (some m) l) => match h[m]? with
        | some (.map es) => (l.1 = [] → K (.tup [.p (.bool false)]) h) ∧ ∀ j, j ∈ l.1 → (es.getD j default).1.oneCell' = true ∧ K (.tup [.p (.bool true), .p (es.getD j default).1, (es.getD j default).2]) (h.set b (.mit (some m) (l.1.erase j, some j)))
        | _ => False
      | _ => False
    | _ => False
  | .ent a => match ev a with
    | .it b => match h[b]? with
      | some (.mit (some m) (_, some j)) => match h[m]? with
        | some (.map es) => (es.getD j default).1.oneCell' = true ∧ K (.tup [.p (es.getD j default).1, (es.getD j default).2]) h
        | _ => False
      | _ => False
    | _ => False
  | .mupd ck m k x => match ev m, ev k with
    | .mp b, .p kv => match h[b]? with
      | some (.map es) => match mfind ck kv es 0 with
        | some r => noIter h b ∧ K .any (h.set b (.map (mput es kv (ev x) r)))
        | none => False
      | _ => False
    | _, _ => False
  | .look ck zero ok m k => match ev m, ev k with
    | .p (.map none), .p kv => K (mres ok zero false) h
    | .mp b, .p kv => match h[b]? with
      | some (.map es) => match mfind ck kv es 0 with
        | some (some i) => K (mres ok (es.getD i default).2 true) h
        | some none => K (mres ok zero false) h
        | none => False
      | _ => False
    | .fm ks ds, .p kv => kdist ck ks = true ∧ kdec ck kv ks = true ∧ (match mfind ck kv (ks.zip ds) 0 with
      | some (some i) => K (mres ok ((ks.zip ds).getD i default).2 true) h
      | some none => K (mres ok zero false) h
      | none => False)
    | _, _ => False
  | .mdel ck m k => match ev m, ev k with
    | .p (.map none), .p kv => K .any h
    | .mp b, .p kv => match h[b]? with
      | some (.map es) => match mfind ck kv es 0 with
        | some (some i) => noIter h b ∧ K .any (h.set b (.map (es.eraseIdx i)))
        | some none => K .any h
        | none => False
      | _ => False
    | _, _ => False
  | .call f args => ∃ v h', Ok P G f (args.map ev) h v h' ∧ K v h'
  | .stop => False
  | .capl x => match ev x with
    | .p (.slice none 0 0) => K (.p (.int .i64 0)) h
    | .sa _ _ _ _ _ _ c _ => K (.p (.int .i64 c)) h
    | _ => False
  | .mks g sz bytes zero n c => match ev n, ev c with
    | .p (.int _ l), .p (.int _ r) => 0 ≤ l ∧ l ≤ r ∧ r * bytes ≤ 140737488355328 ∧
      (K (.sl h.length 0 l.toNat l.toNat) (h ++ [.cells sz (List.replicate l.toNat zero)]) ∨
        ((g = true ∨ sz = 1) ∧ K (.sa g sz h.length 0 0 l.toNat r.toNat 1) (h ++ [.cells (r.toNat * sz) [.agg (List.replicate r.toNat zero.cells).flatten]])))
    | _, _ => False
  | .clr zero x => match ev x with
    | .sa false 1 b i o n _ z => match h[b]? with
      | some (.cells bsz els) => match els.getD i .any with
        | .agg l => z = els.length ∧ K .any (h.set b (.cells bsz (els.set i (.agg (l.take o ++ List.replicate n zero ++ l.drop (o + n))))))
        | _ => False
      | _ => False
    | _ => False
  | .cpy sz x y => match elemsOf h sz (ev y), ev x with
    | some _, .p (.slice none 0 0) => K (.p (.int .i64 0)) h
    | some ys, .sl b i n z => match h[b]? with
      | some (.cells bsz els) => z = els.length ∧ bsz = sz ∧ K (.p (.int .i64 (min ys.length n : Nat))) (h.set b (.cells bsz (els.take i ++ ys.take n ++ els.drop (i + min ys.length n))))
      | _ => False
    | some ys, .sa false 1 b i o n c z => match h[b]? with
      | some (.cells bsz els) => match els.getD i .any with
        | .agg l => z = els.length ∧ sz = 1 ∧ (ys.take n).all DV.one = true ∧ K (.p (.int .i64 (min ys.length n : Nat))) (h.set b (.cells bsz (els.set i (.agg (l.take o ++ ys.take n ++ l.drop (o + min ys.length n))))))
        | _ => False
      | _ => False
    | _, _ => False
  | .tas t zero ok x => match ev x with
    | .iface u v => if u = t then K (mres ok v true) h else ok = true ∧ K (mres ok zero false) h
    | .p .nilIface => ok = true ∧ K (mres ok zero false) h
    | _ => False
  | .tai u ok x => match ev x with
    | .iface t v => match hasM P u t with
      | some b => if b = true then K (mres ok (.iface t v) true) h else ok = true ∧ K (mres ok (.p .nilIface) false) h
      | none => False
    | .p .nilIface => ok = true ∧ K (mres ok (.p .nilIface) false) h
    | _ => False
  | .mkf f first cap => K (.fn f (first.map ev) (cap.map ev)) h
  | .callv rel x args => match ev x with
    | .fn (.func f) first cap => cFunc P f = true ∧ (if rel = true then ∃ R, OkR P G f (first ++ args.map ev ++ cap) h R ∧ ∀ v h', R v h' → K v h' else ∃ v h', Ok P G f (first ++ args.map ev ++ cap) h v h' ∧ K v h')
    | _ => False
  | .inv rel name x args => match ev x with
    | .iface t v => match methOf P t name with
      | some f => cFunc P f = true ∧ (if rel = true then ∃ R, OkR P G f (v :: args.map ev) h R ∧ ∀ v h', R v h' → K v h' else ∃ v1 h', Ok P G f (v :: args.map ev) h v1 h' ∧ K v1 h')
      | none => False
    | _ => False
  | .callr f args => ∃ R, OkR P G f (args.map ev) h R ∧ ∀ v h', R v h' → K v h'

structure DOper where
  dst : Option Nat
  op : DO
  guard : Option (Nat × Bool)
  deriving Inhabited

structure St where
  t : List DV
  h : List Blk

def St.put (s : St) (dst : Option Nat) (v : DV) (h : List Blk) : St :=
  match dst with
  | some d => ⟨s.t.set d v, h⟩
  | none => ⟨s.t, h⟩

/-- One after the other. -/
def vcL (P : Program) (G : Nat → DV) : List DOper → St → (St → Prop) → Prop
  | [], s, K => K s
  | o :: l, s, K =>
    match o.guard with
    | none => vcO P G o.op (Opd.ev G s.t) s.h fun v h => vcL P G l (s.put o.dst v h) K
    | some (g, want) =>
      match s.t.getD g .any with
      | .p (.bool b) => if b = want then vcO P G o.op (Opd.ev G s.t) s.h fun v h => vcL P G l (s.put o.dst v h) K else vcL P G l (s.put o.dst (.tup []) s.h) K
      | .tup [] => vcL P G l (s.put o.dst (.tup []) s.h) K
      | _ => False

/-- Operations that do something to the memory. -/
def DO.heavy : DO → Bool
  | .s2b .. | .s2bl .. | .lit .. | .alloc .. | .box .. | .boxn .. | .store .. | .app .. | .appz .. | .rngs .. | .nxts .. | .mkmap | .mkmapr .. | .rngm .. | .nxtm .. | .mupd .. | .mdel .. | .clr .. | .call .. | .callr .. | .stop | .mks .. | .cpy .. | .callv .. | .inv .. => true
  | _ => false
/-- Operations that do not look at the memory. -/
def DO.plain : DO → Bool
  | .mov .. | .pick .. | .bin .. | .eqb .. | .eqi .. | .eqs .. | .un .. | .cint .. | .cstr .. | .lens .. | .lenl .. | .mm .. | .slcs .. | .idxs .. | .idxa .. | .fld .. | .bld .. | .ext .. | .ifc .. | .litz .. | .capl .. | .tas .. | .tai .. | .mkf .. | .lmk | .lin | .lpb .. => true
  | .eqn _ .iface _ | .eqn _ .fn _ | .nilchk .iface _ | .nilchk .fn _ => true
  | _ => false
/-- What an operation looks at. -/
def DO.opds : DO → List Opd
  | .mov x => [x]
  | .pick c a b => [c, a, b]
  | .bin _ x y => [x, y]
  | .eqb _ x y => [x, y]
  | .eqn _ _ x => [x]
  | .eqi _ x y => [x, y]
  | .eqp _ x y => [x, y]
  | .eqs _ _ x y => [x, y]
  | .un _ x => [x]
  | .cint _ x => [x]
  | .cstr x => [x]
  | .b2s x => [x]
  | .s2b x => [x]
  | .s2bl x => [x]
  | .lens x => [x]
  | .lenl x => [x]
  | .lenm x => [x]
  | .mm _ x y => [x, y]
  | .slcs x lo hi => x :: (lo.toList ++ hi.toList)
  | .slcl _ x lo hi => x :: (lo.toList ++ hi.toList)
  | .slca _ _ _ x lo hi => x :: (lo.toList ++ hi.toList)
  | .idxs x i => [x, i]
  | .idxa _ _ _ x i => [x, i]
  | .fld _ _ _ x => [x]
  | .bld _ parts => parts.map (·.2.2)
  | .lit _ els => els
  | .litz _ els => els
  | .alloc _ _ => []
  | .box x => [x]
  | .boxn _ x => [x]
  | .load _ _ a => [a]
  | .store _ a x => [a, x]
  | .nilchk _ x => [x]
  | .faddr _ _ _ a => [a]
  | .iaddr _ x i => [x, i]
  | .iaddra _ _ _ x i => [x, i]
  | .app _ _ x y => [x, y]
  | .appz y => [y]
  | .lmk => []
  | .lin => []
  | .lpb _ _ xs => xs
  | .ext x _ => [x]
  | .ifc _ x => [x]
  | .rngs x => [x]
  | .nxts a => [a]
  | .mkmap => []
  | .mkmapr x => [x]
  | .pcall _ args => args
  | .rngm x => [x]
  | .nxtm a => [a]
  | .ent a => [a]
  | .mupd _ m k x => [m, k, x]
  | .look _ _ _ m k => [m, k]
  | .mdel _ m k => [m, k]
  | .clr _ x => [x]
  | .call _ args => args
  | .callr _ args => args
  | .stop => []
  | .capl x => [x]
  | .mks _ _ _ _ n c => [n, c]
  | .cpy _ x y => [x, y]
  | .tas _ _ _ x => [x]
  | .tai _ _ x => [x]
  | .mkf _ first cap => first ++ cap
  | .callv _ x args => x :: args
  | .inv _ _ x args => x :: args
/-- A literal slice that nobody writes. -/
def DO.frz : DO → DO
  | .lit sz els => .litz sz els
  | o => o
/-- A call that leaves the memory as it is, and looks at none. -/
def DO.pur : DO → DO
  | .call f args => .pcall f args
  | o => o
/-- A call of more than one outcome. -/
def nilSlC : Opd → Bool
  | .c (.p (.slice none 0 0)) => true
  | _ => false
def DO.rel : DO → DO
  | .app sz bytes x y => if sz = 1 ∧ bytes = 1 ∧ nilSlC x = true then .appz y else .app sz bytes x y
  | .call f args => .callr f args
  | .callv _ x args => .callv true x args
  | .inv _ n x args => .inv true n x args
  | o => o
/-- As rel; []byte(text) is a slice of its own. -/
def DO.relL : DO → DO
  | .s2b x => .s2bl x
  | o => o.rel
/-- One outcome only. -/
def DO.det : DO → Bool
  | .nxtm .. | .callr .. | .appz .. | .callv true _ _ | .inv true _ _ _ => false
  | _ => true

/-- An operation of a region that is drawn: how many of the operations that do something to the memory come ahead of it for certain; for a heavy one, as of which of the heaps others may look at the memory behind or ahead of it. -/
structure DDOp where
  o : DOper
  a : Nat
  fr : List Nat
  deriving Inhabited

def putL (t : List DV) (dst : Option Nat) (v : DV) : List DV :=
  match dst with
  | some d => t.set d v
  | none => t

/-- One operation of a region that is drawn: what looks at the memory, looks at what it is for certain. -/
def stepD (P : Program) (G : Nat → DV) (d : DDOp) (t : List DV) (Hs : List (List Blk)) (h : List Blk) (K : DV → List (List Blk) → List Blk → Prop) : Prop :=
  if d.o.op.heavy = true then vcO P G d.o.op (Opd.ev G t) h (fun v h' => (∀ m, m ∈ d.fr → HV (Hs.getD m []) h') ∧ K v (Hs ++ [h']) h')
  else vcO P G d.o.op (Opd.ev G t) (Hs.getD d.a []) (fun v _ => K v Hs h)

/-- A region that is drawn, in the text's order. -/
def vcD (P : Program) (G : Nat → DV) : List DDOp → List DV → List (List Blk) → List Blk → (List DV → List Blk → Prop) → Prop
  | [], t, _, h, K => K t h
  | d :: l, t, Hs, h, K =>
    match d.o.guard with
    | none => stepD P G d t Hs h fun v Hs' h' => vcD P G l (putL t d.o.dst v) Hs' h' K
    | some (g, want) => match t.getD g .any with
      | .p (.bool b) => if b = want then stepD P G d t Hs h fun v Hs' h' => vcD P G l (putL t d.o.dst v) Hs' h' K
        else vcD P G l (putL t d.o.dst (.tup [])) (if d.o.op.heavy = true then Hs ++ [h] else Hs) h K
      | .tup [] => vcD P G l (putL t d.o.dst (.tup [])) (if d.o.op.heavy = true then Hs ++ [h] else Hs) h K
      | _ => False

inductive DC where
  | skip
  | rg (ops : List DOper)
  | rgd (ops : List DDOp)
  | rgv (ops : List DDOp)
  | rgm (nb : Nat) (al : Option Nat) (ops : List DDOp)
  | seq (a b : DC)
  | cond (c : Opd) (a b : DC)
  | block (id : Nat) (a : DC)
  | loop (a : DC)
  | exit (id : Nat)
  | ret
  deriving Inhabited

inductive DX where
  | nrm
  | ext (id : Nat)
  | ret
  deriving DecidableEq

structure RelS (G : Nat → DV) (D : List Deferred) (e : Env) (s : St) (a : Act) (w : World) : Prop where
  h : e.h = s.h
  H : e.H = w.heap
  hr : HR e
  gr : GR e G
  tr : TR e s.t a.tmps
  df : a.defers = D

def HWF (h : List Blk) : Prop := ∀ (b : Nat) (k : Blk), h[b]? = some k → k.wf (· < h.length)

/-- Whatever fits the one state fits the other one, the first blocks as they are. -/
def Wk (G : Nat → DV) (h0 : List Blk) (s s' : St) : Prop := HWF h0 → ∀ D e a w, RelS G D e s a w → h0.length ≤ e.h.length → ∃ e', RelS G D e' s' a w ∧ Ev h0.length e e'

def vc (P : Program) (G : Nat → DV) (n : List Blk) : DC → St → (DX → St → Prop) → Prop
  | .skip, s, Q => Q .nrm s
  | .rg ops, s, Q => vcL P G ops s (Q .nrm)
  | .rgd ops, s, Q => vcD P G ops s.t [s.h] s.h fun t h => Q .nrm ⟨t, h⟩
  | .rgm nb al ops, s, Q => nb ≤ s.t.length ∧ vcD P G ops (putL s.t al .any) [s.h] s.h fun t h => Q .nrm ⟨t, h⟩
  | .rgv ops, s, Q => ∃ hv, HV hv s.h ∧ vcD P G ops s.t [hv] s.h fun t h => Q .nrm ⟨t, h⟩
  | .seq a b, s, Q => vc P G n a s fun x s' => match x with | .nrm => vc P G n b s' Q | x => Q x s'
  | .cond c a b, s, Q => match c.ev G s.t with
    | .p (.bool t) => if t = true then vc P G n a s Q else vc P G n b s Q
    | _ => False
  | .block id a, s, Q => vc P G n a s fun x s' => match x with | .ext i => if i = id then Q .nrm s' else Q (.ext i) s' | x => Q x s'
  | .loop a, s, Q => ∃ (I : St → Prop) (μ : St → Nat), (∃ s', Wk G n s s' ∧ I s') ∧ ∀ s, I s → vc P G n a s fun x s1 => match x with | .nrm => ∃ s2, Wk G n s1 s2 ∧ I s2 ∧ μ s2 < μ s | .ext i => ∃ s2, Wk G n s1 s2 ∧ Q (.ext i) s2 | .ret => Q .ret s1
  | .exit id, s, Q => Q (.ext id) s
  | .ret, s, Q => Q .ret s

end Go.Den

namespace Go.Den
open Go

theorem HPre.refl (h : List Blk) : HPre h h := fun _ _ x => x
theorem HPre.trans {a b c : List Blk} (h : HPre a b) (h' : HPre b c) : HPre a c := fun x k hx => h' x k (h x k hx)
theorem HPre.append (h x : List Blk) : HPre h (h ++ x) := fun b k hb => by
  have : b < h.length := by
    rcases Nat.lt_or_ge b h.length with h1 | h1
    · exact h1
    · rw [List.getElem?_eq_none h1] at hb; cases hb
  rw [List.getElem?_append_left this]; exact hb

section
variable {P : Program} {G : Nat → DV} {h : List Blk} {ev ev' : Opd → DV} {K : DV → List Blk → Prop}

theorem binK_mono {o : BinOp} {x y : Value} {K K' : Value → Prop} (hK : ∀ v, K v → K' v) : binK o x y K → binK o x y K' := by
  intro h
  unfold binK at h ⊢
  repeat' split at h
  all_goals (first | exact hK _ h | exact ⟨h.1, hK _ h.2⟩ | exact ⟨h.1, h.2.1, hK _ h.2.2⟩ | exact h.elim)
theorem unK_mono {o : UnOp} {x : Value} {K K' : Value → Prop} (hK : ∀ v, K v → K' v) : unK o x K → unK o x K' := by
  intro h
  unfold unK at h ⊢
  split at h
  all_goals (first | exact hK _ h | exact h.elim)
theorem vcO_mono {o : DO} {K' : DV → List Blk → Prop} (hK : ∀ v h, K v h → K' v h) : vcO P G o ev h K → vcO P G o ev h K' := by
  intro H
  cases o
  case bin => 
    simp only [vcO] at H ⊢
    split at H
    · exact binK_mono (fun v hv => hK _ _ hv) H
    · exact H.elim
  case un => 
    simp only [vcO] at H ⊢
    split at H
    · exact unK_mono (fun v hv => hK _ _ hv) H
    · exact H.elim
  case call => 
    obtain ⟨v, h', h1, h2⟩ := H
    exact ⟨v, h', h1, hK _ _ h2⟩
  case stop => exact H.elim
  case pcall =>
    obtain ⟨v, h1, h2⟩ := H
    exact ⟨v, h1, hK _ _ h2⟩
  case callr =>
    obtain ⟨R, h1, h2⟩ := H
    exact ⟨R, h1, fun v h' hr => hK _ _ (h2 v h' hr)⟩
  case callv rel x args =>
    simp only [vcO] at H ⊢
    split at H
    · refine ⟨H.1, ?_⟩
      cases rel
      · obtain ⟨v, h', h1, h2⟩ := H.2
        exact ⟨v, h', h1, hK _ _ h2⟩
      · obtain ⟨R, h1, h2⟩ := H.2
        exact ⟨R, h1, fun v h' hr => hK _ _ (h2 v h' hr)⟩
    · exact H.elim
  case inv rel n x args =>
    simp only [vcO] at H ⊢
    split at H
    · split at H
      · refine ⟨H.1, ?_⟩
        cases rel
        · obtain ⟨v, h', h1, h2⟩ := H.2
          exact ⟨v, h', h1, hK _ _ h2⟩
        · obtain ⟨R, h1, h2⟩ := H.2
          exact ⟨R, h1, fun v h' hr => hK _ _ (h2 v h' hr)⟩
      · exact H.elim
    · exact H.elim
  case mks =>
    simp only [vcO] at H ⊢
    split at H
    · exact ⟨H.1, H.2.1, H.2.2.1, H.2.2.2.imp (hK _ _) fun h => ⟨h.1, hK _ _ h.2⟩⟩
    · exact H.elim
  case tas t z ok x =>
    simp only [vcO] at H ⊢
    split at H
    · rename_i u v _
      by_cases hc : u = t
      · rw [if_pos hc] at H ⊢; exact hK _ _ H
      · rw [if_neg hc] at H ⊢; exact ⟨H.1, hK _ _ H.2⟩
    · exact ⟨H.1, hK _ _ H.2⟩
    · exact H.elim
  case tai u ok x =>
    simp only [vcO] at H ⊢
    split at H
    · split at H
      · rename_i b _
        by_cases hc : b = true
        · rw [if_pos hc] at H ⊢; exact hK _ _ H
        · rw [if_neg hc] at H ⊢; exact ⟨H.1, hK _ _ H.2⟩
      · exact H.elim
    · exact ⟨H.1, hK _ _ H.2⟩
    · exact H.elim
  case nxts =>
    simp only [vcO] at H ⊢
    repeat' split at H
    all_goals first | exact H.elim | exact ⟨fun h => hK _ _ (H.1 h), fun h => hK _ _ (H.2 h)⟩
  case nxtm =>
    simp only [vcO] at H ⊢
    repeat' split at H
    all_goals first | exact H.elim | exact hK _ _ H | exact ⟨fun h => hK _ _ (H.1 h), fun j h => ⟨(H.2 j h).1, hK _ _ (H.2 j h).2⟩⟩
  case appz =>
    simp only [vcO] at H ⊢
    split at H
    · exact ⟨H.1, fun h => hK _ _ (H.2.1 h), fun h => (H.2.2 h).imp (hK _ _) fun g cap z h1 h2 h3 => ⟨(g cap z h1 h2 h3).1, hK _ _ (g cap z h1 h2 h3).2⟩⟩
    · exact H.elim
  case app =>
    simp only [vcO] at H ⊢
    split at H
    · exact ⟨H.1, fun h => hK _ _ (H.2.1 h), fun h => hK _ _ (H.2.2 h)⟩
    · split at H
      · refine ⟨H.1, H.2.1, H.2.2.1, H.2.2.2.1, H.2.2.2.2.1, ?_⟩
        have H := H.2.2.2.2.2
        split at H
        · rename_i hc; rw [if_pos hc]; exact hK _ _ H
        · rename_i hc; rw [if_neg hc]; exact hK _ _ H
      · exact H.elim
    · exact H.elim
  case pick =>
    simp only [vcO] at H ⊢
    split at H
    · rename_i t _
      by_cases hc : t = true
      · rw [if_pos hc] at H ⊢
        exact hK _ _ H
      · rw [if_neg hc] at H ⊢
        exact hK _ _ H
    · exact H.elim
  case mm =>
    simp only [vcO] at H ⊢
    split at H
    · exact hK _ _ H
    · exact H.elim
  case eqi =>
    simp only [vcO] at H ⊢
    split at H
    · rename_i t _ u _ _ _
      by_cases hc : t = u
      · rw [if_pos hc] at H ⊢
        repeat' split at H
        all_goals (first | exact hK _ _ H | exact H.elim)
      · rw [if_neg hc] at H ⊢
        exact hK _ _ H
    all_goals (first | exact hK _ _ H | exact H.elim)
  all_goals
    simp only [vcO] at H ⊢
    repeat' split at H
    all_goals (first | exact hK _ _ H | exact H.elim | exact ⟨H.1, hK _ _ H.2⟩ | exact ⟨H.1, H.2.1, hK _ _ H.2.2⟩ | exact ⟨H.1, H.2.1, H.2.2.1, hK _ _ H.2.2.2⟩ | exact ⟨H.1, H.2.1, H.2.2.1, H.2.2.2.1, hK _ _ H.2.2.2.2⟩ | exact ⟨H.1, H.2.1, H.2.2.1, H.2.2.2.1, H.2.2.2.2.1, hK _ _ H.2.2.2.2.2⟩ | exact H.2.2.elim)

theorem vcO_det {o : DO} (hdet : o.det = true) : vcO P G o ev h K → ∃ v h', vcO P G o ev h (fun v1 h1 => v1 = v ∧ h1 = h') ∧ K v h' := by
  intro H
  cases o
  case bin op x y =>
    simp only [vcO] at H ⊢
    split at H
    · rename_i a b _ _
      unfold binK at H ⊢
      repeat' split at H
      all_goals (first | exact H.elim | exact ⟨_, _, ⟨rfl, rfl⟩, H⟩ | exact ⟨_, _, ⟨H.1, rfl, rfl⟩, H.2⟩ | exact ⟨_, _, ⟨H.1, H.2.1, rfl, rfl⟩, H.2.2⟩)
    · exact H.elim
  case un =>
    simp only [vcO] at H ⊢
    split at H
    · unfold unK at H ⊢
      split at H
      all_goals (first | exact H.elim | exact ⟨_, _, ⟨rfl, rfl⟩, H⟩)
    · exact H.elim
  case call =>
    obtain ⟨v, h', h1, h2⟩ := H
    exact ⟨v, h', ⟨v, h', h1, rfl, rfl⟩, h2⟩
  case pcall =>
    obtain ⟨v, h1, h2⟩ := H
    exact ⟨v, _, ⟨v, h1, rfl, rfl⟩, h2⟩
  case nxtm => cases hdet
  case callr => cases hdet
  case appz => cases hdet
  case stop => exact H.elim
  case callv rel x args =>
    cases rel with
    | true => cases hdet
    | false =>
    simp only [vcO, Bool.false_eq_true, if_false] at H ⊢
    split at H
    · obtain ⟨h0, v, h', h1, h2⟩ := H
      exact ⟨v, h', ⟨h0, v, h', h1, rfl, rfl⟩, h2⟩
    · exact H.elim
  case inv rel n x args =>
    cases rel with
    | true => cases hdet
    | false =>
    simp only [vcO, Bool.false_eq_true, if_false] at H ⊢
    split at H
    · split at H
      · obtain ⟨h0, v, h', h1, h2⟩ := H
        exact ⟨v, h', ⟨h0, v, h', h1, rfl, rfl⟩, h2⟩
      · exact H.elim
    · exact H.elim
  case mks =>
    simp only [vcO] at H ⊢
    split at H
    · rcases H.2.2.2 with h | h
      · exact ⟨_, _, ⟨H.1, H.2.1, H.2.2.1, .inl ⟨rfl, rfl⟩⟩, h⟩
      · exact ⟨_, _, ⟨H.1, H.2.1, H.2.2.1, .inr ⟨h.1, rfl, rfl⟩⟩, h.2⟩
    · exact H.elim
  case tas t z ok x =>
    simp only [vcO] at H ⊢
    split at H
    · rename_i u v _
      by_cases hc : u = t
      · simp only [if_pos hc] at H ⊢; exact ⟨_, _, ⟨rfl, rfl⟩, H⟩
      · simp only [if_neg hc] at H ⊢; exact ⟨_, _, ⟨H.1, rfl, rfl⟩, H.2⟩
    · exact ⟨_, _, ⟨H.1, rfl, rfl⟩, H.2⟩
    · exact H.elim
  case tai u ok x =>
    simp only [vcO] at H ⊢
    split at H
    · split at H
      · rename_i b _
        by_cases hc : b = true
        · simp only [if_pos hc] at H ⊢; exact ⟨_, _, ⟨rfl, rfl⟩, H⟩
        · simp only [if_neg hc] at H ⊢; exact ⟨_, _, ⟨H.1, rfl, rfl⟩, H.2⟩
      · exact H.elim
    · exact ⟨_, _, ⟨H.1, rfl, rfl⟩, H.2⟩
    · exact H.elim
  case nxts =>
    simp only [vcO] at H ⊢
    repeat' split at H
    all_goals try exact H.elim
    rename_i s pos _
    by_cases hp : pos < s.size
    · exact ⟨_, _, ⟨fun _ => ⟨rfl, rfl⟩, fun h => absurd hp (by omega)⟩, H.1 hp⟩
    · exact ⟨_, _, ⟨fun h => (hp h).elim, fun _ => ⟨rfl, rfl⟩⟩, H.2 (by omega)⟩
  case app =>
    simp only [vcO] at H ⊢
    split at H
    · rename_i ys _ _
      by_cases hy : ys = []
      · exact ⟨_, _, ⟨H.1, fun _ => ⟨rfl, rfl⟩, fun h => (h hy).elim⟩, H.2.1 hy⟩
      · exact ⟨_, _, ⟨H.1, fun h => (hy h).elim, fun _ => ⟨rfl, rfl⟩⟩, H.2.2 hy⟩
    · split at H
      · obtain ⟨g1, g2, g3, g4, g5, H⟩ := H
        split at H
        · rename_i hc; exact ⟨_, _, ⟨g1, g2, g3, g4, g5, by rw [if_pos hc]; exact ⟨rfl, rfl⟩⟩, H⟩
        · rename_i hc; exact ⟨_, _, ⟨g1, g2, g3, g4, g5, by rw [if_neg hc]; exact ⟨rfl, rfl⟩⟩, H⟩
      · exact H.elim
    · exact H.elim
  case pick =>
    simp only [vcO] at H ⊢
    split at H
    · rename_i t _
      by_cases hc : t = true
      · simp only [if_pos hc] at H ⊢
        exact ⟨_, _, ⟨rfl, rfl⟩, H⟩
      · simp only [if_neg hc] at H ⊢
        exact ⟨_, _, ⟨rfl, rfl⟩, H⟩
    · exact H.elim
  case mm =>
    simp only [vcO] at H ⊢
    split at H
    · exact ⟨_, _, ⟨rfl, rfl⟩, H⟩
    · exact H.elim
  case eqi =>
    simp only [vcO] at H ⊢
    split at H
    · rename_i t _ u _ _ _
      by_cases hc : t = u
      · simp only [if_pos hc] at H ⊢
        repeat' split at H
        all_goals (first | exact H.elim | exact ⟨_, _, ⟨rfl, rfl⟩, H⟩)
      · simp only [if_neg hc] at H ⊢
        exact ⟨_, _, ⟨rfl, rfl⟩, H⟩
    all_goals (first | exact H.elim | exact ⟨_, _, ⟨rfl, rfl⟩, H⟩)
  all_goals
    simp only [vcO] at H ⊢
    repeat' split at H
    all_goals (first | exact H.elim | exact ⟨_, _, ⟨rfl, rfl⟩, H⟩ | exact ⟨_, _, ⟨H.1, rfl, rfl⟩, H.2⟩ | exact ⟨_, _, ⟨H.1, H.2.1, rfl, rfl⟩, H.2.2⟩ | exact ⟨_, _, ⟨H.1, H.2.1, H.2.2.1, rfl, rfl⟩, H.2.2.2⟩ | exact ⟨_, _, ⟨H.1, H.2.1, H.2.2.1, H.2.2.2.1, rfl, rfl⟩, H.2.2.2.2⟩ | exact ⟨_, _, ⟨H.1, H.2.1, H.2.2.1, H.2.2.2.1, H.2.2.2.2.1, rfl, rfl⟩, H.2.2.2.2.2⟩ | exact H.2.2.elim)

theorem vcO_ev {o : DO} (he : ∀ x ∈ o.opds, ev x = ev' x) : vcO P G o ev h K → vcO P G o ev' h K := by
  intro H
  cases o
  case slcs x lo hi =>
    simp only [vcO] at H ⊢
    have hx := he x (by simp [DO.opds])
    have hl : lo.elim (DV.p (.int .i64 0)) ev = lo.elim (DV.p (.int .i64 0)) ev' := by
      cases lo with
      | none => rfl
      | some y => exact he y (by simp [DO.opds])
    rw [hx, hl] at H
    cases hi with
    | none => exact H
    | some y => simpa only [Option.elim, he y (by simp [DO.opds])] using H
  case slca m z g x lo hi =>
    simp only [vcO] at H ⊢
    have hx := he x (by simp [DO.opds])
    have hl : lo.elim (DV.p (.int .i64 0)) ev = lo.elim (DV.p (.int .i64 0)) ev' := by
      cases lo with
      | none => rfl
      | some y => exact he y (by simp [DO.opds])
    rw [hx, hl] at H
    cases hi with
    | none => exact H
    | some y => simpa only [Option.elim, he y (by simp [DO.opds])] using H
  case slcl sz x lo hi =>
    simp only [vcO] at H ⊢
    have hx := he x (by simp [DO.opds])
    have hl : lo.elim (DV.p (.int .i64 0)) ev = lo.elim (DV.p (.int .i64 0)) ev' := by
      cases lo with
      | none => rfl
      | some y => exact he y (by simp [DO.opds])
    rw [hx, hl] at H
    cases hi with
    | none => exact H
    | some y => simpa only [Option.elim, he y (by simp [DO.opds])] using H
  case bld zero parts =>
    simp only [vcO] at H ⊢
    have : ∀ (l : List (Nat × Nat × Opd)) (acc : Option (List DV)), (∀ x ∈ l.map (·.2.2), ev x = ev' x) →
        l.foldl (fun (acc : Option (List DV)) p => acc.bind fun cs => if (ev p.2.2).size = p.2.1 ∧ (ev p.2.2).storable = true ∧ p.1 + p.2.1 ≤ cs.length then some (cs.take p.1 ++ (ev p.2.2).cells ++ cs.drop (p.1 + p.2.1)) else none) acc =
        l.foldl (fun (acc : Option (List DV)) p => acc.bind fun cs => if (ev' p.2.2).size = p.2.1 ∧ (ev' p.2.2).storable = true ∧ p.1 + p.2.1 ≤ cs.length then some (cs.take p.1 ++ (ev' p.2.2).cells ++ cs.drop (p.1 + p.2.1)) else none) acc := by
      intro l
      induction l with
      | nil => intro acc _; rfl
      | cons p l ih =>
        intro acc hl
        simp only [List.foldl_cons]
        rw [hl p.2.2 (by simp), ih _ (fun x hx => hl x (by simp at hx ⊢; exact .inr hx))]
    rw [← this parts _ he]
    exact H
  case lit sz els =>
    simp only [vcO] at H ⊢
    refine ⟨fun x hx => by rw [← he x hx]; exact H.1 x hx, ?_⟩
    rw [← List.map_congr_left (l := els) (f := ev) (g := ev') he]
    exact H.2
  case litz sz els =>
    simp only [vcO] at H ⊢
    refine ⟨fun x hx => by rw [← he x hx]; exact H.1 x hx, ?_⟩
    rw [← List.map_congr_left (l := els) (f := ev) (g := ev') he]
    exact H.2
  case lpb ck ks xs =>
    simp only [vcO] at H ⊢
    rw [← List.map_congr_left (l := xs) (f := ev) (g := ev') he]
    exact H
  case stop => exact H.elim
  case mkf f first cap =>
    simp only [vcO] at H ⊢
    rw [← List.map_congr_left (l := first) (f := ev) (g := ev') fun x hx => he x (by simp [DO.opds, hx]), ← List.map_congr_left (l := cap) (f := ev) (g := ev') fun x hx => he x (by simp [DO.opds, hx])]
    exact H
  case callv rel x args =>
    simp only [vcO] at H ⊢
    rw [← List.map_congr_left (l := args) (f := ev) (g := ev') fun x hx => he x (by simp [DO.opds, hx]), ← he x (by simp [DO.opds])]
    exact H
  case inv rel n x args =>
    simp only [vcO] at H ⊢
    rw [← List.map_congr_left (l := args) (f := ev) (g := ev') fun x hx => he x (by simp [DO.opds, hx]), ← he x (by simp [DO.opds])]
    exact H
  case callr f args =>
    simp only [vcO] at H ⊢
    rw [← List.map_congr_left (l := args) (f := ev) (g := ev') he]
    exact H
  case pcall f args =>
    simp only [vcO] at H ⊢
    rw [← List.map_congr_left (l := args) (f := ev) (g := ev') he]
    exact H
  case call f args =>
    simp only [vcO] at H ⊢
    rw [← List.map_congr_left (l := args) (f := ev) (g := ev') he]
    exact H
  all_goals
    simp only [DO.opds, List.mem_cons, List.not_mem_nil, or_false, forall_eq_or_imp, forall_eq, List.mem_nil_iff] at he
    simp only [vcO, he] at H ⊢
    exact H

theorem isNilD_iface {h h' : List Blk} {d : DV} : isNilD h .iface d = isNilD h' .iface d := by
  cases d <;> first | rfl | (rename_i v; cases v <;> rfl)
theorem isNilD_fn {h h' : List Blk} {d : DV} : isNilD h .fn d = isNilD h' .fn d := by
  cases d <;> first | rfl | (rename_i v; cases v <;> rfl)

/-- What looks at no memory. -/
theorem vcO_plain {o : DO} (hp : o.plain = true) {h' : List Blk} {K' : DV → List Blk → Prop} (hK : ∀ v, K v h → K' v h') : vcO P G o ev h K → vcO P G o ev h' K' := by
  intro H
  cases o
  case bin op x y =>
    simp only [vcO] at H ⊢
    split at H
    · exact binK_mono (fun v hv => hK _ hv) H
    · exact H.elim
  case un =>
    simp only [vcO] at H ⊢
    split at H
    · exact unK_mono (fun v hv => hK _ hv) H
    · exact H.elim
  case pick =>
    simp only [vcO] at H ⊢
    split at H
    · rename_i t _
      by_cases hc : t = true
      · rw [if_pos hc] at H ⊢
        exact hK _ H
      · rw [if_neg hc] at H ⊢
        exact hK _ H
    · exact H.elim
  case mm =>
    simp only [vcO] at H ⊢
    split at H
    · exact hK _ H
    · exact H.elim
  case eqi =>
    simp only [vcO] at H ⊢
    split at H
    · rename_i t _ u _ _ _
      by_cases hc : t = u
      · rw [if_pos hc] at H ⊢
        repeat' split at H
        all_goals (first | exact hK _ H | exact H.elim)
      · rw [if_neg hc] at H ⊢
        exact hK _ H
    all_goals (first | exact hK _ H | exact H.elim)
  case tas t z ok x =>
    simp only [vcO] at H ⊢
    split at H
    · rename_i u v _
      by_cases hc : u = t
      · rw [if_pos hc] at H ⊢; exact hK _ H
      · rw [if_neg hc] at H ⊢; exact ⟨H.1, hK _ H.2⟩
    · exact ⟨H.1, hK _ H.2⟩
    · exact H.elim
  case tai u ok x =>
    simp only [vcO] at H ⊢
    split at H
    · split at H
      · rename_i b _
        by_cases hc : b = true
        · rw [if_pos hc] at H ⊢; exact hK _ H
        · rw [if_neg hc] at H ⊢; exact ⟨H.1, hK _ H.2⟩
      · exact H.elim
    · exact ⟨H.1, hK _ H.2⟩
    · exact H.elim
  case eqn neg k x =>
    have hd : isNilD h k (ev x) = isNilD h' k (ev x) := by
      cases k <;> first | exact isNilD_iface | exact isNilD_fn | exact absurd hp (by simp [DO.plain])
    simp only [vcO, hd] at H ⊢
    split at H
    · exact hK _ H
    · exact H.elim
  case nilchk k x =>
    have hd : isNilD h k (ev x) = isNilD h' k (ev x) := by
      cases k <;> first | exact isNilD_iface | exact isNilD_fn | exact absurd hp (by simp [DO.plain])
    simp only [vcO, hd] at H ⊢
    split at H
    · exact hK _ H
    · exact H.elim
  case b2s | s2b | s2bl | eqp | pcall | lenm | slcl | slca | lit | alloc | box | boxn | load | store | faddr | iaddr | iaddra | app | appz | call | callr | stop | rngs | nxts | mkmap | mkmapr | rngm | nxtm | ent | mupd | look | mdel | clr | mks | cpy | callv | inv => exact absurd hp (by simp [DO.plain])
  all_goals
    simp only [vcO] at H ⊢
    repeat' split at H
    all_goals (first | exact hK _ H | exact H.elim | exact ⟨H.1, hK _ H.2⟩ | exact ⟨H.1, H.2.1, hK _ H.2.2⟩ | exact ⟨H.1, H.2.1, H.2.2.1, hK _ H.2.2.2⟩)

theorem HPre.toV {h h' : List Blk} (hp : HPre h h') : HV h h' := fun b k hb => .inl (hp b k hb)
theorem HV.refl (h : List Blk) : HV h h := fun _ _ x => .inl x
theorem HV.trans {a b c : List Blk} (h : HV a b) (h' : HV b c) : HV a c := fun x k hx => by
  rcases h x k hx with e | e
  · exact h' x k e
  · exact .inr e
theorem isNilD_ext {h h' : List Blk} (hx : HV h h') {k : NK} {d : DV} {b : Bool} (hb : isNilD h k d = some b) : isNilD h' k d = some b := by
  unfold isNilD at hb ⊢
  split at hb
  case h_2 =>
    rename_i b1 _ _ x
    cases hq : h[b1]? with
    | none => rw [hq] at hb; cases hb
    | some q => rw [hq] at hb; rcases hx _ _ hq with e | rfl; (rw [e]; exact hb); cases hb
  case h_5 =>
    rename_i b1 _ n x
    cases hq : h[b1]? with
    | none => rw [hq] at hb; cases hb
    | some q => rw [hq] at hb; rcases hx _ _ hq with e | rfl; (rw [e]; exact hb); cases hb
  case h_6 =>
    rename_i b1 _ _ _ _ x
    cases hq : h[b1]? with
    | none => rw [hq] at hb; cases hb
    | some q => rw [hq] at hb; rcases hx _ _ hq with e | rfl; (rw [e]; exact hb); cases hb
  case h_9 =>
    rename_i b1
    cases hq : h[b1]? with
    | none => rw [hq] at hb; cases hb
    | some q => rw [hq] at hb; rcases hx _ _ hq with e | rfl; (rw [e]; exact hb); cases hb
  all_goals exact hb

theorem sliceOf_ext {h h' : List Blk} (hx : HV h h') {sz : Nat} {d : DV} {l : List DV} (hb : sliceOf h sz d = some l) : sliceOf h' sz d = some l := by
  cases d
  case sa g z b1 i o n c x =>
    simp only [sliceOf, elemsOf] at hb ⊢
    cases hq : h[b1]? with
    | none => rw [hq] at hb; cases hb
    | some q => rw [hq] at hb; rcases hx _ _ hq with e | rfl; (rw [e]; exact hb); cases hb
  case sl b1 i n x =>
    simp only [sliceOf, elemsOf] at hb ⊢
    cases hq : h[b1]? with
    | none => rw [hq] at hb; cases hb
    | some q => rw [hq] at hb; rcases hx _ _ hq with e | rfl; (rw [e]; exact hb); cases hb
  case p v =>
    cases v
    case slice a n c =>
      cases a <;> cases n <;> cases c <;> exact hb
    all_goals exact hb
  all_goals exact hb

/-- What only looks at the memory sees the same where there is more of it. -/
theorem vcO_ext {o : DO} (hp : o.heavy = false) {h' : List Blk} (hx : HV h h') {K' : DV → List Blk → Prop} (hK : ∀ v, K v h → K' v h') : vcO P G o ev h K → vcO P G o ev h' K' := by
  by_cases hpl : o.plain = true
  · exact vcO_plain hpl hK
  intro H
  cases o
  case eqp neg x y =>
    simp only [vcO] at H ⊢
    split at H
    · rename_i b _ _ _ b' _ _ _ _ _
      cases hq : h[b]? with
      | none => rw [hq] at H; exact H.elim
      | some q =>
        rw [hq] at H
        cases q with
        | cells s1 l1 =>
          simp only at H
          cases hq' : h[b']? with
          | none => rw [hq'] at H; exact H.elim
          | some q' =>
            rw [hq'] at H
            cases q' with
            | cells s2 l2 =>
              simp only at H
              rcases hx _ _ hq with e | e
              · rcases hx _ _ hq' with e' | e'
                · simp only [e, e']; exact ⟨H.1, hK _ H.2⟩
                · cases e'
              · cases e
            | _ => exact H.elim
        | _ => exact H.elim
    · exact H.elim
  case eqn neg k x =>
    simp only [vcO] at H ⊢
    cases hq : isNilD h k (ev x) with
    | none => rw [hq] at H; exact H.elim
    | some b => rw [hq] at H; rw [isNilD_ext hx hq]; exact hK _ H
  case nilchk k x =>
    simp only [vcO] at H ⊢
    cases hq : isNilD h k (ev x) with
    | none => rw [hq] at H; exact H.elim
    | some b => rw [hq] at H; rw [isNilD_ext hx hq]; cases b <;> first | exact H.elim | exact hK _ H
  case b2s x =>
    simp only [vcO] at H ⊢
    cases hq : sliceOf h 1 (ev x) with
    | none => rw [hq] at H; exact H.elim
    | some b => rw [hq] at H; rw [sliceOf_ext hx hq]; exact ⟨H.1, hK _ H.2⟩
  case pcall =>
    obtain ⟨v, h1, h2⟩ := H
    exact ⟨v, fun h2 hx2 => h1 h2 (hx.trans hx2), hK _ h2⟩
  case lenm x =>
    simp only [vcO] at H ⊢
    split at H
    · exact hK _ H
    · rename_i b _
      cases hq : h[b]? with
      | none => rw [hq] at H; exact H.elim
      | some q => rw [hq] at H; rcases hx _ _ hq with e | rfl; (rw [e]; cases q <;> first | exact hK _ H | exact H.elim); (first | exact H.elim | exact H.1.elim)
    · exact H.elim
  case slcl sz x lo hi =>
    simp only [vcO] at H ⊢
    split at H
    · split at H
      · exact ⟨H.1, H.2.1, H.2.2.1, H.2.2.2.1, hK _ H.2.2.2.2⟩
      · exact H.elim
    · rename_i b _ _ _ _
      split at H
      · cases hq : h[b]? with
        | none => rw [hq] at H; exact H.1.elim
        | some q => rw [hq] at H; rcases hx _ _ hq with e | rfl; (rw [e]; exact ⟨H.1, H.2.1, H.2.2.1, H.2.2.2.1, hK _ H.2.2.2.2⟩); (first | exact H.elim | exact H.1.elim)
      · exact H.elim
    · split at H
      · exact ⟨H.1, H.2.1, hK _ H.2.2⟩
      · exact H.elim
    · rename_i g z b _ _ _ _ _ _
      split at H
      · cases hq : h[b]? with
        | none => rw [hq] at H; exact H.1.elim
        | some q => rw [hq] at H; rcases hx _ _ hq with e | rfl; (rw [e]; exact ⟨H.1, H.2.1, H.2.2.1, H.2.2.2.1, hK _ H.2.2.2.2⟩); (first | exact H.elim | exact H.1.elim)
      · exact H.elim
    · exact H.elim
  case slca m z g x lo hi =>
    simp only [vcO] at H ⊢
    split at H
    · rename_i b _ _ _ _
      split at H
      · cases hq : h[b]? with
        | none => rw [hq] at H; exact H.1.elim
        | some q => rw [hq] at H; rcases hx _ _ hq with e | rfl; (rw [e]; exact ⟨H.1, H.2.1, H.2.2.1, H.2.2.2.1, hK _ H.2.2.2.2⟩); (first | exact H.elim | exact H.1.elim)
      · exact H.elim
    · exact H.elim
  case load g sz a =>
    simp only [vcO] at H ⊢
    split at H
    · rename_i b _ _ _ _
      cases hq : h[b]? with
      | none => rw [hq] at H; exact H.elim
      | some q => rw [hq] at H; rcases hx _ _ hq with e | rfl; (rw [e]; cases q <;> first | exact ⟨H.1, H.2.1, hK _ H.2.2⟩ | exact H.elim); (first | exact H.elim | exact H.1.elim)
    · exact ⟨H.1, hK _ H.2⟩
    · exact ⟨H.1, hK _ H.2⟩
    · exact H.elim
  case faddr g o sz a =>
    simp only [vcO] at H ⊢
    split at H
    · rename_i b _ _ _ _
      cases hq : h[b]? with
      | none => rw [hq] at H; exact H.1.elim
      | some q => rw [hq] at H; rcases hx _ _ hq with e | rfl; (rw [e]; exact ⟨H.1, hK _ H.2⟩); (first | exact H.elim | exact H.1.elim)
    · exact ⟨H.1, hK _ H.2⟩
    · exact H.elim
  case iaddr sz x i =>
    simp only [vcO] at H ⊢
    split at H
    · rename_i b _ _ _ _ _ _ _
      cases hq : h[b]? with
      | none => rw [hq] at H; exact H.1.elim
      | some q => rw [hq] at H; rcases hx _ _ hq with e | rfl; (rw [e]; exact ⟨H.1, H.2.1, H.2.2.1, hK _ H.2.2.2⟩); (first | exact H.elim | exact H.1.elim)
    · exact ⟨H.1, H.2.1, H.2.2.1, hK _ H.2.2.2⟩
    · rename_i g z b _ _ _ _ _ _ _ _ _
      cases hq : h[b]? with
      | none => rw [hq] at H; exact H.1.elim
      | some q => rw [hq] at H; rcases hx _ _ hq with e | rfl; (rw [e]; exact ⟨H.1, H.2.1, H.2.2.1, hK _ H.2.2.2⟩); (first | exact H.elim | exact H.1.elim)
    · exact H.elim
  case iaddra n sz g x i =>
    simp only [vcO] at H ⊢
    split at H
    · rename_i b _ _ _ _ _ _ _
      cases hq : h[b]? with
      | none => rw [hq] at H; exact H.1.elim
      | some q => rw [hq] at H; rcases hx _ _ hq with e | rfl; (rw [e]; exact ⟨H.1, H.2.1, H.2.2.1, hK _ H.2.2.2⟩); (first | exact H.elim | exact H.1.elim)
    · exact ⟨H.1, H.2.1, H.2.2.1, hK _ H.2.2.2⟩
    · exact H.elim
  case ent a =>
    simp only [vcO] at H ⊢
    split at H
    · rename_i b _
      cases hq : h[b]? with
      | none => rw [hq] at H; exact H.elim
      | some q =>
        rw [hq] at H
        rcases hx _ _ hq with e | rfl
        case inr => exact H.elim
        rw [e]
        split at H
        · rename_i m _ j _
          cases hq2 : h[m]? with
          | none => rw [hq2] at H; exact H.elim
          | some q2 =>
            rw [hq2] at H
            rcases hx _ _ hq2 with e2 | rfl
            case inr => exact H.elim
            rw [e2]
            split at H
            · exact ⟨H.1, hK _ H.2⟩
            · exact H.elim
        · exact H.elim
    · exact H.elim
  case look ck zero ok m k =>
    simp only [vcO] at H ⊢
    split at H
    · exact hK _ H
    · rename_i b _ _ _
      cases hq : h[b]? with
      | none => rw [hq] at H; exact H.elim
      | some q =>
        rw [hq] at H
        rcases hx _ _ hq with e | rfl
        case inr => exact H.elim
        rw [e]
        cases q <;> try exact H.elim
        simp only at H ⊢
        split at H
        · exact hK _ H
        · exact hK _ H
        · exact H.elim
    · refine ⟨H.1, H.2.1, ?_⟩
      have H := H.2.2
      split at H
      · exact hK _ H
      · exact hK _ H
      · exact H.elim
    · exact H.elim
  case s2b | s2bl | lit | alloc | box | boxn | store | app | appz | call | callr | stop | rngs | nxts | mkmap | mkmapr | rngm | nxtm | mupd | mdel | clr | mks | cpy | callv | inv => exact absurd hp (by simp [DO.heavy])
  all_goals exact absurd rfl hpl
end
end Go.Den

namespace Go.Den
open Go

/-- The run of an operation, and what it leaves. -/
def Yields (P : Program) (x : Sem Next) (w : World) (R : Value → World → Prop) : Prop :=
  match x.run P w with
  | .ok (.value v) w' => R v w'
  | .ok .skip w' => R undef w'
  | .ok (.enter f args) w' => Calls P f args w' fun en w'' => ∃ v, en = .returned v ∧ R v w''
  | _ => False

theorem Yields.wp {P : Program} {o : Oper} {a : Act} {w : World} {R : Value → World → Prop} {next : Act → World → Prop} {Q : Exit → Act → World → Prop}
    (h : Yields P (execOp a.eval o) w R) (hn : ∀ v w', R v w' → next (a.put o.dst v) w') : o.wp P a w next Q := by
  unfold Yields at h
  unfold Oper.wp
  cases hr : (execOp a.eval o).run P w with
  | ok n w' =>
    rw [hr] at h
    cases n <;> simp only [Oper.upon] <;> simp only at h
    case value v => exact hn _ _ h
    case skip => exact hn _ _ h
    case enter f args => exact h.mono fun en w'' ⟨v, he, hv⟩ => by subst he; exact hn _ _ hv
  | halt x w' => rw [hr] at h; cases x <;> exact h.elim

/-- What stands behind an operation. -/
def After (e : Env) (w : World) (K : DV → List Blk → Prop) (v : Value) (w' : World) : Prop :=
  ∃ e' d, e'.H = w'.heap ∧ WS w w' ∧ HR e' ∧ Ev e.h.length e e' ∧ VR e' d v ∧ K d e'.h

theorem after_same {e : Env} {w w' : World} {K : DV → List Blk → Prop} {v : Value} {d : DV} (hH : e.H = w.heap) (hw : w'.heap = w.heap) (hs : WS w w') (hr : HR e) (hv : VR e d v) (hk : K d e.h) : After e w K v w' :=
  ⟨e, d, hH.trans hw.symm, hs, hr, Ev.refl e, hv, hk⟩

theorem y_pure {P : Program} {e : Env} {w : World} {K : DV → List Blk → Prop} {v : Value} {d : DV} {x : Sem Next} (hx : x.run P w = .ok (.value v) w) (hH : e.H = w.heap) (hr : HR e) (hv : VR e d v) (hk : K d e.h) :
    Yields P x w (After e w K) := by
  unfold Yields
  rw [hx]
  exact after_same hH rfl (WS.refl w) hr hv hk

theorem add_plain (r o n : Nat) : (⟨r, o, none⟩ : Addr).add n = ⟨r, o + n, none⟩ := by
  unfold Addr.add
  split
  · subst_vars; rfl
  · rfl

/-! ### Operands -/
def ofV : Value → DV
  | .agg cs => if cs.all Value.oneCell' then .agg (cs.toList.map .p) else .any
  | .tuple _ => .any
  | v => .p v

theorem vr_ofV (e : Env) (v : Value) : VR e (ofV v) v := by
  unfold ofV
  split
  · split
    · rename_i cs h
      refine .agg (by simp) (fun i hi => Array.all_eq_true.1 h i hi) fun i hi hi' => ?_
      simp only [List.getElem_map, Array.getElem_toList]
      exact .p (Array.all_eq_true.1 h i hi')
    · exact .any
  · exact .any
  · rename_i h1 h2
    refine .p ?_
    cases v <;> first | rfl | (exact absurd rfl (h1 _)) | (exact absurd rfl (h2 _))

def cOpd : Operand → Opd
  | .tmp t => .t t
  | .const v => .c (ofV v)
  | .global g => .g g
  | .func f => .c (.fn (.func f) [] [])

theorem vr_ev {e : Env} {G : Nat → DV} {t : List DV} {a : Act} (hg : GR e G) (ht : TR e t a.tmps) (x : Operand) : VR e ((cOpd x).ev G t) (a.eval x) := by
  cases x with
  | tmp n =>
    simp only [cOpd, Opd.ev, Act.eval]
    by_cases h : n < t.length
    · have := ht.2 n h (ht.1 ▸ h)
      simpa [List.getD, Array.getD, h, ht.1 ▸ h] using this
    · have h' : ¬ n < a.tmps.size := ht.1 ▸ h
      simp only [List.getD, List.getElem?_eq_none (Nat.le_of_not_lt h), Option.getD_none]
      exact .any
  | const v => exact vr_ofV e v
  | global g => exact (hg g).1
  | func f => exact .fn (by simp) (fun i hi => by simp at hi) (by simp) (fun i hi => by simp at hi)

theorem tr_map {e : Env} {G : Nat → DV} {t : List DV} {a : Act} (hg : GR e G) (ht : TR e t a.tmps) (l : List Operand) :
    TR e ((l.map cOpd).map (Opd.ev G t)) (l.map a.eval).toArray :=
  ⟨by simp, fun i hi hi' => by simpa using vr_ev hg ht _⟩

theorem GR.mono {e e' : Env} {G : Nat → DV} (h : GR e G) (ev : Ev e.h.length e e') : GR e' G := fun g => ⟨(h g).1.mono ev, GX.mono (h g).1 (h g).2 fun r hr => (ev.ro r hr).2⟩
theorem TR.mono {e e' : Env} {t : List DV} {vs : Array Value} (h : TR e t vs) (ev : Ev e.h.length e e') : TR e' t vs := ⟨h.1, fun i hi hi' => (h.2 i hi hi').mono ev⟩
theorem TR.put {e : Env} {s : St} {a : Act} (h : TR e s.t a.tmps) (dst : Option Nat) {d : DV} {v : Value} (hv : VR e d v) (hp : List Blk) : TR e (s.put dst d hp).t (a.put dst v).tmps := by
  cases dst with
  | none => exact h
  | some k =>
    simp only [St.put, Act.put]
    refine ⟨by simp [h.1], fun i hi hi' => ?_⟩
    simp only [List.length_set] at hi
    have hi2 : i < a.tmps.size := h.1 ▸ hi
    have e1 : (a.tmps.setIfInBounds k v)[i]'hi' = if k = i then v else a.tmps[i] := Array.getElem_setIfInBounds hi2
    rw [List.getElem_set, e1]
    split
    · exact hv
    · exact h.2 i _ _

/-! ### Inversions -/
section
variable {e : Env} {v : Value}
theorem vr_p {u : Value} (h : VR e (.p u) v) : v = u ∧ u.oneCell' = true := by cases h with | p h => exact ⟨rfl, h⟩
theorem vr_agg {cs : List DV} (h : VR e (.agg cs) v) : ∃ vs, v = .agg vs ∧ cs.length = vs.size ∧ (∀ i (hi : i < vs.size), vs[i].oneCell' = true) ∧ ∀ i (hi : i < cs.length) (hi' : i < vs.size), VR e cs[i] vs[i] := by
  cases h with | agg hl h1 h => exact ⟨_, rfl, hl, h1, h⟩
theorem vr_tup {cs : List DV} (h : VR e (.tup cs) v) : ∃ vs, v = .tuple vs ∧ cs.length = vs.size ∧ ∀ i (hi : i < cs.length) (hi' : i < vs.size), VR e cs[i] vs[i] := by
  cases h with | tup hl h => exact ⟨_, rfl, hl, h⟩
theorem vr_iface {t : TypeId} {d : DV} (h : VR e (.iface t d) v) : ∃ u, v = .iface t u ∧ VR e d u := by cases h with | iface h => exact ⟨_, rfl, h⟩
theorem vr_ptr {b i o x : Nat} (h : VR e (.ptr b i o x) v) {sz : Nat} (hk : e.key b = some (.c sz x)) : i < x ∧ ∃ q, e.ρ b = some q ∧ v = .pointer (some ⟨q.1, i * sz + o, none⟩) := by
  cases h with | ptr _ h _ => exact (h sz x hk).2 rfl
theorem vr_sl {b i n x : Nat} (h : VR e (.sl b i n x) v) {sz : Nat} (hk : e.key b = some (.c sz x)) :
    i + n ≤ x ∧ ((e.ρ b = none ∧ v = .slice none 0 0) ∨ ∃ q a cap, e.ρ b = some q ∧ v = .slice (some a) n cap ∧ x ≤ i + cap ∧ (i + cap) * sz ≤ q.2 ∧ (0 < cap → a = ⟨q.1, i * sz, none⟩)) := by
  cases h with | sl _ h _ => exact (h sz x hk).2 rfl
theorem vr_sa {g : Bool} {z b i o n c x : Nat} (h : VR e (.sa g z b i o n c x) v) {sz : Nat} (hk : e.key b = some (.c sz x)) :
    i < x ∧ ∃ q a, e.ρ b = some q ∧ v = .slice (some a) n c ∧ n ≤ c ∧ o + c * z ≤ sz ∧ (0 < c → a = ⟨q.1, i * sz + o, none⟩) := by
  cases h with | sa _ _ h _ => exact (h sz x hk).2 rfl
theorem vr_sa_g {g : Bool} {z b i o n c x : Nat} (h : VR e (.sa g z b i o n c x) v) : g = false → z = 1 := by cases h with | sa _ hg _ _ => exact hg
theorem vr_sa_n {g : Bool} {z b i o n c x : Nat} (h : VR e (.sa g z b i o n c x) v) : ∃ a, v = .slice a n c := by cases h with | sa _ _ _ h => exact h
theorem vr_sl_n {b i n x : Nat} (h : VR e (.sl b i n x) v) : ∃ a c, v = .slice a n c := by cases h with | sl _ _ h => exact h
theorem vr_fz_n {sz : Nat} {l : List DV} (h : VR e (.fz sz l) v) : ∃ a c, v = .slice a l.length c ∧ l.length ≤ c := by
  cases h with
  | fz0 => exact ⟨_, _, rfl, by simp⟩
  | fz _ _ hc => exact ⟨_, _, rfl, hc⟩
theorem vr_size {d : DV} (h : VR e d v) (hs : d.storable = true) : v.cells.size = d.size := by
  have h0 := h.one
  have key : v.oneCell' = true → v.cells.size = 1 := by intro ho; cases v <;> first | rfl | simp [Value.oneCell'] at ho
  cases h with
  | any => cases hs
  | tup => cases hs
  | agg hl => exact hl.symm
  | _ => exact key h0
theorem vr_cells {d : DV} (h : VR e d v) (hs : d.storable = true) : d.cells.length = v.cells.size ∧ ∀ i (hi : i < d.cells.length) (hi' : i < v.cells.size), VR e d.cells[i] v.cells[i] := by
  have h0 := h.one
  have key : v.oneCell' = true → d.cells = [d] → d.cells.length = v.cells.size ∧ ∀ i (hi : i < d.cells.length) (hi' : i < v.cells.size), VR e d.cells[i] v.cells[i] := by
    intro ho hd
    have hc : v.cells = #[v] := by cases v <;> first | rfl | simp [Value.oneCell'] at ho
    refine ⟨by rw [hd, hc]; rfl, fun i hi hi' => ?_⟩
    simp only [hd, hc] at hi hi' ⊢
    have : i = 0 := by simp at hi; exact hi
    subst this
    exact h
  cases h with
  | any => cases hs
  | tup => cases hs
  | agg hl h1 h => exact ⟨hl, h⟩
  | _ => exact key h0 rfl
end

theorem toList_beq (a b : ByteArray) : (a.toList == b.toList) = decide (a = b) := by
  rw [ByteArray.toList_eq, ByteArray.toList_eq, Bool.eq_iff_iff]
  simp only [beq_iff_eq, decide_eq_true_eq]
  constructor
  · intro h
    cases a; cases b
    simp only [ByteArray.mk.injEq]
    exact Array.toList_inj.1 h
  · rintro rfl; rfl

theorem data_beq (a b : ByteArray) : (a.data.toList == b.data.toList) = decide (a = b) := by
  rw [← toList_beq, ByteArray.toList_eq, ByteArray.toList_eq]

/-! ### Numbers, truths, texts -/
theorem run_equalIn_bool {P : Program} {t : TypeId} (h : P.underlying t = some .bool) (a b : Bool) (d : Nat) (w : World) : (Op.equalIn (d + 1) t (.bool a) (.bool b)).run P w = .ok (a == b) w := by
  unfold Op.equalIn
  simp only [Sem.run_bind, run_underlying h, Result.andThen_ok]
  rfl
theorem run_equal_bool {P : Program} {t : TypeId} (h : P.underlying t = some .bool) (a b : Bool) (w : World) : (Op.equal t (.bool a) (.bool b)).run P w = .ok (a == b) w :=
  run_equalIn_bool h a b 9999 w
theorem run_guard_int {P : Program} {op : BinOp} {xt : TypeId} {x y : Operand} {k : IntKind} {a : Int} {b : Value} (w : World) : (eqGuard op xt x y (.int k a) b).run P w = .ok () w := by
  cases op <;> rfl
theorem run_guard_str {P : Program} {op : BinOp} {xt : TypeId} {x y : Operand} {a : ByteArray} {b : Value} (w : World) : (eqGuard op xt x y (.string a) b).run P w = .ok () w := by
  cases op <;> rfl
theorem run_guard_bool {P : Program} {op : BinOp} {xt : TypeId} {x y : Operand} {a : Bool} {b : Value} (w : World) : (eqGuard op xt x y (.bool a) b).run P w = .ok () w := by
  cases op <;> rfl

theorem run_guard_float {P : Program} {op : BinOp} {xt : TypeId} {x y : Operand} {k : FloatKind} {a : Nat} {b : Value} (w : World) : (eqGuard op xt x y (.float k a) b).run P w = .ok () w := by
  cases op <;> rfl
theorem run_floatArith {P : Program} {op : BinOp} {k : FloatKind} {a b : Nat} {r : Option Nat} (w : World) (h : (match op with | .add => some (k.format.add a b) | .sub => some (k.format.sub a b) | .mul => some (k.format.mul a b) | .quo => some (k.format.div a b) | _ => none) = some r) (hs : r.isSome = true) :
    (Op.floatArith op k a b).run P w = .ok (.float k (r.getD 0)) w := by
  cases r with
  | none => cases hs
  | some r =>
    unfold Op.floatArith
    cases op <;> simp only [Option.some.injEq, reduceCtorEq] at h
    all_goals (simp only [h]; rfl)
theorem run_binK {P : Program} {op : BinOp} {xt : TypeId} {x y : Operand} {a b : Value} {K : Value → Prop} (w : World) (h : binK op a b K) :
    ∃ v, (do eqGuard op xt x y a b; binOp op xt a b : Sem Value).run P w = .ok v w ∧ v.oneCell' = true ∧ K v := by
  unfold binK at h
  split at h
  · rename_i k a k' b
    simp only [Sem.run_bind, run_guard_int, Result.andThen_ok]
    cases op <;> simp only at h
    case shl => exact ⟨_, by simp [binOp, Op.shift, show ¬ b < 0 by omega, ishl, ishr], rfl, h.2⟩
    case shr => exact ⟨_, by simp [binOp, Op.shift, show ¬ b < 0 by omega, ishl, ishr], rfl, h.2⟩
    case quo => obtain ⟨rfl, h0, h⟩ := h; exact ⟨_, by simp [binOp, Op.intDiv, h0], rfl, h⟩
    case rem => obtain ⟨rfl, h0, h⟩ := h; exact ⟨_, by simp [binOp, Op.intDiv, h0], rfl, h⟩
    all_goals
      obtain ⟨rfl, h⟩ := h
      exact ⟨_, by simp [binOp, Op.intArith, Op.intBits, Op.intCmp, iand, ior, ixor, iandn] <;> rfl, rfl, h⟩
  · rename_i a b
    simp only [Sem.run_bind, run_guard_str, Result.andThen_ok]
    cases op <;> simp only at h
    case add => exact ⟨_, by simp only [binOp, Op.stringOp, IntKind.max_i64]; rw [if_neg (by omega)]; rfl, rfl, h.2⟩
    all_goals exact ⟨_, by simp only [binOp, Op.stringOp, ByteArray.toList_eq, data_beq]; rfl, rfl, h⟩
  · rename_i k a k' b
    simp only [Sem.run_bind, run_guard_float, Result.andThen_ok]
    cases op <;> simp only at h
    case add => obtain ⟨rfl, hs, h⟩ := h; exact ⟨_, by simp only [binOp, ne_eq, not_true, if_false]; exact run_floatArith w rfl hs, rfl, h⟩
    case sub => obtain ⟨rfl, hs, h⟩ := h; exact ⟨_, by simp only [binOp, ne_eq, not_true, if_false]; exact run_floatArith w rfl hs, rfl, h⟩
    case mul => obtain ⟨rfl, hs, h⟩ := h; exact ⟨_, by simp only [binOp, ne_eq, not_true, if_false]; exact run_floatArith w rfl hs, rfl, h⟩
    case quo => obtain ⟨rfl, hs, h⟩ := h; exact ⟨_, by simp only [binOp, ne_eq, not_true, if_false]; exact run_floatArith w rfl hs, rfl, h⟩
    all_goals
      obtain ⟨rfl, h⟩ := h
      exact ⟨_, by simp only [binOp, ne_eq, not_true, if_false]; rfl, rfl, h⟩
  · exact h.elim

theorem run_unK {P : Program} {op : UnOp} {a : Value} {K : Value → Prop} (w : World) (h : unK op a K) : ∃ v, (Op.unary op a).run P w = .ok v w ∧ v.oneCell' = true ∧ K v := by
  unfold unK at h
  split at h
  · exact ⟨_, by simp [Op.unary, Op.intArith], rfl, h⟩
  · exact ⟨_, by simp [Op.unary, Op.intBits, inot] <;> rfl, rfl, h⟩
  · exact ⟨_, by simp [Op.unary], rfl, h⟩
  · exact h.elim

end Go.Den

namespace Go.Den
open Go

def aggDesc : TypeDesc → Bool
  | .struct _ | .array _ _ => true
  | _ => false

/-- A type: is it a struct or an array; its cells; its bytes. -/
structure Ty (P : Program) (t : TypeId) (g : Bool) (sz : Nat) : Prop where
  agg : ∃ d, P.underlying t = some d ∧ aggDesc d = g
  size : ∃ i, P.info? t = some i ∧ i.size = sz

def tyI (P : Program) (t : TypeId) : Option (Bool × Nat) :=
  match P.underlying t, P.info? t with
  | some d, some i => some (aggDesc d, i.size)
  | _, _ => none

theorem tyI_spec {P : Program} {t : TypeId} {g : Bool} {sz : Nat} (h : tyI P t = some (g, sz)) : Ty P t g sz := by
  unfold tyI at h
  split at h
  · rename_i d i h1 h2
    simp only [Option.some.injEq, Prod.mk.injEq] at h
    exact ⟨⟨d, h1, h.1⟩, ⟨i, h2, h.2⟩⟩
  · cases h

theorem Ty.run_agg {P : Program} {t : TypeId} {g : Bool} {sz : Nat} (h : Ty P t g sz) (w : World) : (isAgg t).run P w = .ok g w := by
  obtain ⟨d, h1, h2⟩ := h.agg
  subst h2
  unfold isAgg
  simp only [Sem.run_bind, run_underlying h1, Result.andThen_ok]
  cases d <;> rfl
theorem Ty.run_size {P : Program} {t : TypeId} {g : Bool} {sz : Nat} (h : Ty P t g sz) (w : World) : (sizeOf t).run P w = .ok sz w := by
  obtain ⟨i, h1, h2⟩ := h.size
  subst h2
  simp [sizeOf, typeInfo, h1]

theorem run_cells {P : Program} (w : World) (r o : Nat) (cs : List Value) (h : ∀ k (hk : k < cs.length), cellAt w.heap r (o + k) = some cs[k]) :
    (loadCells ⟨r, o, none⟩ cs.length).run P w = .ok cs.toArray w :=
  run_loadCells_list w _ _ fun j v hj => by
    rw [add_plain, cellAt_cell?]
    obtain ⟨h1, h2⟩ := List.getElem?_eq_some_iff.1 hj
    rw [h j h1, h2]

/-- The value that is read at an address. -/
def ofCells (g : Bool) (cs : List Value) : Value := if g then .agg cs.toArray else cs.getD 0 undef

theorem run_loadVar {P : Program} {t : TypeId} {g : Bool} {sz : Nat} (ht : Ty P t g sz) (w : World) (r o : Nat) (cs : List Value) (hl : cs.length = sz) (hg : g = false → sz = 1)
    (h : ∀ k (hk : k < cs.length), cellAt w.heap r (o + k) = some cs[k]) : (loadVar t ⟨r, o, none⟩).run P w = .ok (ofCells g cs) w := by
  unfold loadVar
  simp only [Sem.run_bind, ht.run_agg, Result.andThen_ok]
  cases g with
  | true =>
    simp only [if_true, Sem.run_bind, ht.run_size, Result.andThen_ok]
    rw [← hl, run_cells w r o cs h]
    rfl
  | false =>
    have h1 : cs.length = 1 := by rw [hl, hg rfl]
    have := h 0 (by omega)
    simp only [Bool.false_eq_true, if_false, run_load, cellAt_cell?]
    rw [Nat.add_zero] at this
    rw [this]
    simp [ofCells, h1]

/-- Cells o .. o + sz of a value, read: as 'sub' says. -/
theorem vr_sub {e : Env} {d : DV} {v : Value} (h : VR e d v) (o sz : Nat) (g : Bool) (hg : g = false → sz = 1) (hb : o + sz ≤ v.cells.size) :
    VR e (sub d o sz g) (ofCells g ((v.cells.toList.drop o).take sz)) := by
  have h0 := h.one
  cases g with
  | true =>
    simp only [ofCells, if_true]
    cases h with
    | agg hl h1 h =>
      rename_i cs vs
      simp only [Value.cells] at hb ⊢
      refine .agg (by simp [hl]) (fun i hi => ?_) fun i hi hi' => ?_
      · simp at hi
        simpa using h1 (o + i) (by omega)
      · simp at hi
        simpa using h (o + i) (by omega) (by omega)
    | _ => exact .any
  | false =>
    have h1 := hg rfl
    subst h1
    have hlt : o < v.cells.size := by omega
    have hv : ofCells false ((v.cells.toList.drop o).take 1) = v.cells[o] := by
      simp [ofCells, List.getD, hlt]
    rw [hv]
    have key : v.oneCell' = true → sub d o 1 false = d → VR e (sub d o 1 false) v.cells[o] := by
      intro ho hd
      have hc : v.cells = #[v] := by cases v <;> first | rfl | simp [Value.oneCell'] at ho
      rw [hd]
      simp only [hc] at hlt ⊢
      have : o = 0 := by simp at hlt; exact hlt
      subst this
      exact h
    cases h with
    | any => exact .any
    | tup => exact .any
    | agg hl h1 h =>
      simp only [sub, Value.cells] at hlt ⊢
      have := h o (hl ▸ hlt) hlt
      simpa [List.getD, hl ▸ hlt] using this
    | _ => exact key h0 rfl

theorem take_cells {α : Type} (l : List α) (o sz : Nat) (h : o + sz ≤ l.length) : ((l.drop o).take sz).length = sz := by simp; omega

section
variable {P : Program} {e : Env} {w : World} {K : DV → List Blk → Prop}

/-- A row's block, known. -/
theorem HR.cells (hr : HR e) {b sz : Nat} {els : List DV} (hb : e.h[b]? = some (.cells sz els)) {q : Nat × Nat} (hq : e.ρ b = some q) :
    ∃ c T fr, ∃ vs : Nat → Value, e.H[q.1]? = some (.cells c T fr) ∧ c.size = q.2 ∧ els.length * sz ≤ q.2 ∧ (∀ k, k ≤ q.2 → (sz ≠ 1 ∨ k < q.2) → ¬(fr.1 ≤ k ∧ k < fr.2)) ∧
      (∀ j (hj : j < els.length), VR e els[j] (vs j)) ∧ (∀ j, j < els.length → (vs j).cells.size = sz) ∧ (∀ j, j < els.length → Cells1 (vs j)) ∧
      (∀ j, j < els.length → ∀ k, k < sz → c[j * sz + k]? = (vs j).cells[k]?) := by
  have h := hr.blk b _ hb
  cases h with
  | nil h => rw [h] at hq; cases hq
  | cells q' c T fr vs hq' hH hc hl hf hv hsz h1 hcell =>
    rw [hq'] at hq
    cases hq
    exact ⟨c, T, fr, vs, hH, hc, hl, hf, hv, hsz, h1, hcell⟩

theorem y_load {t : TypeId} {g : Bool} {sz : Nat} (ht : Ty P t g sz) (hg : g = false → sz = 1) (hH : e.H = w.heap) (hr : HR e) {d : DV} {v : Value} (hv : VR e d v)
    (h : match (generalizing := false) d with
      | .ptr b i o x => (match e.h[b]? with
        | some (.cells bsz els) => x = els.length ∧ o + sz ≤ bsz ∧ K (sub (els.getD i .any) o sz g) e.h
        | _ => False)
      | .fp d => sz ≤ d.size ∧ K (sub d 0 sz g) e.h
      | .p (.pointer (some q)) => (q.spot = none ∧ g = true ∧ sz = 0) ∧ K (.agg []) e.h
      | _ => False) : Yields P (do pure (.value (← Instr.loadAt t v))) w (After e w K) := by
  cases d with
  | ptr b i o x =>
    simp only at h
    cases hb : e.h[b]? with
    | none => rw [hb] at h; exact h.elim
    | some blk =>
    rw [hb] at h
    cases blk with
    | cells bsz els =>
      simp only at h
      obtain ⟨rfl, hsz, hk⟩ := h
      have hkey : e.key b = some (.c bsz els.length) := Env.key_of hb
      obtain ⟨hi, q, hq, rfl⟩ := vr_ptr hv hkey
      obtain ⟨c, T, fr, vs, hh, hc, hl, hf, hvs, hvsz, h1, hcell⟩ := hr.cells hb hq
      have hd : els.getD i .any = els[i] := by simp [List.getD, hi]
      rw [hd] at hk
      have hs := hvsz i hi
      have hcs : ∀ k, k < sz → cellAt w.heap q.1 (i * bsz + o + k) = ((((vs i).cells.toList.drop o).take sz))[k]? := fun k hk => by
        simp only [cellAt, ← hH, hh]
        rw [Nat.add_assoc, hcell i hi (o + k) (by omega)]
        simp [hk]
      have hlen : (((vs i).cells.toList.drop o).take sz).length = sz := take_cells _ _ _ (by simp; omega)
      refine y_pure ?_ hH hr (vr_sub (hvs i hi) o sz g hg (by omega)) hk
      simp only [Sem.run_bind, Instr.loadAt, Instr.sureAddr, Sem.run_pure, Result.andThen_ok]
      rw [run_loadVar ht w q.1 (i * bsz + o) _ hlen hg fun k hk => by
        rw [hcs k (by omega), List.getElem?_eq_getElem hk]]
      rfl
    | _ => exact h.elim
  | fp d =>
    obtain ⟨hsz, hk⟩ := h
    cases hv with
    | fp v0 hs hro hv hcell =>
      rename_i a
      obtain ⟨r, o, sp⟩ := a
      obtain rfl : sp = none := hs
      by_cases hst : d.storable = true
      · have hz := vr_size hv hst
        have hlen : ((v0.cells.toList.drop 0).take sz).length = sz := take_cells _ _ _ (by simp; omega)
        refine y_pure ?_ hH hr (vr_sub hv 0 sz g hg (by omega)) hk
        simp only [Sem.run_bind, Instr.loadAt, Instr.sureAddr, Sem.run_pure, Result.andThen_ok]
        rw [run_loadVar ht w r o _ hlen hg fun k hk => by
          have h3 := hcell k (by omega)
          rw [← hH]
          simp only at h3
          rw [h3]
          simp [show k < v0.cells.size by omega]]
        rfl
      · have : d.size = 0 := by cases d <;> simp [DV.storable] at hst <;> rfl
        have h0 : sz = 0 := by omega
        subst h0
        cases g with
        | false => simp at hg
        | true =>
          refine y_pure (v := ofCells true []) ?_ hH hr (d := sub d 0 0 true) ?_ hk
          · simp only [Sem.run_bind, Instr.loadAt, Instr.sureAddr, Sem.run_pure, Result.andThen_ok]
            rw [run_loadVar ht w r o [] rfl hg fun k hk => by simp at hk]
            rfl
          · cases d <;> simp [DV.storable] at hst <;> exact .any
  | p u =>
    obtain ⟨rfl, _⟩ := vr_p hv
    match v, h with
    | .pointer (some ⟨r, o, sp⟩), ⟨⟨h1, h2, h3⟩, hk⟩ =>
      obtain rfl : sp = none := h1
      subst h2
      subst h3
      refine y_pure (v := ofCells true []) ?_ hH hr (d := .agg []) ?_ hk
      · simp only [Sem.run_bind, Instr.loadAt, Instr.sureAddr, Sem.run_pure, Result.andThen_ok]
        rw [run_loadVar ht w r o [] rfl hg fun k hk => by simp at hk]
        rfl
      · exact .agg rfl (fun i hi => absurd hi (by simp)) (fun i hi => absurd hi (by simp))
  | _ => exact h.elim

end
end Go.Den

namespace Go.Den
open Go

/-- A row of cells with some written. -/
structure Spliced (c c' : Array Value) (o : Nat) (vs : List Value) : Prop where
  size : c'.size = c.size
  old : ∀ k, (k < o ∨ o + vs.length ≤ k) → c'[k]? = c[k]?
  new : ∀ k, k < vs.length → c'[o + k]? = vs[k]?

theorem run_storeCells {P : Program} (r : Nat) (T : TypeId) (fr : Nat × Nat) : ∀ (vs : List Value) (o i : Nat) (w : World) (c : Array Value), w.heap[r]? = some (.cells c T fr) → o + i + vs.length ≤ c.size →
    (∀ k, o + i ≤ k → k < o + i + vs.length → ¬(fr.1 ≤ k ∧ k < fr.2)) → (∀ v ∈ vs, v.oneCell' = true) →
    ∃ w' c', (storeCells ⟨r, o, none⟩ vs i).run P w = .ok () w' ∧ WS w w' ∧ w'.heap.size = w.heap.size ∧ w'.heap[r]? = some (.cells c' T fr) ∧ Spliced c c' (o + i) vs ∧ ∀ s, s ≠ r → w'.heap[s]? = w.heap[s]?
  | [], o, i, w, c, hc, _, _, _ => ⟨w, c, rfl, WS.refl w, rfl, hc, ⟨rfl, fun _ _ => rfl, fun k hk => by simp at hk⟩, fun _ _ => rfl⟩
  | v :: rest, o, i, w, c, hc, hl, hf, h1 => by
    simp only [List.length_cons] at hl hf
    have hi : o + i < c.size := by omega
    have hcell : w.cell? ⟨r, o + i, none⟩ = some c[o + i] := by simp [World.cell?, hc, hi]
    have hfro : w.frozen? ⟨r, o + i, none⟩ = false := by
      have := hf (o + i) (by omega) (by omega)
      obtain ⟨lo, hi'⟩ := fr
      simp only [World.frozen?, hc, Bool.and_eq_false_iff, decide_eq_false_iff_not]
      simp only at this
      omega
    have hlt : r < w.heap.size := (Array.getElem?_eq_some_iff.1 hc).1
    have hst : (store ((⟨r, o, none⟩ : Addr).add i) v).run P w = .ok () (w.setCell ⟨r, o + i, none⟩ v) := by
      rw [add_plain, run_store P w _ v _ (h1 v (by simp))]
      simp [hcell, hfro]
    have hset : (w.setCell ⟨r, o + i, none⟩ v).heap[r]? = some (.cells (c.setIfInBounds (o + i) v) T fr) := by
      simp only [World.setCell, Array.getElem?_modify, hc, if_true, Option.map_some]
      simp [hi]
    obtain ⟨w', c', e1, e2, e3, e4, e5, e6⟩ := run_storeCells (P := P) r T fr rest o (i + 1) (w.setCell ⟨r, o + i, none⟩ v) (c.setIfInBounds (o + i) v) hset (by simp; omega) (fun k h2 h3 => hf k (by omega) (by omega)) (fun x hx => h1 x (by simp [hx]))
    refine ⟨w', c', ?_, ⟨e2.os, e2.tape, e2.output⟩, by rw [e3]; simp, e4, ⟨by rw [e5.size]; simp, fun k hk => ?_, fun k hk => ?_⟩, fun s hs => ?_⟩
    · simp only [storeCells, Sem.run_bind, hst, Result.andThen_ok, e1]
    · simp only [List.length_cons] at hk
      rw [e5.old k (by omega)]
      rw [Array.getElem?_setIfInBounds_ne (by omega)]
    · cases k with
      | zero =>
        rw [e5.old (o + i + 0) (by omega)]
        simp [hi]
      | succ k =>
        simp only [List.length_cons] at hk
        have := e5.new k (by omega)
        rw [show o + (i + 1) + k = o + i + (k + 1) by omega] at this
        rw [this]
        simp
    · rw [e6 s hs]
      simp only [World.setCell, Array.getElem?_modify]
      rw [if_neg (by omega)]

theorem put_getElem {α : Type} (cs xs : List α) (o : Nat) (h : o + xs.length ≤ cs.length) (k : Nat) :
    (cs.take o ++ xs ++ cs.drop (o + xs.length))[k]? = if o ≤ k ∧ k < o + xs.length then xs[k - o]? else cs[k]? := by
  by_cases h1 : k < o
  · rw [if_neg (by omega), List.append_assoc, List.getElem?_append_left (by simp; omega), List.getElem?_take, if_pos h1]
  · by_cases h2 : k < o + xs.length
    · rw [if_pos ⟨by omega, h2⟩, List.append_assoc, List.getElem?_append_right (by simp; omega), List.length_take, show k - min o cs.length = k - o by omega, List.getElem?_append_left (by omega)]
    · rw [if_neg (by omega), List.getElem?_append_right (by simp; omega), List.getElem?_drop]
      congr 1
      simp
      omega

theorem put_array (a b : Array Value) (o sz : Nat) (hb : b.size = sz) (h : o + sz ≤ a.size) (k : Nat) :
    ((a.toList.take o ++ b.toList ++ a.toList.drop (o + sz)).toArray)[k]? = if o ≤ k ∧ k < o + sz then b[k - o]? else a[k]? := by
  subst hb
  have := put_getElem a.toList b.toList o (by simpa using h) k
  simpa using this

theorem one_cells {v : Value} (h : v.oneCell' = true) : v.cells = #[v] := by cases v <;> first | rfl | simp [Value.oneCell'] at h

/-- A value, some of whose cells are written. -/
theorem vr_put {e : Env} {d x : DV} {v u : Value} (hv : VR e d v) (hu : VR e x u) (hx : x.storable = true) (o sz : Nat) (hsz : x.size = sz) (h0 : 0 < sz ∨ v.cells.size = 0) (hb : o + sz ≤ v.cells.size) :
    ∃ v', VR e (put d o x sz) v' ∧ v'.cells.size = v.cells.size ∧ (Cells1 v → Cells1 v') ∧ ∀ k, v'.cells[k]? = if o ≤ k ∧ k < o + sz then u.cells[k - o]? else v.cells[k]? := by
  have hus : u.cells.size = sz := (vr_size hu hx).trans hsz
  have hc := vr_cells hu hx
  have hone := hv.one
  have hu1 := hu.cells1 hx
  let a' : Array Value := (v.cells.toList.take o ++ u.cells.toList ++ v.cells.toList.drop (o + sz)).toArray
  have ha : ∀ k, a'[k]? = if o ≤ k ∧ k < o + sz then u.cells[k - o]? else v.cells[k]? := put_array _ _ o sz hus hb
  have has : a'.size = v.cells.size := by simp [a']; omega
  have h1 : Cells1 v → Cells1 (.agg a') := by
    intro hv1 i hi
    simp only [Value.cells] at hi ⊢
    have := ha i
    rw [Array.getElem?_eq_getElem hi] at this
    split at this
    · rename_i hk
      rw [Array.getElem?_eq_getElem (by omega)] at this
      rw [Option.some.inj this]
      exact hu1 _ _
    · rw [Array.getElem?_eq_getElem (by omega)] at this
      rw [Option.some.inj this]
      exact hv1 _ _
  have hsc : v.cells = #[v] → put d o x sz = x → ∃ v', VR e (put d o x sz) v' ∧ v'.cells.size = v.cells.size ∧ (Cells1 v → Cells1 v') ∧ ∀ k, v'.cells[k]? = if o ≤ k ∧ k < o + sz then u.cells[k - o]? else v.cells[k]? := by
    intro hvc hp
    have h2 : v.cells.size = 1 := by rw [hvc]; rfl
    obtain rfl : o = 0 := by omega
    obtain rfl : sz = 1 := by omega
    refine ⟨u, by rw [hp]; exact hu, by omega, fun _ => hu1, fun k => ?_⟩
    split
    · rfl
    · rw [Array.getElem?_eq_none (by omega), Array.getElem?_eq_none (by omega)]
  cases hv with
  | any => exact ⟨.agg a', .any, has, h1, ha⟩
  | tup hl h => exact hsc rfl rfl
  | agg hl hh h =>
    rename_i cs vs
    refine ⟨.agg a', ?_, has, h1, ha⟩
    simp only [Value.cells] at hb has
    have hxl : x.cells.length = sz := by rw [hc.1, hus]
    have hput : ∀ k, (cs.take o ++ x.cells ++ cs.drop (o + sz))[k]? = if o ≤ k ∧ k < o + sz then x.cells[k - o]? else cs[k]? := by
      have := put_getElem cs x.cells o (by omega)
      rw [hxl] at this
      exact this
    refine .agg (by simp [has, hxl]; omega) (fun i hi => h1 (fun j hj => hh j hj) i hi) fun i hi hi' => ?_
    have e1 := hput i
    have e2 := ha i
    rw [List.getElem?_eq_getElem hi] at e1
    rw [Array.getElem?_eq_getElem hi'] at e2
    have e3 : (Value.agg vs).cells = vs := rfl
    rw [e3] at e2
    by_cases hk : o ≤ i ∧ i < o + sz
    · rw [if_pos hk, List.getElem?_eq_getElem (by omega)] at e1
      rw [if_pos hk, Array.getElem?_eq_getElem (by omega)] at e2
      rw [Option.some.inj e1, Option.some.inj e2]
      exact hc.2 _ _ _
    · have hi2 : i < cs.length := by simp [hxl] at hi; omega
      rw [if_neg hk, List.getElem?_eq_getElem hi2] at e1
      rw [if_neg hk, Array.getElem?_eq_getElem (hl ▸ hi2)] at e2
      rw [Option.some.inj e1, Option.some.inj e2]
      exact h _ _ _
  | _ => exact hsc (one_cells hone) rfl

/-- The row behind a store. -/
theorem row_index {i j bsz o k : Nat} (h : i ≠ j) (ho : o < bsz) (hk : k < bsz) : i * bsz + o ≠ j * bsz + k := by
  intro he
  rcases Nat.lt_or_gt_of_ne h with h1 | h1
  · have := Nat.mul_le_mul_right bsz (Nat.succ_le_of_lt h1)
    simp only [Nat.succ_mul] at this
    omega
  · have := Nat.mul_le_mul_right bsz (Nat.succ_le_of_lt h1)
    simp only [Nat.succ_mul] at this
    omega

section
variable {P : Program} {e : Env} {w : World} {K : DV → List Blk → Prop}

theorem y_store {t : TypeId} {g : Bool} {sz : Nat} (ht : Ty P t g sz) (hH : e.H = w.heap) (hr : HR e) {d x : DV} {v u : Value} (hv : VR e d v) (hu : VR e x u)
    (h : match (generalizing := false) d with
      | .ptr b i o n => (match e.h[b]? with
        | some (.cells bsz els) => n = els.length ∧ (0 < sz ∨ bsz = 0) ∧ o + sz ≤ bsz ∧ x.size = sz ∧ x.storable = true ∧ K .any (e.h.set b (.cells bsz (els.set i (put (els.getD i .any) o x sz))))
        | _ => False)
      | _ => False) : Yields P (do Instr.storeAt t v u; pure .skip) w (After e w K) := by
  cases d with
  | ptr b i o n =>
    simp only at h
    cases hb : e.h[b]? with
    | none => rw [hb] at h; exact h.elim
    | some blk =>
    rw [hb] at h
    cases blk with
    | cells bsz els =>
      simp only at h
      obtain ⟨rfl, h0, hsz, hxs, hst, hk⟩ := h
      have hkey : e.key b = some (.c bsz els.length) := Env.key_of hb
      obtain ⟨hi, q, hq, rfl⟩ := vr_ptr hv hkey
      obtain ⟨c, T, fr, vs, hh, hc, hl, hf, hvs, hvsz, h1, hcell⟩ := hr.cells hb hq
      have hd : els.getD i .any = els[i] := by simp [List.getD, hi]
      rw [hd] at hk
      have hus : u.cells.size = sz := (vr_size hu hst).trans hxs
      obtain ⟨v', p1, p2, p3, p4⟩ := vr_put (hvs i hi) hu hst o sz hxs (by rw [hvsz i hi]; exact h0) (by rw [hvsz i hi]; exact hsz)
      have hin : (i + 1) * bsz ≤ els.length * bsz := Nat.mul_le_mul_right _ hi
      rw [Nat.succ_mul] at hin
      obtain ⟨w', c', e1, e2, e3, e4, e5, e6⟩ := run_storeCells (P := P) q.1 T fr u.cells.toList (i * bsz + o) 0 w c (by rw [← hH]; exact hh) (by simp; omega) (fun k _ hk => hf k (by simp at hk; omega) (.inr (by simp at hk; omega))) (fun y hy => by
        obtain ⟨j, hj, rfl⟩ := List.getElem_of_mem hy
        simpa using hu.cells1 hst j (by simpa using hj))
      have hrun : (do Instr.storeAt t (.pointer (some ⟨q.1, i * bsz + o, none⟩)) u; pure Next.skip : Sem Next).run P w = .ok .skip w' := by
        simp only [Sem.run_bind, Instr.storeAt, Instr.sureAddr, Sem.run_pure, Result.andThen_ok, storeVar, ht.run_size, hus, ne_eq, not_true_eq_false, if_false, e1]
      obtain ⟨ev, hr'⟩ := env_set hr b (.c bsz els.length) (.c bsz els.length) hkey (.cells bsz (els.set i (put els[i] o x sz))) (by simp [Blk.key]) (Key.le_refl _) (e.ρ b) (fun _ => rfl) w'.heap (by rw [e3, hH]; exact Nat.le_refl _)
        (fun r _ hne => by rw [e6 r (fun h => hne q hq h.symm), hH]) (fun q0 h => .inl ⟨q0, h, rfl⟩) (fun _ _ _ h => by rw [hkey] at h; cases h)
      unfold Yields
      rw [hrun]
      simp only [Nat.add_zero] at e5
      refine ⟨_, .any, rfl, e2, hr' ?_, ev, .any, hk⟩
      refine .cells q c' T fr (fun j => if j = i then v' else vs j) (by simp [upd_same, hq]) e4 (by rw [e5.size]; exact hc) (by simpa using hl) hf (fun j hj => ?_) (fun j hj => ?_) (fun j hj => ?_) (fun j hj k hkb => ?_)
      · simp only [List.length_set] at hj
        rw [List.getElem_set]
        by_cases hji : j = i
        · subst hji; simp only [if_true]; exact p1.mono ev
        · rw [if_neg (Ne.symm hji)]; simp only [hji, if_false]; exact (hvs j hj).mono ev
      · simp only [List.length_set] at hj
        by_cases hji : j = i
        · subst hji; simp only [if_true]; rw [p2]; exact hvsz j hj
        · simp only [hji, if_false]; exact hvsz j hj
      · simp only [List.length_set] at hj
        by_cases hji : j = i
        · subst hji; simp only [if_true]; exact p3 (h1 j hj)
        · simp only [hji, if_false]; exact h1 j hj
      · simp only [List.length_set] at hj
        by_cases hji : j = i
        · subst hji
          simp only [if_true]
          rw [p4 k]
          by_cases hko : o ≤ k ∧ k < o + sz
          · rw [if_pos hko]
            have := e5.new (k - o) (by simp; omega)
            rw [show j * bsz + o + (k - o) = j * bsz + k by omega] at this
            rw [this]
            simp
          · rw [if_neg hko, e5.old _ (by simp [hus]; omega)]
            exact hcell j hj k hkb
        · simp only [hji, if_false]
          rw [e5.old _ ?_]
          · exact hcell j hj k hkb
          · simp [hus]
            rcases Nat.lt_or_gt_of_ne hji with h2 | h2
            · have := Nat.mul_le_mul_right bsz (Nat.succ_le_of_lt h2)
              simp only [Nat.succ_mul] at this
              omega
            · have := Nat.mul_le_mul_right bsz (Nat.succ_le_of_lt h2)
              simp only [Nat.succ_mul] at this
              omega
    | _ => exact h.elim
  | _ => exact h.elim

end
end Go.Den

namespace Go.Den
open Go

/-- A new row. -/
theorem env_alloc {e : Env} (hr : HR e) (sz : Nat) (els : List DV) (c : Array Value) (T : TypeId) (fr : Nat × Nat) (vs : Nat → Value) (hl : els.length * sz ≤ c.size) (hf : ∀ k, k ≤ c.size → (sz ≠ 1 ∨ k < c.size) → ¬(fr.1 ≤ k ∧ k < fr.2))
    (hv : ∀ j (hj : j < els.length), VR e els[j] (vs j)) (hsz : ∀ j, j < els.length → (vs j).cells.size = sz) (h1 : ∀ j, j < els.length → Cells1 (vs j))
    (hcell : ∀ j, j < els.length → ∀ k, k < sz → c[j * sz + k]? = (vs j).cells[k]?) :
    let e' : Env := ⟨upd e.ρ e.h.length (some (e.H.size, c.size)), e.h ++ [.cells sz els], e.H.push (.cells c T fr), e.pv⟩
    Ev e.h.length e e' ∧ HR e' ∧ e'.key e.h.length = some (.c sz els.length) ∧ e'.ρ e.h.length = some (e.H.size, c.size) := by
  intro e'
  obtain ⟨ev, hh⟩ := env_push hr (.cells sz els) (some (e.H.size, c.size)) (e.H.push (.cells c T fr)) (by simp) (fun r hr => by simp [Array.getElem?_push, Nat.ne_of_lt hr]) (fun q h => by cases h; exact Nat.le_refl _)
  refine ⟨ev, hh ?_, ?_, upd_same _ _ _⟩
  · exact .cells (e.H.size, c.size) c T fr vs (upd_same _ _ _) (by simp) rfl hl hf (fun j hj => (hv j hj).mono ev) hsz h1 hcell
  · simp [Env.key, e', Blk.key]

theorem vr_ptr_new {e : Env} {b sz r C : Nat} (hk : e.key b = some (.c sz 1)) (hq : e.ρ b = some (r, C)) : VR e (.ptr b 0 0 1) (.pointer (some ⟨r, 0, none⟩)) := by
  refine .ptr (Env.key_lt (by rw [hk]; simp)) (fun sz' n h => ?_) rfl
  rw [hk] at h
  simp only [Option.some.injEq, Key.c.injEq] at h
  obtain ⟨rfl, rfl⟩ := h
  exact ⟨Nat.le_refl _, fun _ => ⟨by omega, (r, C), hq, by simp⟩⟩

theorem vr_sl_new {e : Env} {b sz n r C cap : Nat} (hk : e.key b = some (.c sz n)) (hq : e.ρ b = some (r, C)) (hc : n ≤ cap) (hC : cap * sz ≤ C) : VR e (.sl b 0 n n) (.slice (some ⟨r, 0, none⟩) n cap) := by
  refine .sl (Env.key_lt (by rw [hk]; simp)) (fun sz' m h => ?_) ⟨_, _, rfl⟩
  rw [hk] at h
  simp only [Option.some.injEq, Key.c.injEq] at h
  obtain ⟨rfl, rfl⟩ := h
  exact ⟨Nat.le_refl _, fun _ => ⟨by omega, .inr ⟨(r, C), _, cap, hq, rfl, by omega, by simpa using hC, fun _ => by simp⟩⟩⟩

section
variable {P : Program} {e : Env} {w : World} {K : DV → List Blk → Prop}

/-- A new variable that holds a value. -/
theorem y_new {d : DV} {v : Value} (T : TypeId) (hH : e.H = w.heap) (hr : HR e) (hv : VR e d v) (hst : d.storable = true) (hk : K (.ptr e.h.length 0 0 1) (e.h ++ [.cells d.size [d]])) {x : Sem Next}
    (hx : x.run P w = .ok (.value (.pointer (some ⟨w.heap.size, 0, none⟩))) (w.alloc (.cells v.cells T))) : Yields P x w (After e w K) := by
  have hs := vr_size hv hst
  obtain ⟨ev, hr', hkey, hq⟩ := env_alloc hr d.size [d] v.cells T (0, 0) (fun _ => v) (by simp [hs]) (fun k _ _ h => by simp at h) (fun j hj => by
      have : j = 0 := by simp at hj; exact hj
      subst this; exact hv) (fun _ _ => hs) (fun _ _ => hv.cells1 hst) (fun j hj k hk => by
      have : j = 0 := by simp at hj; exact hj
      subst this; simp)
  unfold Yields
  rw [hx]
  refine ⟨_, _, by rw [hH]; rfl, ⟨rfl, rfl, rfl⟩, hr', ev, ?_, hk⟩
  rw [← hH]
  exact vr_ptr_new hkey hq

theorem y_box {t : TypeId} {d : DV} {v : Value} (hH : e.H = w.heap) (hr : HR e) (hv : VR e d v) (h : d.storable = true ∧ K (.ptr e.h.length 0 0 1) (e.h ++ [.cells d.size [d]])) :
    Yields P (do pure (.value (← Instr.box t v))) w (After e w K) :=
  y_new t hH hr hv h.1 h.2 (by simp [Instr.box, newVar, newRow])

theorem y_alloc {t : TypeId} {z : Value} (hz : ∃ i, P.info? t = some i ∧ i.zero = some z) {d : DV} (hd : VR e d z) (hst : d.storable = true) (hH : e.H = w.heap) (hr : HR e)
    (h : K (.ptr e.h.length 0 0 1) (e.h ++ [.cells d.size [d]])) : Yields P (do pure (.value (← Instr.alloc t true (.tuple #[])))) w (After e w K) := by
  obtain ⟨i, h1, h2⟩ := hz
  exact y_new t hH hr hd hst h (by simp [Instr.alloc, zeroValue, typeInfo, h1, h2, newVar, newRow])

theorem y_faddr {t : TypeId} {f : Nat} {fs : Array Field} {fd : Field} {g : Bool} {sz : Nat} (hu : P.underlying t = some (.struct fs)) (hf : fs[f]? = some fd) (ht : Ty P fd.type g sz) (h0 : 0 < sz) (hg : g = false → sz = 1) (hH : e.H = w.heap) (hr : HR e) {d : DV} {v : Value} (hv : VR e d v)
    (h : match (generalizing := false) d with
      | .ptr b i o' x => (match e.h[b]? with | some (.cells _ els) => x = els.length | _ => False) ∧ K (.ptr b i (o' + fd.offset) x) e.h
      | .fp d => fd.offset + sz ≤ d.size ∧ K (.fp (sub d fd.offset sz g)) e.h
      | _ => False) : Yields P (do pure (.value (← Instr.fieldAt t v f))) w (After e w K) := by
  have run : ∀ r o, (Instr.fieldAt t (.pointer (some ⟨r, o, none⟩)) f).run P w = .ok (.pointer (some ⟨r, o + fd.offset, none⟩)) w := fun r o => by
    simp only [Instr.fieldAt, Sem.run_bind, run_underlying hu, Result.andThen_ok, hf, Instr.sureAddr, Sem.run_pure, fieldPlace, ht.run_size]
    rw [if_neg (by omega)]
    simp [add_plain]
  cases d with
  | ptr b i o x =>
    obtain ⟨hb, hk⟩ := h
    cases hbb : e.h[b]? with
    | none => rw [hbb] at hb; exact hb.elim
    | some blk =>
    rw [hbb] at hb
    cases blk with
    | cells bsz els =>
      simp only at hb
      subst hb
      have hkey : e.key b = some (.c bsz els.length) := Env.key_of hbb
      obtain ⟨hi, q, hq, rfl⟩ := vr_ptr hv hkey
      refine y_pure (by simp [run]; rfl) hH hr ?_ hk
      refine .ptr (Env.key_lt (by rw [hkey]; simp)) (fun sz' n h => ?_) rfl
      rw [hkey] at h
      simp only [Option.some.injEq, Key.c.injEq] at h
      obtain ⟨rfl, rfl⟩ := h
      exact ⟨Nat.le_refl _, fun _ => ⟨hi, q, hq, by simp [Nat.add_assoc]⟩⟩
    | _ => exact hb.elim
  | fp d =>
    obtain ⟨hsz, hk⟩ := h
    cases hv with
    | fp v0 hs hro hv hcell =>
      rename_i a
      obtain ⟨r, o, sp⟩ := a
      obtain rfl : sp = none := hs
      have hst : d.storable = true := by cases d <;> first | rfl | (simp [DV.size] at hsz; omega)
      have hz := vr_size hv hst
      have hlen : ((v0.cells.toList.drop fd.offset).take sz).length = sz := take_cells _ _ _ (by simp; omega)
      have hone : ∀ j (hj : j < v0.cells.size), v0.cells[j].oneCell' = true := hv.cells1 hst
      refine y_pure (by simp [run]; rfl) hH hr ?_ hk
      refine .fp (ofCells g ((v0.cells.toList.drop fd.offset).take sz)) rfl hro (vr_sub hv _ _ g hg (by omega)) fun k hk => ?_
      have hsize : (ofCells g ((v0.cells.toList.drop fd.offset).take sz)).cells = ((v0.cells.toList.drop fd.offset).take sz).toArray := by
        cases g with
        | true => rfl
        | false =>
          have := hg rfl
          subst this
          have hlt : fd.offset < v0.cells.size := by omega
          have e1 : (v0.cells.toList.drop fd.offset).take 1 = [v0.cells[fd.offset]] := by
            rw [List.drop_eq_getElem_cons (by simpa using hlt)]; simp
          rw [e1]
          simp only [ofCells, Bool.false_eq_true, if_false, List.getD_cons_zero]
          exact one_cells (hone _ hlt)
      rw [hsize] at hk ⊢
      simp at hk
      have := hcell (fd.offset + k) (by omega)
      simp only at this ⊢
      rw [Nat.add_assoc, this]
      simp
      rw [List.getElem?_take, if_pos (by omega), List.getElem?_drop]
      simp
  | _ => exact h.elim

end
end Go.Den

namespace Go.Den
open Go

section
variable {P : Program} {e : Env} {w : World} {K : DV → List Blk → Prop}

theorem y_iaddr {t el : TypeId} {g : Bool} {sz : Nat} (hu : P.underlying t = some (.slice el)) (ht : Ty P el g sz) (hH : e.H = w.heap) (hr : HR e) {d di : DV} {v vi : Value} (hv : VR e d v) (hvi : VR e di vi)
    (h : match (generalizing := false) d, di with
      | .sl b s n y, .p (.int _ j) => (match e.h[b]? with | some (.cells bsz els) => y = els.length ∧ bsz = sz | _ => False) ∧ 0 ≤ j ∧ j < n ∧ K (.ptr b (s + j.toNat) 0 y) e.h
      | .fz sz' l, .p (.int _ j) => sz' = sz ∧ 0 ≤ j ∧ j < l.length ∧ K (.fp (l.getD j.toNat .any)) e.h
      | .sa g z b i o n c x, .p (.int _ j) => (match e.h[b]? with | some (.cells _ els) => x = els.length ∧ z = sz | _ => False) ∧ 0 ≤ j ∧ j < n ∧ K (.ptr b i (o + j.toNat * z) x) e.h
      | _, _ => False) : Yields P (do pure (.value (← Instr.indexAt t v vi))) w (After e w K) := by
  have run : ∀ r o n c k (j : Int), 0 ≤ j → j < (n : Nat) → (Instr.indexAt t (.slice (some ⟨r, o, none⟩) n c) (.int k j)).run P w = .ok (.pointer (some ⟨r, o + j.toNat * sz, none⟩)) w := fun r o n c k j h0 h1 => by
    simp only [Instr.indexAt, asIntOf, Sem.run_bind, run_underlying hu, Result.andThen_ok, Sem.run_pure, ht.run_size]
    rw [if_pos ⟨h0, h1⟩]
    simp [ht.run_size, add_plain]
  cases d with
  | sl b s n y =>
    cases di with
    | p u =>
      cases u with
      | int k j =>
        obtain ⟨hb, h0, h1, hk⟩ := h
        obtain ⟨rfl, _⟩ := vr_p hvi
        cases hbb : e.h[b]? with
        | none => rw [hbb] at hb; exact hb.elim
        | some blk =>
        rw [hbb] at hb
        cases blk with
        | cells bsz els =>
          simp only at hb
          obtain ⟨rfl, rfl⟩ := hb
          have hkey : e.key b = some (.c bsz els.length) := Env.key_of hbb
          obtain ⟨hi, hcase⟩ := vr_sl hv hkey
          rcases hcase with ⟨hq, rfl⟩ | ⟨q, a, cap, hq, rfl, hc, hC, ha⟩
          · obtain ⟨_, _, h2⟩ := vr_sl_n hv
            injection h2 with _ h3
            omega
          · obtain rfl := ha (by omega)
            refine y_pure (by simp [run _ _ _ _ _ _ h0 h1]; rfl) hH hr ?_ hk
            refine .ptr (Env.key_lt (by rw [hkey]; simp)) (fun sz' m h => ?_) rfl
            rw [hkey] at h
            simp only [Option.some.injEq, Key.c.injEq] at h
            obtain ⟨rfl, rfl⟩ := h
            exact ⟨Nat.le_refl _, fun _ => ⟨by omega, q, hq, by simp [Nat.add_mul]⟩⟩
        | _ => exact hb.elim
      | _ => exact h.elim
    | _ => exact h.elim
  | sa g z b i o n c x =>
    cases di with
    | p u =>
      cases u with
      | int k j =>
        obtain ⟨hb, h0, h1, hk⟩ := h
        obtain ⟨rfl, _⟩ := vr_p hvi
        cases hbb : e.h[b]? with
        | none => rw [hbb] at hb; exact hb.elim
        | some blk =>
        rw [hbb] at hb
        cases blk with
        | cells bsz els =>
          simp only at hb
          obtain ⟨rfl, rfl⟩ := hb
          have hkey : e.key b = some (.c bsz els.length) := Env.key_of hbb
          obtain ⟨hi, q, a, hq, rfl, hc, hC, ha⟩ := vr_sa hv hkey
          obtain rfl := ha (by omega)
          refine y_pure (by simp [run _ _ _ _ _ _ h0 h1]; rfl) hH hr ?_ hk
          refine .ptr (Env.key_lt (by rw [hkey]; simp)) (fun sz' m h => ?_) rfl
          rw [hkey] at h
          simp only [Option.some.injEq, Key.c.injEq] at h
          obtain ⟨rfl, rfl⟩ := h
          exact ⟨Nat.le_refl _, fun _ => ⟨hi, q, hq, by simp [Nat.add_assoc]⟩⟩
        | _ => exact hb.elim
      | _ => exact h.elim
    | _ => exact h.elim
  | fz sz' l =>
    cases di with
    | p u =>
      cases u with
      | int k j =>
        obtain ⟨rfl, h0, h1, hk⟩ := h
        obtain ⟨rfl, _⟩ := vr_p hvi
        cases hv with
        | fz0 => simp at h1; omega
        | fz vs hs hc hro hvv hsz h1c hcell =>
          rename_i a cap
          obtain ⟨r, o, sp⟩ := a
          obtain rfl : sp = none := hs
          have hj : j.toNat < l.length := by omega
          refine y_pure (by simp [run _ _ _ _ _ _ h0 h1]; rfl) hH hr ?_ hk
          rw [show l.getD j.toNat .any = l[j.toNat] by simp [List.getD, hj]]
          refine .fp (vs j.toNat) rfl hro (hvv _ hj) fun k hk => ?_
          exact hcell j.toNat hj k (by rw [hsz _ hj] at hk; exact hk)
      | _ => exact h.elim
    | _ => exact h.elim
  | _ => exact h.elim

theorem y_iaddra {t el : TypeId} {n : Nat} {g : Bool} {sz : Nat} (hu : P.underlying t = some (.array n el)) (ht : Ty P el g sz) (hg : g = false → sz = 1) (h0 : 0 < sz) (hH : e.H = w.heap) (hr : HR e) {d di : DV} {v vi : Value} (hv : VR e d v) (hvi : VR e di vi)
    (h : match (generalizing := false) d, di with
      | .ptr b s o y, .p (.int _ j) => (match e.h[b]? with | some (.cells _ els) => y = els.length | _ => False) ∧ 0 ≤ j ∧ j < n ∧ K (.ptr b s (o + j.toNat * sz) y) e.h
      | .fp d, .p (.int _ j) => d.size = n * sz ∧ 0 ≤ j ∧ j < n ∧ K (.fp (sub d (j.toNat * sz) sz g)) e.h
      | _, _ => False) : Yields P (do pure (.value (← Instr.indexAt t v vi))) w (After e w K) := by
  have run : ∀ r o k (j : Int), 0 ≤ j → j < n → (Instr.indexAt t (.pointer (some ⟨r, o, none⟩)) (.int k j)).run P w = .ok (.pointer (some ⟨r, o + j.toNat * sz, none⟩)) w := fun r o k j h0 h1 => by
    simp only [Instr.indexAt, asIntOf, Sem.run_bind, run_underlying hu, Result.andThen_ok, Sem.run_pure, ht.run_size, Instr.sureAddr]
    rw [if_pos ⟨h0, h1⟩]
    simp [ht.run_size, add_plain]
  cases d with
  | ptr b s o y =>
    cases di with
    | p u =>
      cases u with
      | int k j =>
        obtain ⟨hb, h0, h1, hk⟩ := h
        obtain ⟨rfl, _⟩ := vr_p hvi
        cases hbb : e.h[b]? with
        | none => rw [hbb] at hb; exact hb.elim
        | some blk =>
        rw [hbb] at hb
        cases blk with
        | cells bsz els =>
          simp only at hb
          subst hb
          have hkey : e.key b = some (.c bsz els.length) := Env.key_of hbb
          obtain ⟨hi, q, hq, rfl⟩ := vr_ptr hv hkey
          refine y_pure (by simp [run _ _ _ _ h0 h1]; rfl) hH hr ?_ hk
          refine .ptr (Env.key_lt (by rw [hkey]; simp)) (fun sz' m h => ?_) rfl
          rw [hkey] at h
          simp only [Option.some.injEq, Key.c.injEq] at h
          obtain ⟨rfl, rfl⟩ := h
          exact ⟨Nat.le_refl _, fun _ => ⟨by omega, q, hq, by simp [Nat.add_assoc]⟩⟩
        | _ => exact hb.elim
      | _ => exact h.elim
    | _ => exact h.elim
  | fp d =>
    cases di with
    | p u =>
      cases u with
      | int k j =>
        obtain ⟨hds, h2, h3, hk⟩ := h
        obtain ⟨rfl, _⟩ := vr_p hvi
        cases hv with
        | fp v0 hs hro hv hcell =>
          rename_i a
          obtain ⟨r, o, sp⟩ := a
          obtain rfl : sp = none := hs
          have hjn : (j.toNat + 1) * sz ≤ n * sz := Nat.mul_le_mul_right _ (by omega)
          rw [Nat.succ_mul] at hjn
          have hst : d.storable = true := by cases d <;> first | rfl | (simp [DV.size] at hds; omega)
          have hz := vr_size hv hst
          have hlen : ((v0.cells.toList.drop (j.toNat * sz)).take sz).length = sz := take_cells _ _ _ (by simp; omega)
          have hone : ∀ j (hj : j < v0.cells.size), v0.cells[j].oneCell' = true := hv.cells1 hst
          refine y_pure (by simp [run _ _ _ _ h2 h3]; rfl) hH hr ?_ hk
          refine .fp (ofCells g ((v0.cells.toList.drop (j.toNat * sz)).take sz)) rfl hro (vr_sub hv _ _ g hg (by omega)) fun k hk => ?_
          have hsize : (ofCells g ((v0.cells.toList.drop (j.toNat * sz)).take sz)).cells = ((v0.cells.toList.drop (j.toNat * sz)).take sz).toArray := by
            cases g with
            | true => rfl
            | false =>
              have := hg rfl
              subst this
              have hlt : j.toNat * 1 < v0.cells.size := by omega
              have e1 : (v0.cells.toList.drop (j.toNat * 1)).take 1 = [v0.cells[j.toNat * 1]] := by
                rw [List.drop_eq_getElem_cons (by simpa using hlt)]; simp
              rw [e1]
              simp only [ofCells, Bool.false_eq_true, if_false, List.getD_cons_zero]
              exact one_cells (hone _ hlt)
          rw [hsize] at hk ⊢
          simp at hk
          have := hcell (j.toNat * sz + k) (by omega)
          simp only at this ⊢
          rw [Nat.add_assoc, this]
          simp
          rw [List.getElem?_take, if_pos (by omega), List.getElem?_drop]
          simp
      | _ => exact h.elim
    | _ => exact h.elim
  | _ => exact h.elim

/-- A part of a struct or an array. -/
theorem run_part {t : TypeId} {g : Bool} {sz : Nat} (ht : Ty P t g sz) (hg : g = false → sz = 1) (cs : Array Value) (o : Nat) (hb : o + sz ≤ cs.size) : (part t cs o).run P w = .ok (ofCells g ((cs.toList.drop o).take sz)) w := by
  unfold part
  simp only [Sem.run_bind, ht.run_agg, Result.andThen_ok]
  cases g with
  | true =>
    simp only [if_true, Sem.run_bind, ht.run_size, Result.andThen_ok, Sem.run_pure, ofCells]
    congr 2
    apply Array.ext'
    simp [List.extract_eq_take_drop]
  | false =>
    have := hg rfl
    subst this
    have hlt : o < cs.size := by omega
    simp only [Bool.false_eq_true, if_false]
    rw [Array.getElem?_eq_getElem hlt]
    simp [ofCells, List.getD, hlt]

theorem y_fld {t : TypeId} {f : Nat} {fs : Array Field} {fd : Field} {g : Bool} {sz : Nat} (hu : P.underlying t = some (.struct fs)) (hf : fs[f]? = some fd) (ht : Ty P fd.type g sz) (hg : g = false → sz = 1) (hH : e.H = w.heap) (hr : HR e) {d : DV} {v : Value} (hv : VR e d v)
    (h : match (generalizing := false) d with
      | .agg cs => fd.offset + sz ≤ cs.length ∧ K (sub (.agg cs) fd.offset sz g) e.h
      | _ => False) : Yields P (do pure (.value (← Instr.field t v f))) w (After e w K) := by
  cases d with
  | agg cs =>
    obtain ⟨hb, hk⟩ := h
    obtain ⟨vs, rfl, hl, h1, hvv⟩ := vr_agg hv
    have hb' : fd.offset + sz ≤ (Value.agg vs).cells.size := by simp only [Value.cells]; omega
    refine y_pure ?_ hH hr (vr_sub hv fd.offset sz g hg hb') hk
    simp only [Instr.field, Sem.run_bind, run_underlying hu, Result.andThen_ok, hf, asAgg, Sem.run_pure]
    rw [run_part ht hg vs _ (by simpa [Value.cells] using hb')]
    rfl
  | _ => exact h.elim

theorem y_idxa {t el : TypeId} {n : Nat} {g : Bool} {sz : Nat} (hu : P.underlying t = some (.array n el)) (ht : Ty P el g sz) (hg : g = false → sz = 1) (hH : e.H = w.heap) (hr : HR e) {d di : DV} {v vi : Value} (hv : VR e d v) (hvi : VR e di vi)
    (h : match (generalizing := false) d, di with
      | .agg cs, .p (.int _ j) => 0 ≤ j ∧ j < n ∧ cs.length = n * sz ∧ K (sub (.agg cs) (j.toNat * sz) sz g) e.h
      | _, _ => False) : Yields P (do pure (.value (← Instr.index t v vi))) w (After e w K) := by
  cases d with
  | agg cs =>
    cases di with
    | p u =>
      cases u with
      | int k j =>
        obtain ⟨h0, h1, hcs, hk⟩ := h
        obtain ⟨rfl, _⟩ := vr_p hvi
        obtain ⟨vs, rfl, hl, h2, hvv⟩ := vr_agg hv
        have hjn : (j.toNat + 1) * sz ≤ n * sz := Nat.mul_le_mul_right _ (by omega)
        rw [Nat.succ_mul] at hjn
        have hb' : j.toNat * sz + sz ≤ (Value.agg vs).cells.size := by simp only [Value.cells]; omega
        refine y_pure ?_ hH hr (vr_sub hv (j.toNat * sz) sz g hg hb') hk
        simp only [Instr.index, asIntOf, Sem.run_bind, run_underlying hu, Result.andThen_ok, Sem.run_pure]
        rw [if_pos ⟨h0, h1⟩]
        simp only [Sem.run_bind, ht.run_size, Result.andThen_ok]
        rw [run_part ht hg vs _ (by simpa [Value.cells] using hb')]
        rfl
      | _ => exact h.elim
    | _ => exact h.elim
  | _ => exact h.elim

end
end Go.Den

namespace Go.Den
open Go

theorem foldl_set (l : List Value) : ∀ (k off : Nat) (cs : Array Value), (l.zipIdx k).foldl (fun cs p => cs.setIfInBounds (off + p.2) p.1) cs = (l.zipIdx k).foldl (fun cs p => cs.setIfInBounds (off + p.2) p.1) cs := fun _ _ _ => rfl

theorem foldl_set_size (l : List Value) : ∀ (k off : Nat) (cs : Array Value), ((l.zipIdx k).foldl (fun cs p => cs.setIfInBounds (off + p.2) p.1) cs).size = cs.size := by
  induction l with
  | nil => intro k off cs; rfl
  | cons v l ih => intro k off cs; simp only [List.zipIdx_cons, List.foldl_cons]; rw [ih]; simp

theorem foldl_set_get (l : List Value) : ∀ (k off : Nat) (cs : Array Value), off + k + l.length ≤ cs.size → ∀ i, ((l.zipIdx k).foldl (fun cs p => cs.setIfInBounds (off + p.2) p.1) cs)[i]? = if off + k ≤ i ∧ i < off + k + l.length then l[i - (off + k)]? else cs[i]? := by
  induction l with
  | nil => intro k off cs h i; simp; intro h1 h2; omega
  | cons v l ih =>
    intro k off cs h i
    simp only [List.length_cons] at h
    simp only [List.zipIdx_cons, List.foldl_cons]
    rw [ih (k + 1) off _ (by simp; omega) i]
    by_cases h1 : off + (k + 1) ≤ i ∧ i < off + (k + 1) + l.length
    · rw [if_pos h1, if_pos (by simp; omega)]
      rw [show i - (off + k) = (i - (off + (k + 1))) + 1 by omega]
      simp
    · rw [if_neg h1]
      by_cases h2 : i = off + k
      · subst h2
        rw [if_pos (by simp)]
        simp [show off + k < cs.size by omega]
      · rw [if_neg (by simp only [List.length_cons]; omega), Array.getElem?_setIfInBounds_ne (by omega)]

/-- What relates a struct's cells as they are filled in. -/
structure AR (e : Env) (cs : List DV) (vs : Array Value) : Prop where
  hl : cs.length = vs.size
  h1 : ∀ i (hi : i < vs.size), vs[i].oneCell' = true
  h : ∀ i (hi : i < cs.length) (hi' : i < vs.size), VR e cs[i] vs[i]

theorem AR.vr {e : Env} {cs : List DV} {vs : Array Value} (h : AR e cs vs) : VR e (.agg cs) (.agg vs) := .agg h.hl h.h1 h.h

theorem AR.put {e : Env} {cs : List DV} {vs vs' : Array Value} (h : AR e cs vs) {x : DV} {u : Value} (hu : VR e x u) (hx : x.storable = true) (o : Nat) (hb : o + x.size ≤ cs.length) (hs : vs'.size = vs.size)
    (hv : ∀ i, vs'[i]? = if o ≤ i ∧ i < o + u.cells.size then u.cells[i - o]? else vs[i]?) : AR e (cs.take o ++ x.cells ++ cs.drop (o + x.size)) vs' := by
  have hus := vr_size hu hx
  have hc := vr_cells hu hx
  have hu1 := hu.cells1 hx
  have hl := h.hl
  have hxl : x.cells.length = x.size := by rw [hc.1, hus]
  have hput : ∀ k, (cs.take o ++ x.cells ++ cs.drop (o + x.size))[k]? = if o ≤ k ∧ k < o + x.size then x.cells[k - o]? else cs[k]? := by
    have := put_getElem cs x.cells o (by omega)
    rw [hxl] at this
    exact this
  refine ⟨by simp [hs, hxl]; omega, fun i hi => ?_, fun i hi hi' => ?_⟩
  · have e2 := hv i
    rw [Array.getElem?_eq_getElem hi] at e2
    split at e2
    · rw [Array.getElem?_eq_getElem (by omega)] at e2
      rw [Option.some.inj e2]
      exact hu1 _ _
    · rw [Array.getElem?_eq_getElem (by omega)] at e2
      rw [Option.some.inj e2]
      exact h.h1 _ _
  · have e1 := hput i
    have e2 := hv i
    rw [List.getElem?_eq_getElem hi] at e1
    rw [Array.getElem?_eq_getElem hi'] at e2
    rw [hus] at e2
    by_cases hk : o ≤ i ∧ i < o + x.size
    · rw [if_pos hk, List.getElem?_eq_getElem (by omega)] at e1
      rw [if_pos hk, Array.getElem?_eq_getElem (by omega)] at e2
      rw [Option.some.inj e1, Option.some.inj e2]
      exact hc.2 _ _ _
    · rw [if_neg hk, List.getElem?_eq_getElem (by omega)] at e1
      rw [if_neg hk, Array.getElem?_eq_getElem (by omega)] at e2
      rw [Option.some.inj e1, Option.some.inj e2]
      exact h.h _ _ _

def fillD (ev : Opd → DV) : List (Nat × Nat × Opd) → List DV → Option (List DV)
  | [], cs => some cs
  | p :: l, cs => if (ev p.2.2).size = p.2.1 ∧ (ev p.2.2).storable = true ∧ p.1 + p.2.1 ≤ cs.length then fillD ev l (cs.take p.1 ++ (ev p.2.2).cells ++ cs.drop (p.1 + p.2.1)) else none

theorem foldl_none {ev : Opd → DV} (l : List (Nat × Nat × Opd)) :
    l.foldl (fun (acc : Option (List DV)) p => acc.bind fun cs => if (ev p.2.2).size = p.2.1 ∧ (ev p.2.2).storable = true ∧ p.1 + p.2.1 ≤ cs.length then some (cs.take p.1 ++ (ev p.2.2).cells ++ cs.drop (p.1 + p.2.1)) else none) none = none := by
  induction l with
  | nil => rfl
  | cons p l ih => simpa using ih

theorem foldl_fillD {ev : Opd → DV} (l : List (Nat × Nat × Opd)) : ∀ cs,
    l.foldl (fun (acc : Option (List DV)) p => acc.bind fun cs => if (ev p.2.2).size = p.2.1 ∧ (ev p.2.2).storable = true ∧ p.1 + p.2.1 ≤ cs.length then some (cs.take p.1 ++ (ev p.2.2).cells ++ cs.drop (p.1 + p.2.1)) else none) (some cs) = fillD ev l cs := by
  induction l with
  | nil => intro cs; rfl
  | cons p l ih =>
    intro cs
    simp only [List.foldl_cons, Option.bind_some, fillD]
    split
    · exact ih _
    · exact foldl_none l

theorem fill_sound {e : Env} {ev : Opd → DV} {re : Operand → Value} (hev : ∀ x, VR e (ev (cOpd x)) (re x)) (place : Nat → Option (Nat × Nat)) : ∀ (parts : List (Nat × Operand)) (dp : List (Nat × Nat × Opd)) (cs cs' : List DV) (vs : Array Value),
    parts.mapM (fun p => (place p.1).map fun q => (q.1, q.2, cOpd p.2)) = some dp → AR e cs vs → fillD ev dp cs = some cs' →
    ∃ vs', Instr.fill place vs (parts.map fun p => (p.1, re p.2)) = some vs' ∧ AR e cs' vs' := by
  intro parts
  induction parts with
  | nil =>
    intro dp cs cs' vs h ha hd
    simp at h
    subst h
    simp only [fillD, Option.some.injEq] at hd
    subst hd
    exact ⟨vs, rfl, ha⟩
  | cons p parts ih =>
    intro dp cs cs' vs h ha hd
    obtain ⟨i, x⟩ := p
    simp only [List.mapM_cons, Option.bind_eq_bind, Option.pure_def] at h
    cases hp : place i with
    | none => simp [hp] at h
    | some q =>
      obtain ⟨off, sz⟩ := q
      cases hr : parts.mapM (fun p => (place p.1).map fun q => (q.1, q.2, cOpd p.2)) with
      | none => simp [hp, hr] at h
      | some rest =>
        simp [hp, hr] at h
        subst h
        simp only [fillD] at hd
        split at hd
        · rename_i hc
          obtain ⟨hsz, hst, hb⟩ := hc
          have hu := hev x
          have hus := vr_size hu hst
          have hl := ha.hl
          let vs1 := (re x).cells.zipIdx.foldl (fun (cs : Array Value) (cj : Value × Nat) => cs.setIfInBounds (off + cj.2) cj.1) vs
          have hvs1 : vs1 = ((re x).cells.toList.zipIdx 0).foldl (fun cs p => cs.setIfInBounds (off + p.2) p.1) vs := by
            simp only [vs1]
            rw [← Array.foldl_toList, Array.toList_zipIdx]
          have hs1 : vs1.size = vs.size := by rw [hvs1]; exact foldl_set_size _ _ _ _
          have hg1 : ∀ i, vs1[i]? = if off ≤ i ∧ i < off + (re x).cells.size then (re x).cells[i - off]? else vs[i]? := fun i => by
            rw [hvs1, foldl_set_get _ 0 off vs (by simp; omega) i]
            simp
          have ha1 := ha.put hu hst off (by omega) hs1 hg1
          rw [hsz] at ha1
          obtain ⟨vs', h1, h2⟩ := ih rest _ cs' vs1 hr ha1 hd
          refine ⟨vs', ?_, h2⟩
          simp only [List.map_cons, Instr.fill, hp]
          rw [if_neg (by simp; omega)]
          exact h1
        · cases hd

/-- A struct's or an array's zero, and where its parts lie. -/
def builtOf (P : Program) (t : TypeId) : Option (Array Value × (Nat → Option (Nat × Nat))) :=
  match P.info? t, P.underlying t with
  | some it, some (.array _ e) =>
    match it.zero, P.info? e with
    | some z, some ie => some (z.cells, fun i => some (i * ie.size, ie.size))
    | _, _ => none
  | some it, some (.struct fields) =>
    match it.zero, fields.toList.mapM (fun f => (P.info? f.type).map fun i => (f.offset, i.size)) with
    | some z, some places => some (z.cells, (places.toArray[·]?))
    | _, _ => none
  | _, _ => none

theorem built_eq {P : Program} {t : TypeId} {z : Array Value} {place : Nat → Option (Nat × Nat)} (h : builtOf P t = some (z, place)) (parts : List (Nat × Value)) : P.built t parts = Instr.fill place z parts := by
  unfold builtOf at h
  unfold Program.built
  split at h
  · rename_i it n el h1 h2
    simp only [h1, h2]
    split at h
    · rename_i zz ie h3 h4
      simp only [Option.some.injEq, Prod.mk.injEq] at h
      simp only [h3, h4]
      rw [← h.1, ← h.2]
    · cases h
  · rename_i it fields h1 h2
    simp only [h1, h2]
    split at h
    · rename_i zz pl h3 h4
      simp only [Option.some.injEq, Prod.mk.injEq] at h
      simp only [h3, h4]
      rw [← h.1, ← h.2]
    · cases h
  · cases h

theorem ar_zero {e : Env} {z : Array Value} (h : z.all Value.oneCell' = true) : AR e (z.toList.map .p) z :=
  ⟨by simp, fun i hi => Array.all_eq_true.1 h i hi, fun i hi hi' => by simpa using .p (Array.all_eq_true.1 h i hi')⟩

section
variable {P : Program} {e : Env} {w : World} {K : DV → List Blk → Prop}

theorem y_bld {t : TypeId} {z : Array Value} {place : Nat → Option (Nat × Nat)} (hb : builtOf P t = some (z, place)) (hz : z.all Value.oneCell' = true) {ev : Opd → DV} {re : Operand → Value} (hev : ∀ x, VR e (ev (cOpd x)) (re x))
    (parts : Array (Nat × Operand)) (dp : List (Nat × Nat × Opd)) (hp : parts.toList.mapM (fun p => (place p.1).map fun q => (q.1, q.2, cOpd p.2)) = some dp) (hH : e.H = w.heap) (hr : HR e)
    (h : match fillD ev dp (z.toList.map .p) with | some cs => K (.agg cs) e.h | none => False) :
    Yields P (do pure (.value (← Instr.build t (parts.map fun (i, x) => (i, re x))))) w (After e w K) := by
  cases hf : fillD ev dp (z.toList.map .p) with
  | none => rw [hf] at h; exact h.elim
  | some cs =>
    rw [hf] at h
    obtain ⟨vs', h1, h2⟩ := fill_sound hev place parts.toList dp _ cs z hp (ar_zero hz) hf
    refine y_pure ?_ hH hr h2.vr h
    have h3 : P.built t (parts.map fun (i, x) => (i, re x)).toList = some vs' := by
      rw [built_eq hb]
      simpa using h1
    simp only [Sem.run_bind, run_build w t _ vs' h3, Result.andThen_ok]
    rfl

end
end Go.Den

namespace Go.Den
open Go

/-- A slice's or a text's elements, where they lie. -/
inductive Reads (e : Env) (sz : Nat) : Value → List DV → Prop
  | nil {a : Option Addr} {c : Nat} : Reads e sz (.slice a 0 c) []
  | str {s : ByteArray} (h : sz = 1) : Reads e sz (.string s) (bytesD s)
  | row {l : List DV} {r o c : Nat} (vs : Nat → Value) (hc : l.length ≤ c) (hv : ∀ j (hj : j < l.length), VR e l[j] (vs j)) (hsz : ∀ j, j < l.length → (vs j).cells.size = sz) (h1 : ∀ j, j < l.length → Cells1 (vs j))
      (hcell : ∀ j, j < l.length → ∀ k, k < sz → cellAt e.H r (o + j * sz + k) = (vs j).cells[k]?) : Reads e sz (.slice (some ⟨r, o, none⟩) l.length c) l

theorem elems_sound {e : Env} (hr : HR e) {sz : Nat} {d : DV} {v : Value} {l : List DV} (hv : VR e d v) (h : elemsOf e.h sz d = some l) : Reads e sz v l := by
  unfold elemsOf at h
  split at h
  · obtain ⟨rfl, _⟩ := vr_p hv
    cases h
    exact .nil
  · obtain ⟨rfl, _⟩ := vr_p hv
    split at h
    · cases h; exact .str ‹_›
    · cases h
  · split at h
    · cases h
      rename_i hsz
      subst hsz
      cases hv with
      | fz0 => exact .nil
      | fz vs hs hc hro hvv hsz h1 hcell =>
        rename_i a cap
        obtain ⟨r, o, sp⟩ := a
        obtain rfl : sp = none := hs
        exact .row vs hc hvv hsz h1 hcell
    · cases h
  · rename_i b i n x
    split at h
    · rename_i bsz els hb
      split at h
      · rename_i hc
        obtain ⟨rfl, rfl⟩ := hc
        cases h
        have hkey : e.key b = some (.c bsz els.length) := Env.key_of hb
        obtain ⟨hi, hcase⟩ := vr_sl hv hkey
        rcases hcase with ⟨hq, rfl⟩ | ⟨q, a, cap, hq, rfl, hc, hC, ha⟩
        · obtain ⟨_, _, h2⟩ := vr_sl_n hv
          injection h2 with _ h3
          subst h3
          simp
          exact .nil
        · obtain ⟨c, T, fr, vs, hh, hcs, hl, hf, hvs, hvsz, h1, hcell⟩ := hr.cells hb hq
          by_cases hn : n = 0
          · subst hn; simp; exact .nil
          · obtain rfl := ha (by omega)
            have hlen : ((els.drop i).take n).length = n := by simp; omega
            have := Reads.row (e := e) (sz := bsz) (l := (els.drop i).take n) (r := q.1) (o := i * bsz) (c := cap) (fun j => vs (i + j)) (by omega)
              (fun j hj => by
                simp at hj
                simp only [List.getElem_take, List.getElem_drop]
                exact hvs _ _)
              (fun j hj => hvsz _ (by simp at hj; omega)) (fun j hj => h1 _ (by simp at hj; omega)) (fun j hj k hk => by
                simp at hj
                rw [show i * bsz + j * bsz = (i + j) * bsz by rw [Nat.add_mul]]
                simp only [cellAt, hh]
                exact hcell _ (by omega) k hk)
            rw [hlen] at this
            exact this
      · cases h
    · cases h
  · split at h
    · rename_i g z b i o n cp x _ bsz els hb
      split at h
      · rename_i hc
        obtain ⟨rfl, rfl⟩ := hc
        cases h
        have hkey : e.key b = some (.c bsz els.length) := Env.key_of hb
        obtain ⟨hi, q, a, hq, rfl, hc, hC, ha⟩ := vr_sa hv hkey
        obtain ⟨c, T, fr, vs, hh, hcs, hl, hf, hvs, hvsz, h1, hcell⟩ := hr.cells hb hq
        by_cases hn : n = 0
        · subst hn; simp; exact .nil
        · obtain rfl := ha (by omega)
          have hel : els.getD i .any = els[i] := by simp [List.getD, hi]
          have hbnd : ∀ j, j < n → o + j * z + z ≤ bsz := fun j hj => by
            have := Nat.mul_le_mul_right z (Nat.succ_le_of_lt (Nat.lt_of_lt_of_le hj hc))
            rw [Nat.succ_mul] at this
            omega
          have hg := vr_sa_g hv
          have hsub := fun j (hj : j < n) => vr_sub (hvs i hi) (o + j * z) z g hg (by rw [hvsz i hi]; exact hbnd j hj)
          have hcl : ∀ j, j < n → ∀ k, (ofCells g (((vs i).cells.toList.drop (o + j * z)).take z)).cells[k]? = if k < z then (vs i).cells[o + j * z + k]? else none := fun j hj k => by
            have hz := hbnd j hj
            have hsz := hvsz i hi
            cases g with
            | true =>
              simp only [ofCells, if_true, Value.cells, List.getElem?_toArray, List.getElem?_take, List.getElem?_drop, Array.getElem?_toList]
            | false =>
              obtain rfl := hg rfl
              have hlt : o + j * 1 < (vs i).cells.size := by omega
              have hlt' : o + j < (vs i).cells.size := by omega
              have e1 : ofCells false (((vs i).cells.toList.drop (o + j * 1)).take 1) = (vs i).cells[o + j * 1] := by simp [ofCells, List.getD, hlt']
              rw [e1, one_cells (h1 i hi _ hlt)]
              by_cases hk : k < 1
              · obtain rfl : k = 0 := by omega
                simp [hlt]
              · rw [if_neg hk]
                simp; omega
          have hsz2 : ∀ j, j < n → (ofCells g (((vs i).cells.toList.drop (o + j * z)).take z)).cells.size = z := fun j hj => by
            have hz := hbnd j hj
            have hsz := hvsz i hi
            cases g with
            | true =>
              show ((((vs i).cells.toList.drop (o + j * z)).take z).toArray).size = z
              rw [List.size_toArray, List.length_take, List.length_drop, Array.length_toList, hsz]
              omega
            | false =>
              obtain rfl := hg rfl
              have hlt : o + j * 1 < (vs i).cells.size := by omega
              have hlt' : o + j < (vs i).cells.size := by omega
              have e1 : ofCells false (((vs i).cells.toList.drop (o + j * 1)).take 1) = (vs i).cells[o + j * 1] := by simp [ofCells, List.getD, hlt']
              rw [e1, one_cells (h1 i hi _ hlt)]
              rfl
          have := Reads.row (e := e) (sz := z) (l := (List.range n).map fun j => sub (els.getD i .any) (o + j * z) z g) (r := q.1) (o := i * bsz + o) (c := cp) (fun j => ofCells g (((vs i).cells.toList.drop (o + j * z)).take z)) (by simp; exact hc)
            (fun j hj => by
              simp at hj
              simp only [List.getElem_map, List.getElem_range, hel]
              exact hsub j hj)
            (fun j hj => hsz2 j (by simpa using hj)) (fun j hj => by
              simp at hj
              have hz := hbnd j hj
              have hsz := hvsz i hi
              intro k hk
              have h2 := hcl j hj k
              rw [Array.getElem?_eq_getElem hk, if_pos (by rw [hsz2 j hj] at hk; exact hk), Array.getElem?_eq_getElem (by rw [hsz2 j hj] at hk; omega)] at h2
              rw [Option.some.inj h2]
              exact h1 i hi _ _) (fun j hj k hk => by
              simp at hj
              have hz := hbnd j hj
              rw [hcl j hj k, if_pos hk]
              simp only [cellAt, hh]
              rw [← hcell i hi _ (by omega)]
              congr 1
              omega)
          simpa using this
      · cases h
    · cases h
  · cases h

/-- The cells themselves, as a list. -/
theorem Reads.cells {P : Program} {e : Env} {sz : Nat} {v : Value} {l : List DV} (h : Reads e sz v l) (w : World) (hH : e.H = w.heap) :
    ∃ (cs : List Value) (vs : Nat → Value), (Builtin.firstCells sz l.length v).run P w = .ok cs.toArray w ∧ cs.length = l.length * sz ∧ (∀ j (hj : j < l.length), VR e l[j] (vs j)) ∧ (∀ j, j < l.length → (vs j).cells.size = sz) ∧
      (∀ j, j < l.length → Cells1 (vs j)) ∧ (∀ j, j < l.length → ∀ k, k < sz → cs[j * sz + k]? = (vs j).cells[k]?) := by
  cases h with
  | nil => rename_i a c; exact ⟨[], fun _ => undef, by cases a <;> simp [Builtin.firstCells, loadCells, loadCellsFrom], by simp, fun j hj => absurd hj (by simp), fun j hj => absurd hj (by simp), fun j hj => absurd hj (by simp), fun j hj => absurd hj (by simp)⟩
  | str h =>
    subst h
    rename_i s
    refine ⟨s.data.toList.map fun b => .int .u8 b.toNat, fun j => .int .u8 (s.data.toList.getD j 0).toNat, ?_, by simp [bytesD], fun j hj => ?_, fun j hj => rfl, fun j hj i hi => ?_, fun j hj k hk => ?_⟩
    · simp [Builtin.firstCells, bytesD]
      apply Array.ext'
      simp
    · simp only [bytesD, List.getElem_map, byteD]
      simp only [bytesD, List.length_map] at hj
      simp only [List.getD, List.getElem?_eq_getElem hj, Option.getD_some]
      exact .p rfl
    · have : i = 0 := by simp only [Value.cells] at hi; simpa using hi
      subst this
      rfl
    · obtain rfl : k = 0 := by omega
      simp only [bytesD, List.length_map] at hj
      simp [Value.cells, List.getD, List.getElem?_eq_getElem hj]
  | row vs hc hv hsz h1 hcell =>
    rename_i r o c
    have hget : ∀ m, m < l.length * sz → ∃ u, cellAt w.heap r (o + m) = some u := fun m hm => by
      have hs0 : 0 < sz := by
        rcases Nat.eq_zero_or_pos sz with h | h
        · subst h; simp at hm
        · exact h
      have h2 := Nat.div_add_mod m sz
      have h3 : m / sz < l.length := (Nat.div_lt_iff_lt_mul hs0).2 hm
      have h4 : m % sz < sz := Nat.mod_lt _ hs0
      have := hcell (m / sz) h3 (m % sz) h4
      rw [Nat.add_assoc, Nat.mul_comm (m / sz) sz, h2, hH] at this
      rw [this, Array.getElem?_eq_getElem (by rw [hsz _ h3]; exact h4)]
      exact ⟨_, rfl⟩
    refine ⟨(List.range (l.length * sz)).map fun m => (cellAt w.heap r (o + m)).getD undef, vs, ?_, by simp, hv, hsz, h1, fun j hj k hk => ?_⟩
    · simp only [Builtin.firstCells]
      have := run_cells (P := P) w r o ((List.range (l.length * sz)).map fun m => (cellAt w.heap r (o + m)).getD undef) (fun k hk => by
        simp at hk
        obtain ⟨u, hu⟩ := hget k hk
        simp [hu])
      simpa using this
    · have hjn : (j + 1) * sz ≤ l.length * sz := Nat.mul_le_mul_right _ hj
      rw [Nat.succ_mul] at hjn
      have hm : j * sz + k < l.length * sz := by omega
      obtain ⟨u, hu⟩ := hget _ hm
      rw [List.getElem?_map, List.getElem?_range hm]
      simp only [Option.map_some, hu, Option.getD_some]
      rw [← hu, ← hH, ← hcell j hj k hk, Nat.add_assoc]

theorem Reads.len {P : Program} {e : Env} {sz : Nat} {v : Value} {l : List DV} (h : Reads e sz v l) (w : World) : (Builtin.lenOf v).run P w = .ok l.length w := by
  cases h with
  | nil => rfl
  | str => simp [Builtin.lenOf, bytesD]
  | row => rfl

section
variable {P : Program} {e : Env} {w : World} {K : DV → List Blk → Prop}

theorem isByte_spec {d : DV} (h : isByte d = true) {e : Env} {v : Value} (hv : VR e d v) : ∃ n : Int, v = .int .u8 n ∧ toByte d = UInt8.ofNat n.toNat := by
  unfold isByte at h
  split at h
  · rename_i n
    obtain ⟨rfl, _⟩ := vr_p hv
    exact ⟨n, rfl, rfl⟩
  · cases h

theorem y_b2s {src dst el : TypeId} (hs : P.underlying src = some (.slice el)) (he : P.underlying el = some (.int .u8)) (hd : P.underlying dst = some .string) (hH : e.H = w.heap) (hr : HR e) {d : DV} {v : Value} (hv : VR e d v)
    (h : match (generalizing := false) sliceOf e.h 1 d with
      | some l => (∀ d, d ∈ l → isByte d = true) ∧ K (.p (.string (strOf l))) e.h
      | none => False) : Yields P (do pure (.value (← convert src dst v))) w (After e w K) := by
  cases hel' : sliceOf e.h 1 d with
  | none => rw [hel'] at h; exact h.elim
  | some l =>
    rw [hel'] at h
    have hel : elemsOf e.h 1 d = some l := by
      unfold sliceOf at hel'
      split at hel'
      · cases hel'
      · exact hel'
    obtain ⟨hb, hk⟩ := h
    have hrd := elems_sound hr hv hel
    have hsl : ∃ a n c, v = .slice a n c := by
      cases hrd with
      | nil => exact ⟨_, _, _, rfl⟩
      | row => exact ⟨_, _, _, rfl⟩
      | str =>
        rename_i s hs1
        cases d with
        | p u => obtain ⟨h9, _⟩ := vr_p hv; subst h9; simp [sliceOf] at hel'
        | fz => obtain ⟨_, _, h9, _⟩ := vr_fz_n hv; cases h9
        | sl => obtain ⟨_, _, h9⟩ := vr_sl_n hv; cases h9
        | sa => obtain ⟨_, h9⟩ := vr_sa_n hv; cases h9
        | _ => simp [elemsOf] at hel
    obtain ⟨a, n, c, rfl⟩ := hsl
    obtain ⟨cs, vs, h1, h2, h3, h4, h5, h6⟩ := hrd.cells (P := P) w hH
    have hlen : n = l.length := by cases hrd <;> rfl
    subst hlen
    refine y_pure ?_ hH hr (.p rfl) hk
    simp only [Sem.run_bind]
    rw [run_convert_bytes_string w src dst el _ _ _ hs he hd]
    cases a with
    | none =>
      have hl : l = [] := by
        generalize hn : l.length = n at hrd
        cases hrd with
        | nil => rfl
      subst hl
      simp [Conv.bytesToString, strOf, ByteArray.empty, ByteArray.emptyWithCapacity]
      rfl
    | some a =>
      simp only [Nat.mul_one] at h2
      have hcs : cs = (l.map fun d => match d with | .p (.int _ n) => n | _ => 0).map (Value.int .u8) := by
        apply List.ext_getElem (by simp [h2])
        intro j hj hj'
        simp at hj'
        have e1 := h6 j hj' 0 (by omega)
        simp only [Nat.mul_one, Nat.add_zero] at e1
        obtain ⟨n, e2, e3⟩ := isByte_spec (hb _ (List.getElem_mem hj')) (h3 j hj')
        rw [e2, List.getElem?_eq_getElem hj] at e1
        simp [Value.cells] at e1
        rw [e1]
        have hp := h3 j hj'
        have hbj := hb _ (List.getElem_mem hj')
        simp only [List.map_map, List.getElem_map, Function.comp]
        rw [e2] at hp
        revert hp hbj
        generalize l[j] = d
        intro hp hbj
        unfold isByte at hbj
        split at hbj
        · obtain ⟨h7, _⟩ := vr_p hp
          injection h7 with _ h8
          rw [h8]
        · cases hbj
      simp only [Builtin.firstCells, Nat.mul_one] at h1
      rw [run_bytesToString w a _ c _ (by rw [h1, hcs]), foldl_push_bytes]
      simp only [Result.andThen_ok, Sem.run_pure, strOf]
      congr 3
      simp only [ByteArray.empty, ByteArray.emptyWithCapacity, List.map_map]
      refine congrArg ByteArray.mk (Array.ext' ?_)
      rw [Array.toList_append]
      show ([] : List UInt8) ++ (List.map _ l) = List.map toByte l
      rw [List.nil_append]
      refine List.map_congr_left fun d hd => ?_
      have := hb d hd
      unfold isByte at this
      split at this
      · rfl
      · cases this

end
end Go.Den

namespace Go.Den
open Go

/-- What append needs to know of the types; a type of one cell has a zero of one cell. -/
structure AppT (P : Program) (t t2 : TypeId) (el : TypeId) (sz bytes : Nat) : Prop where
  ht : P.underlying t = some (.slice el)
  ht2 : (∃ el2, P.underlying t2 = some (.slice el2)) ∨ P.underlying t2 = some .string
  hi : ∃ i z, P.info? el = some i ∧ i.size = sz ∧ i.bytes = bytes ∧ i.zero = some z ∧ z.cells.size = sz
  h0 : 0 < bytes

section
variable {P : Program} {t t2 el : TypeId} {sz bytes : Nat}

theorem run_app_room (H : AppT P t t2 el sz bytes) (ty : TypeId) (w : World) (base : Option Addr) (n c m : Nat) (y : Value) (hlen : (Builtin.lenOf y).run P w = .ok m w) (new : List Value) (hnew : (Builtin.firstCells sz m y).run P w = .ok new.toArray w) (hr : n + m ≤ c)
    (w' : World) (hst : ∀ a, base = some a → (storeCells (a.add (n * sz)) new).run P w = .ok () w') (hb : base = none → w' = w) :
    (Builtin.append_ #[t, t2] ty #[.slice base n c, y]).run P w = .ok (.slice base (n + m) c) w' := by
  obtain ⟨i, z, h4, h5, h6, h7, h8⟩ := H.hi
  have hs : ∀ w, (sizeOf el).run P w = .ok sz w := fun w => by simp [sizeOf, typeInfo, h4, h5]
  rcases H.ht2 with ⟨el2, h2⟩ | h2 <;> simp only [Builtin.append_]
  · cases base with
    | none =>
      obtain rfl := hb rfl
      simp [run_underlying H.ht, run_underlying h2, hs, hlen, hr, hnew]
    | some a =>
      have := hst a rfl
      simp [run_underlying H.ht, run_underlying h2, hs, hlen, hr, hnew, this]
  · cases base with
    | none =>
      obtain rfl := hb rfl
      simp [run_underlying H.ht, run_underlying h2, hs, hlen, hr, hnew]
    | some a =>
      have := hst a rfl
      simp [run_underlying H.ht, run_underlying h2, hs, hlen, hr, hnew, this]

theorem run_app_nil (H : AppT P t t2 el 1 bytes) (ty : TypeId) (w : World) (m : Nat) (y : Value) (hlen : (Builtin.lenOf y).run P w = .ok m w) (new : List Value) (hnew : (Builtin.firstCells 1 m y).run P w.drew = .ok new.toArray w.drew)
    (hm : 0 < m) (hb : m * bytes ≤ 140737488355328) :
    ∃ cap z, m ≤ cap ∧ cap ≤ maxLen ∧ (∃ i, P.info? el = some i ∧ i.zero = some z) ∧ z.cells.size = 1 ∧ (Builtin.append_ #[t, t2] ty #[.slice none 0 0, y]).run P w = .ok (.slice (some ⟨w.heap.size, 0, none⟩) m cap) (w.drew.alloc (.cells (new.toArray ++ Builtin.zeroCells z.cells (cap - m)) el)) := by
  obtain ⟨i, z, h4, h5, h6, h7, h8⟩ := H.hi
  have hs : ∀ w, (sizeOf el).run P w = .ok 1 w := fun w => by simp [sizeOf, typeInfo, h4, h5]
  have hti : ∀ w, (typeInfo el).run P w = .ok i w := fun w => by simp [typeInfo, h4]
  have hzv : ∀ w, (zeroValue el).run P w = .ok z w := fun w => by simp [zeroValue, typeInfo, h4, h7]
  have hfit := growslice_fits (need := m) (old := 0) (bytes := bytes) (by omega) hb
  have hcap := grownCap_ge w m 0 el
  have hnm : m ≤ 140737488355328 := Nat.le_trans (Nat.le_mul_of_pos_right _ H.h0) hb
  refine ⟨grownCap w m 0 el, z, hcap, grownCap_le_maxLen w m 0 el (by unfold maxLen; omega), ⟨i, h4, h7⟩, h8, ?_⟩
  have hb0 : bytes ≠ 0 := by have := H.h0; omega
  have hfit' : ¬ (Builtin.nextslicecap m 0 * bytes > 281474976710656) := by omega
  have hr : ¬ (0 + m ≤ 0) := by omega
  have hm0 : m ≠ 0 := by omega
  have hold : (Builtin.firstCells 1 0 (.slice none 0 0)).run P w.drew = .ok #[] w.drew := by simp [Builtin.firstCells]
  rcases H.ht2 with ⟨el2, h2⟩ | h2 <;> simp only [Builtin.append_]
  · simp [run_underlying H.ht, run_underlying h2, hs, hlen, hr, hm0, hti, h6, hfit', hb0, hnew, hzv, Question.forced, grownCap, newRow, hold]
  · simp [run_underlying H.ht, run_underlying h2, hs, hlen, hr, hm0, hti, h6, hfit', hb0, hnew, hzv, Question.forced, grownCap, newRow, hold]
theorem run_app_grow (H : AppT P t t2 el sz bytes) (ty : TypeId) (w : World) (base : Option Addr) (n c m : Nat) (y : Value) (hlen : (Builtin.lenOf y).run P w = .ok m w) (new old : List Value) (hnew : (Builtin.firstCells sz m y).run P w.drew = .ok new.toArray w.drew)
    (hold : (Builtin.firstCells sz n (.slice base n c)).run P w.drew = .ok old.toArray w.drew) (hr : ¬ n + m ≤ c) (hb : (n + m) * bytes ≤ 140737488355328) :
    ∃ cap rest, n + m ≤ cap ∧ rest.size = (cap - (n + m)) * sz ∧ (Builtin.append_ #[t, t2] ty #[.slice base n c, y]).run P w = .ok (.slice (some ⟨w.heap.size, 0, none⟩) (n + m) cap) (w.drew.alloc (.cells (old.toArray ++ new.toArray ++ rest) el)) := by
  obtain ⟨i, z, h4, h5, h6, h7, h8⟩ := H.hi
  have hs : ∀ w, (sizeOf el).run P w = .ok sz w := fun w => by simp [sizeOf, typeInfo, h4, h5]
  have hti : ∀ w, (typeInfo el).run P w = .ok i w := fun w => by simp [typeInfo, h4]
  have hzv : ∀ w, (zeroValue el).run P w = .ok z w := fun w => by simp [zeroValue, typeInfo, h4, h7]
  have hfit := growslice_fits (need := n + m) (old := c) (bytes := bytes) (by omega) hb
  have hcap := grownCap_ge w (n + m) c el
  refine ⟨grownCap w (n + m) c el, Builtin.zeroCells z.cells (grownCap w (n + m) c el - (n + m)), hcap, by rw [size_zeroCells, h8], ?_⟩
  have hnm : n + m ≤ 140737488355328 := Nat.le_trans (Nat.le_mul_of_pos_right _ H.h0) hb
  have hb0 : bytes ≠ 0 := by have := H.h0; omega
  have hfit' : ¬ (Builtin.nextslicecap (n + m) c * bytes > 281474976710656) := by omega
  rcases H.ht2 with ⟨el2, h2⟩ | h2 <;> simp only [Builtin.append_]
  · simp [run_underlying H.ht, run_underlying h2, hs, hlen, hr, hti, h6, hfit', hb0, hold, hnew, hzv, Question.forced, grownCap, newRow]
    congr 2
    apply Array.ext'
    simp
  · simp [run_underlying H.ht, run_underlying h2, hs, hlen, hr, hti, h6, hfit', hb0, hold, hnew, hzv, Question.forced, grownCap, newRow]
    congr 2
    apply Array.ext'
    simp

variable {e : Env} {w : World} {K : DV → List Blk → Prop}

theorem mul_lt_add {j n sz k m : Nat} (hj : j < n) (hk : k < sz) : j * sz + k < n * sz := by
  have := Nat.mul_le_mul_right sz (Nat.succ_le_of_lt hj)
  rw [Nat.succ_mul] at this
  omega

theorem vr_oneCell {e : Env} {d : DV} {v : Value} (h : VR e d v) (h1 : d.one = true) : v.oneCell' = true := by
  have := h.one
  cases d <;> first | exact this | cases h1
theorem y_appz (H : AppT P t t2 el 1 bytes) (hone : ∀ i z, P.info? el = some i → i.zero = some z → (z.cells.all fun c => c.oneCell') = true) (hby : bytes = 1) (ty : TypeId) (hH : e.H = w.heap) (hr : HR e) {dy : DV} {vy : Value} (hvy : VR e dy vy)
    (h : match (generalizing := false) elemsOf e.h 1 dy with
      | some ys => ys.length ≤ 140737488355328 ∧ (ys = [] → K (.p (.slice none 0 0)) e.h) ∧ (ys ≠ [] → K (.sl e.h.length 0 ys.length ys.length) (e.h ++ [.cells 1 ys]) ∨
          ∀ (cap : Nat) (z : Value), ys.length ≤ cap → cap ≤ maxLen → z.oneCell' = true → ys.all DV.one = true ∧ K (.sa false 1 e.h.length 0 0 ys.length cap 1) (e.h ++ [.cells cap [.agg (ys ++ List.replicate (cap - ys.length) (.p z))]]))
      | none => False) : Yields P (do pure (.value (← Builtin.append_ #[t, t2] ty #[.slice none 0 0, vy]))) w (After e w K) := by
  subst hby
  cases hel : elemsOf e.h 1 dy with
  | none => rw [hel] at h; exact h.elim
  | some ys =>
    rw [hel] at h
    simp only at h
    obtain ⟨hb, h1, h2⟩ := h
    have hrd := elems_sound hr hvy hel
    obtain ⟨cs, vs, r1, r2, r3, r4, r5, r6⟩ := hrd.cells (P := P) w hH
    obtain ⟨cs', vs', r1', r2', r3', r4', r5', r6'⟩ := hrd.cells (P := P) w.drew hH
    have hlen := hrd.len (P := P) w
    by_cases hy : ys = []
    · subst hy
      have hcs : cs = [] := by simpa using r2
      refine y_pure ?_ hH hr (.p rfl) (h1 rfl)
      simp only [Sem.run_bind]
      rw [run_app_room H ty w none 0 0 0 vy hlen cs r1 (by omega) w (fun a h => by cases h) (fun _ => rfl)]
      rfl
    · have hpos : 0 < ys.length := List.length_pos_iff.2 hy
      obtain ⟨cap, z, g1, g2, ⟨i, g3, g4⟩, g5, g6⟩ := run_app_nil H ty w ys.length vy hlen cs' r1' hpos (by omega)
      have hz := hone i z g3 g4
      obtain ⟨zc, hzc⟩ : ∃ zc, z.cells = #[zc] := by
        match hzz : z.cells, g5 with
        | ⟨[x]⟩, _ => exact ⟨x, rfl⟩
      have hz1 : zc.oneCell' = true := by rw [hzc] at hz; simpa using hz
      have hl' : cs'.length = ys.length := by simpa using r2'
      have hcg : ∀ j (hj : j < ys.length), cs'[j]? = (vs' j).cells[0]? := fun j hj => by simpa using r6' j hj 0 (by omega)
      obtain ⟨C, hC⟩ : ∃ C, C = cs'.toArray ++ Builtin.zeroCells z.cells (cap - ys.length) := ⟨_, rfl⟩
      rw [← hC] at g6
      have hCs : C.size = cap := by rw [hC, Array.size_append, size_zeroCells, g5]; simp [hl']; omega
      have hCl : ∀ j, j < ys.length → C[j]? = cs'[j]? := fun j hj => by rw [hC, Array.getElem?_append_left (by simp; omega)]; simp
      have hCr : ∀ j, ys.length ≤ j → j < cap → C[j]? = some zc := fun j hj hjc => by
        rw [hC, Array.getElem?_append_right (by simp; omega)]
        simp only [Builtin.zeroCells, hzc]
        rw [Array.getElem?_map, Array.getElem?_range, if_pos (by simp; omega)]
        simp [Nat.mod_one]
      unfold Yields
      simp only [Sem.run_bind, g6, Result.andThen_ok, Sem.run_pure]
      rcases h2 hy with hk | hk
      · obtain ⟨ev, hr', hkey, hq⟩ := env_alloc hr 1 ys C el (0, 0) vs' (by rw [hCs]; omega) (fun k _ _ h => by simp at h) (fun j hj => r3' j hj) r4' r5' (fun j hj k hk => by
          have : k = 0 := by omega
          subst this
          rw [Nat.mul_one, Nat.add_zero, hCl j hj, hcg j hj])
        refine ⟨_, _, by rw [hH]; rfl, ⟨rfl, rfl, rfl⟩, hr', ev, ?_, hk⟩
        rw [← hH]
        exact vr_sl_new hkey hq g1 (by rw [hCs]; simp)
      · obtain ⟨hone', hk⟩ := hk cap zc g1 g2 hz1
        have hvone : ∀ j (hj : j < ys.length), ∃ v, vs' j = v ∧ v.oneCell' = true ∧ cs'[j]? = some v := fun j hj => by
          have h3 := r3' j hj
          have h4 : (ys[j]).one = true := List.all_eq_true.1 hone' _ (List.getElem_mem hj)
          have h5 : (vs' j).oneCell' = true := by
            exact vr_oneCell h3 h4
          refine ⟨_, rfl, h5, ?_⟩
          rw [hcg j hj]
          have : (vs' j).cells = #[vs' j] := by cases hv : vs' j <;> first | rfl | (rw [hv] at h5; simp [Value.oneCell'] at h5)
          rw [this]
          rfl
        have hCv : VR e (.agg (ys ++ List.replicate (cap - ys.length) (.p zc))) (.agg C) := by
          refine .agg (by rw [hCs]; simp; omega) (fun j hj => ?_) (fun j hj hj' => ?_)
          · rw [hCs] at hj
            by_cases hjl : j < ys.length
            · obtain ⟨v, h3, h4, h5⟩ := hvone j hjl
              have := hCl j hjl
              rw [h5, Array.getElem?_eq_getElem (by omega)] at this
              rw [Option.some.inj this]
              exact h4
            · have := hCr j (by omega) hj
              rw [Array.getElem?_eq_getElem (by omega)] at this
              rw [Option.some.inj this]
              exact hz1
          · rw [hCs] at hj'
            by_cases hjl : j < ys.length
            · obtain ⟨v, h3, h4, h5⟩ := hvone j hjl
              have := hCl j hjl
              rw [h5, Array.getElem?_eq_getElem (by omega)] at this
              rw [Option.some.inj this, List.getElem_append_left hjl, ← h3]
              exact r3' j hjl
            · have := hCr j (by omega) hj'
              rw [Array.getElem?_eq_getElem (by omega)] at this
              rw [Option.some.inj this, List.getElem_append_right (by omega)]
              simp only [List.getElem_replicate]
              exact .p hz1
        obtain ⟨ev, hr', hkey, hq⟩ := env_alloc hr cap [.agg (ys ++ List.replicate (cap - ys.length) (.p zc))] C el (0, 0) (fun _ => .agg C) (by simp [hCs]) (fun k _ _ h => by simp at h)
          (fun j hj => by
            have : j = 0 := by simp at hj; exact hj
            subst this; exact hCv) (fun _ _ => hCs) (fun _ _ => hCv.cells1 rfl) (fun j hj k hk => by
            have : j = 0 := by simp at hj; exact hj
            subst this; simp [Value.cells])
        refine ⟨_, _, by rw [hH]; rfl, ⟨rfl, rfl, rfl⟩, hr', ev, ?_, hk⟩
        rw [← hH]
        refine .sa (Env.key_lt (by rw [hkey]; simp)) (fun _ => rfl) (fun sz' m hk' => ?_) ⟨_, rfl⟩
        rw [hkey] at hk'
        simp only [List.length_singleton, Option.some.injEq, Key.c.injEq] at hk'
        obtain ⟨rfl, rfl⟩ := hk'
        exact ⟨Nat.le_refl _, fun _ => ⟨by omega, _, _, hq, rfl, g1, by omega, fun _ => by simp⟩⟩

theorem y_app0 (H : AppT P t t2 el sz bytes) (ty : TypeId) (hH : e.H = w.heap) (hr : HR e) {dx dy : DV} {vx vy : Value} (hvx : VR e dx vx) (hvy : VR e dy vy)
    (h : match (generalizing := false) elemsOf e.h sz dy, dx with
      | some ys, .p (.slice none 0 0) => ys.length * bytes ≤ 140737488355328 ∧ (ys = [] → K (.p (.slice none 0 0)) e.h) ∧ (ys ≠ [] → K (.sl e.h.length 0 ys.length ys.length) (e.h ++ [.cells sz ys]))
      | some ys, .sl b i n z => match e.h[b]? with
        | some (.cells bsz els) => z = els.length ∧ bsz = sz ∧ (n + ys.length) * bytes ≤ 140737488355328 ∧ i = 0 ∧ n ≤ els.length ∧ (n = els.length ∨ els.length < n + ys.length) ∧ K (.sl b 0 (n + ys.length) (n + ys.length)) (e.h.set b (.cells sz ((if n = els.length then els else els.take n) ++ ys)))
        | _ => False
      | _, _ => False) : Yields P (do pure (.value (← Builtin.append_ #[t, t2] ty #[vx, vy]))) w (After e w K) := by
  cases hel : elemsOf e.h sz dy with
  | none => rw [hel] at h; exact h.elim
  | some ys =>
    rw [hel] at h
    have hrd := elems_sound hr hvy hel
    obtain ⟨cs, vs, r1, r2, r3, r4, r5, r6⟩ := hrd.cells (P := P) w hH
    obtain ⟨cs', vs', r1', r2', r3', r4', r5', r6'⟩ := hrd.cells (P := P) w.drew hH
    have hlen := hrd.len (P := P) w
    -- a new row
    have fresh : ∀ (old : List Value) (oels : List DV) (ovs : Nat → Value) (cap : Nat) (rest : Array Value), oels.length + ys.length ≤ cap → rest.size = (cap - (oels.length + ys.length)) * sz → old.length = oels.length * sz →
        (∀ j (hj : j < oels.length), VR e oels[j] (ovs j)) → (∀ j, j < oels.length → (ovs j).cells.size = sz) → (∀ j, j < oels.length → Cells1 (ovs j)) → (∀ j, j < oels.length → ∀ k, k < sz → old[j * sz + k]? = (ovs j).cells[k]?) →
        let c := old.toArray ++ cs'.toArray ++ rest
        let nvs := fun j => if j < oels.length then ovs j else vs' (j - oels.length)
        c.size = cap * sz ∧ (∀ j (hj : j < (oels ++ ys).length), VR e (oels ++ ys)[j] (nvs j)) ∧ (∀ j, j < (oels ++ ys).length → (nvs j).cells.size = sz) ∧ (∀ j, j < (oels ++ ys).length → Cells1 (nvs j)) ∧
          (∀ j, j < (oels ++ ys).length → ∀ k, k < sz → c[j * sz + k]? = (nvs j).cells[k]?) := by
      intro old oels ovs cap rest hcap hrest hold o1 o2 o3 o4 c nvs
      have hcs : c.size = cap * sz := by
        simp only [c, Array.size_append, List.size_toArray, hold, r2', hrest, ← Nat.add_mul]
        congr 1
        omega
      refine ⟨hcs, fun j hj => ?_, fun j hj => ?_, fun j hj => ?_, fun j hj k hk => ?_⟩
      · simp only [nvs]
        by_cases hjo : j < oels.length
        · rw [List.getElem_append_left hjo, if_pos hjo]; exact o1 j hjo
        · rw [List.getElem_append_right (by omega), if_neg hjo]; exact r3' _ _
      · simp only [List.length_append] at hj
        simp only [nvs]
        split
        · exact o2 _ ‹_›
        · exact r4' _ (by omega)
      · simp only [List.length_append] at hj
        simp only [nvs]
        split
        · exact o3 _ ‹_›
        · exact r5' _ (by omega)
      · simp only [List.length_append] at hj
        simp only [nvs, c]
        by_cases hjo : j < oels.length
        · have hlt := mul_lt_add (m := 0) hjo hk
          rw [if_pos hjo, Array.append_assoc, Array.getElem?_append_left (by simpa [hold] using hlt)]
          simpa using o4 j hjo k hk
        · have hlt := mul_lt_add (m := 0) (show j - oels.length < ys.length by omega) hk
          have heq : j * sz = oels.length * sz + (j - oels.length) * sz := by rw [← Nat.add_mul]; congr 1; omega
          rw [if_neg hjo, Array.append_assoc, Array.getElem?_append_right (by simp [hold]; omega)]
          rw [Array.getElem?_append_left (by simp [hold, r2']; omega)]
          have := r6' (j - oels.length) (by omega) k hk
          simp only [List.size_toArray, hold]
          rw [show j * sz + k - oels.length * sz = (j - oels.length) * sz + k by omega]
          simpa using this
    cases dx with
    | p u =>
      obtain ⟨rfl, _⟩ := vr_p hvx
      cases vx with
      | slice a n c =>
        cases a with
        | some a => exact h.elim
        | none =>
        cases n with
        | succ n => exact h.elim
        | zero =>
        cases c with
        | succ c => exact h.elim
        | zero =>
        obtain ⟨hb, h1, h2⟩ := h
        by_cases hy : ys = []
        · subst hy
          have hcs : cs = [] := by simpa using r2
          refine y_pure ?_ hH hr (.p rfl) (h1 rfl)
          simp only [Sem.run_bind]
          rw [run_app_room H ty w none 0 0 0 vy hlen cs r1 (by omega) w (fun a h => by cases h) (fun _ => rfl)]
          rfl
        · have hpos : 0 < ys.length := List.length_pos_iff.2 hy
          obtain ⟨cap, rest, g1, g2, g3⟩ := run_app_grow H ty w none 0 0 ys.length vy hlen cs' [] r1' (by simp [Builtin.firstCells]) (by omega) (by simpa using hb)
          obtain ⟨f1, f2, f3, f4, f5⟩ := fresh [] [] (fun _ => undef) cap rest (by simpa using g1) (by simpa using g2) (by simp) (fun j hj => absurd hj (by simp)) (fun j hj => absurd hj (by simp)) (fun j hj => absurd hj (by simp)) (fun j hj => absurd hj (by simp))
          simp only [List.nil_append] at f2 f3 f4 f5
          have hle : ys.length * sz ≤ cap * sz := Nat.mul_le_mul_right _ (by simpa using g1)
          obtain ⟨ev, hr', hkey, hq⟩ := env_alloc hr sz ys _ el (0, 0) _ (by rw [f1]; exact hle) (fun k _ _ h => by simp at h) f2 f3 f4 f5
          unfold Yields
          simp only [Sem.run_bind, g3, Result.andThen_ok, Sem.run_pure]
          refine ⟨_, _, by rw [hH]; rfl, ⟨rfl, rfl, rfl⟩, hr', ev, ?_, h2 hy⟩
          rw [← hH]
          simp only [Nat.zero_add]
          exact vr_sl_new hkey hq (by simpa using g1) (by rw [f1]; exact Nat.le_refl _)
      | _ => exact h.elim
    | sl b i n z =>
      simp only at h
      cases hb : e.h[b]? with
      | none => rw [hb] at h; exact h.elim
      | some blk =>
      rw [hb] at h
      cases blk with
      | cells bsz els =>
        simp only at h
        obtain ⟨rfl, rfl, hbytes, rfl, hn, hor, hk⟩ := h
        have hkey : e.key b = some (.c bsz els.length) := Env.key_of hb
        obtain ⟨hi, hcase⟩ := vr_sl hvx hkey
        rw [show (if n = els.length then els else els.take n) = els.take n by split <;> simp [*]] at hk
        obtain ⟨E, hE⟩ : ∃ E, E = els.take n := ⟨_, rfl⟩
        rw [← hE] at hk
        have hEn : n = E.length := by rw [hE]; simp; omega
        have hEg : ∀ j (hj : j < E.length), E[j] = els[j]'(by omega) := by intro j hj; simp [hE]
        have hEe : E.length = els.length → E = els := by intro h; rw [hE, hEn, h]; simp
        clear hE
        subst hEn
        have moved : ∀ (old : List Value) (ovs : Nat → Value) (base : Option Addr) (c0 : Nat), vx = .slice base E.length c0 → ¬ E.length + ys.length ≤ c0 → 0 < ys.length → (Builtin.firstCells bsz E.length (.slice base E.length c0)).run P w.drew = .ok old.toArray w.drew → old.length = E.length * bsz →
            (∀ j (hj : j < E.length), VR e E[j] (ovs j)) → (∀ j, j < E.length → (ovs j).cells.size = bsz) → (∀ j, j < E.length → Cells1 (ovs j)) → (∀ j, j < E.length → ∀ k, k < bsz → old[j * bsz + k]? = (ovs j).cells[k]?) →
            Yields P (do pure (.value (← Builtin.append_ #[t, t2] ty #[vx, vy]))) w (After e w K) := by
          rintro old ovs base c0 rfl hgr hpos hold h2 h3 h4 h5 h6
          obtain ⟨cap, rest, g1, g2, g3⟩ := run_app_grow H ty w base E.length c0 ys.length vy hlen cs' old r1' hold hgr hbytes
          obtain ⟨f1, f2, f3, f4, f5⟩ := fresh old E ovs cap rest g1 g2 h2 h3 h4 h5 h6
          have hle : (E.length + ys.length) * bsz ≤ cap * bsz := Nat.mul_le_mul_right _ g1
          obtain ⟨ev, hr'⟩ := env_set hr b (.c bsz els.length) (.c bsz (E.length + ys.length)) hkey (.cells bsz (E ++ ys)) (by simp [Blk.key]) (by simp [Key.le]; omega) (some (w.heap.size, cap * bsz)) (fun h => by simp at h; omega)
            (w.heap.push (.cells (old.toArray ++ cs'.toArray ++ rest) el (0, 0))) (by rw [hH]; simp) (fun r hr _ => by rw [hH] at hr ⊢; simp [Array.getElem?_push, Nat.ne_of_lt hr]) (fun q0 h => by cases h; exact .inr (by rw [hH]; exact Nat.le_refl _)) (fun _ _ _ h => by rw [hkey] at h; cases h)
          unfold Yields
          simp only [Sem.run_bind, g3, Result.andThen_ok, Sem.run_pure]
          refine ⟨_, _, rfl, ⟨rfl, rfl, rfl⟩, hr' ?_, ev, ?_, hk⟩
          · exact .cells (w.heap.size, cap * bsz) _ el (0, 0) _ (upd_same _ _ _) (by simp) f1 (by simpa using hle) (fun k _ _ h => by simp at h) (fun j hj => (f2 j hj).mono ev) f3 f4 f5
          · refine vr_sl_new (r := w.heap.size) (C := cap * bsz) (sz := bsz) ?_ (upd_same _ _ _) g1 (Nat.le_refl _)
            simp [Env.key, Env.key_lt (show e.key b ≠ none by rw [hkey]; simp), Blk.key]
        rcases hcase with ⟨hq, hvn⟩ | ⟨q, a, cap, hq, hvs, hc, hC, ha⟩
        · have h0 : E.length = 0 := by
            obtain ⟨_, _, h2⟩ := vr_sl_n hvx
            rw [hvn] at h2
            injection h2 with _ h3
            exact h3.symm
          by_cases hy : ys = []
          · subst hy
            have hcs : cs = [] := by simpa using r2
            have hEE := hEe (by simp at hor; omega)
            have hset : e.h.set b (.cells bsz (E ++ [])) = e.h := by
              rw [hEE, List.append_nil]
              apply List.ext_getElem?
              intro j
              by_cases hj : j = b
              · subst hj; rw [List.getElem?_set_self (Env.key_lt (by rw [hkey]; simp)), hb]
              · rw [List.getElem?_set_ne (Ne.symm hj)]
            rw [hset] at hk
            simp only [List.length_nil, Nat.add_zero] at hk
            refine y_pure ?_ hH hr hvx (by rw [← hEE]; exact hk)
            rw [hvn]
            simp only [Sem.run_bind]
            rw [run_app_room H ty w none 0 0 0 vy hlen cs r1 (by omega) w (fun a h => by cases h) (fun _ => rfl)]
            rfl
          · have hpos : 0 < ys.length := List.length_pos_iff.2 hy
            have hEls : E = [] := List.eq_nil_of_length_eq_zero h0
            exact moved [] (fun _ => undef) none 0 (by rw [h0]; exact hvn) (by omega) hpos (by simp [Builtin.firstCells]) (by simp [h0]) (fun j hj => absurd hj (by omega)) (fun j hj => absurd hj (by omega)) (fun j hj => absurd hj (by omega)) (fun j hj => absurd hj (by omega))
        · obtain ⟨c, T, fr, ovs, hh, hcs, hl, hf, hvs', hvsz, h1, hcell⟩ := hr.cells hb hq
          replace hvs' : ∀ j (hj : j < E.length), VR e E[j] (ovs j) := fun j hj => by rw [hEg j hj]; exact hvs' j (by omega)
          replace hvsz := fun j (hj : j < E.length) => hvsz j (by omega)
          replace h1 := fun j (hj : j < E.length) => h1 j (by omega)
          replace hcell := fun j (hj : j < E.length) => hcell j (by omega)
          replace hl : E.length * bsz ≤ q.2 := Nat.le_trans (Nat.mul_le_mul_right _ hn) hl
          by_cases hroom : E.length + ys.length ≤ cap
          · -- in place
            by_cases hy : ys = []
            · subst hy
              have hcs : cs = [] := by simpa using r2
              subst hcs
              have hEE := hEe (by simp at hor; omega)
              have hEE := hEe (by simp at hor; omega)
              have hset : e.h.set b (.cells bsz (E ++ [])) = e.h := by
                rw [hEE, List.append_nil]
                apply List.ext_getElem?
                intro j
                by_cases hj : j = b
                · subst hj; rw [List.getElem?_set_self (Env.key_lt (by rw [hkey]; simp)), hb]
                · rw [List.getElem?_set_ne (Ne.symm hj)]
              rw [hset] at hk
              simp only [List.length_nil, Nat.add_zero] at hk
              refine y_pure ?_ hH hr hvx (by rw [← hEE]; exact hk)
              rw [hvs]
              simp only [Sem.run_bind]
              rw [run_app_room H ty w (some a) E.length cap 0 vy hlen [] r1 (by omega) w (fun a h => rfl) (fun h => rfl)]
              rfl
            · have hpos : 0 < ys.length := List.length_pos_iff.2 hy
              obtain rfl := ha (by omega)
              have hroom' : (E.length + ys.length) * bsz ≤ cap * bsz := Nat.mul_le_mul_right _ hroom
              rw [Nat.add_mul] at hroom'
              simp only [Nat.zero_add] at hC
              obtain ⟨w', c', e1, e2, e3, e4, e5, e6⟩ := run_storeCells (P := P) q.1 T fr cs (E.length * bsz) 0 w c (by rw [← hH]; exact hh) (by rw [hcs, r2]; omega) (fun k _ hk => hf k (by rw [r2] at hk; omega) (.inr (by rw [r2] at hk; omega))) (fun y hy => by
                obtain ⟨j, hj, rfl⟩ := List.getElem_of_mem hy
                rw [r2] at hj
                have hs0 : 0 < bsz := by
                  rcases Nat.eq_zero_or_pos bsz with h | h
                  · subst h; simp at hj
                  · exact h
                have h2 := Nat.div_add_mod j bsz
                have h3 : j / bsz < ys.length := (Nat.div_lt_iff_lt_mul hs0).2 hj
                have h4 : j % bsz < bsz := Nat.mod_lt _ hs0
                have h5 := r6 (j / bsz) h3 (j % bsz) h4
                rw [Nat.mul_comm, h2] at h5
                rw [List.getElem?_eq_getElem (by rw [r2]; exact hj), Array.getElem?_eq_getElem (by rw [r4 _ h3]; exact h4)] at h5
                rw [Option.some.inj h5]
                exact r5 _ h3 _ _)
              simp only [Nat.add_zero] at e5
              obtain ⟨ev, hr'⟩ := env_set hr b (.c bsz els.length) (.c bsz (E.length + ys.length)) hkey (.cells bsz (E ++ ys)) (by simp [Blk.key]) (by simp [Key.le]; omega) (some q) (fun _ => hq.symm)
                w'.heap (by rw [e3, hH]; exact Nat.le_refl _) (fun r _ hne => by rw [e6 r (fun h => hne q hq h.symm), hH]) (fun q0 h => by cases h; exact .inl ⟨q, hq, rfl⟩) (fun _ _ _ h => by rw [hkey] at h; cases h)
              have hrun := run_app_room H ty w (some ⟨q.1, 0 * bsz, none⟩) E.length cap ys.length vy hlen cs r1 hroom w' (fun a h => by cases h; rw [add_plain]; simpa using e1) (fun h => by cases h)
              unfold Yields
              rw [hvs]
              simp only [Sem.run_bind, hrun, Result.andThen_ok, Sem.run_pure]
              refine ⟨_, _, rfl, e2, hr' ?_, ev, ?_, hk⟩
              · refine .cells q c' T fr (fun j => if j < E.length then ovs j else vs (j - E.length)) (upd_same _ _ _) e4 (by rw [e5.size]; exact hcs) (by simp only [List.length_append, Nat.add_mul]; omega) hf (fun j hj => ?_) (fun j hj => ?_) (fun j hj => ?_) (fun j hj k hkb => ?_)
                · by_cases hjo : j < E.length
                  · rw [List.getElem_append_left hjo]; simp only [hjo, if_true]; exact (hvs' j hjo).mono ev
                  · rw [List.getElem_append_right (by omega)]; simp only [hjo, if_false]; exact (r3 _ _).mono ev
                · simp only [List.length_append] at hj
                  split
                  · exact hvsz _ ‹_›
                  · exact r4 _ (by omega)
                · simp only [List.length_append] at hj
                  split
                  · exact h1 _ ‹_›
                  · exact r5 _ (by omega)
                · simp only [List.length_append] at hj
                  by_cases hjo : j < E.length
                  · have hlt := mul_lt_add (m := 0) hjo hkb
                    simp only [hjo, if_true]
                    rw [e5.old _ (.inl hlt)]
                    exact hcell j hjo k hkb
                  · have hlt := mul_lt_add (m := 0) (show j - E.length < ys.length by omega) hkb
                    have heq : j * bsz = E.length * bsz + (j - E.length) * bsz := by rw [← Nat.add_mul]; congr 1; omega
                    simp only [hjo, if_false]
                    rw [heq, Nat.add_assoc, e5.new _ (by rw [r2]; exact hlt)]
                    exact r6 _ (by omega) k hkb
              · rw [show (⟨q.1, 0 * bsz, none⟩ : Addr) = ⟨q.1, 0, none⟩ by simp]
                refine vr_sl_new (r := q.1) (C := q.2) (sz := bsz) ?_ (upd_same _ _ _) hroom hC
                simp [Env.key, Env.key_lt (show e.key b ≠ none by rw [hkey]; simp), Blk.key]
          · have hpos : 0 < ys.length := by omega
            refine moved (c.toList.take (E.length * bsz)) ovs (some a) cap hvs hroom hpos ?_ (by simp; omega) hvs' hvsz h1 (fun j hj k hkb => ?_)
            · by_cases hn : E.length = 0
              · simp [Builtin.firstCells, hn, loadCells, loadCellsFrom]
              · obtain rfl := ha (by omega)
                simp only [Builtin.firstCells]
                have := run_cells (P := P) w.drew q.1 (0 * bsz) (c.toList.take (E.length * bsz)) (fun k hk => by
                  simp at hk
                  simp only [World.drew, ← hH, cellAt, hh]
                  simp [show k < c.size by omega])
                rw [show (c.toList.take (E.length * bsz)).length = E.length * bsz by simp; omega] at this
                exact this
            · have hlt := mul_lt_add (m := 0) hj hkb
              rw [List.getElem?_take, if_pos hlt]
              simpa using hcell j hj k hkb
      | _ => exact h.elim
    | _ => exact h.elim

theorem y_app (H : AppT P t t2 el sz bytes) (ty : TypeId) (hH : e.H = w.heap) (hr : HR e) {dx dy : DV} {vx vy : Value} (hvx : VR e dx vx) (hvy : VR e dy vy)
    (h : match (generalizing := false) elemsOf e.h sz dy, dx with
      | some ys, .p (.slice none 0 0) => ys.length * bytes ≤ 140737488355328 ∧ (ys = [] → K (.p (.slice none 0 0)) e.h) ∧ (ys ≠ [] → K (.sl e.h.length 0 ys.length ys.length) (e.h ++ [.cells sz ys]))
      | some ys, .sl b i n z => match e.h[b]? with
        | some (.cells bsz els) => z = els.length ∧ bsz = sz ∧ (n + ys.length) * bytes ≤ 140737488355328 ∧ i = 0 ∧ n ≤ els.length ∧
          (if n = els.length ∨ els.length < n + ys.length then K (.sl b 0 (n + ys.length) (n + ys.length)) (e.h.set b (.cells sz ((if n = els.length then els else els.take n) ++ ys)))
          else K (.sl b 0 (n + ys.length) els.length) (e.h.set b (.cells sz (els.take n ++ ys ++ els.drop (n + ys.length)))))
        | _ => False
      | _, _ => False) : Yields P (do pure (.value (← Builtin.append_ #[t, t2] ty #[vx, vy]))) w (After e w K) := by
  refine Classical.byCases (p := ∃ ys b i n z bsz els, elemsOf e.h sz dy = some ys ∧ dx = .sl b i n z ∧ e.h[b]? = some (.cells bsz els) ∧ ¬ (n = els.length ∨ els.length < n + ys.length)) (fun hx => ?_) (fun hx => ?_)
  · obtain ⟨ys, b, i, n, z, bsz, els, hel, rfl, hb, hc⟩ := hx
    rw [hel] at h
    simp only [hb] at h
    rw [if_neg hc] at h
    obtain ⟨rfl, rfl, hbytes, rfl, hn, hk⟩ := h
    have hc1 : n < els.length := by
      rcases Nat.lt_or_ge n els.length with h | h
      · exact h
      · exact absurd (.inl (Nat.le_antisymm hn h)) hc
    have hc2 : n + ys.length ≤ els.length := Nat.le_of_not_lt fun h => hc (.inr h)
    have hrd := elems_sound hr hvy hel
    obtain ⟨cs, vs, r1, r2, r3, r4, r5, r6⟩ := hrd.cells (P := P) w hH
    have hlen := hrd.len (P := P) w
    have hkey : e.key b = some (.c bsz els.length) := Env.key_of hb
    obtain ⟨hi, hcase⟩ := vr_sl hvx hkey
    rcases hcase with ⟨hq, hvn⟩ | ⟨q, a, cap, hq, hvs, hcap, hC, ha⟩
    · have hbr := hr.blk b _ hb
      cases hbr with
      | nil _ => simp at hc1
      | cells q _ _ _ _ hq' => rw [hq] at hq'; cases hq'
    · obtain ⟨c, T, fr, ovs, hh, hcs, hl, hf, hvs', hvsz, h1, hcell⟩ := hr.cells hb hq
      obtain rfl := ha (by omega)
      simp only [Nat.zero_add] at hC hcap
      have hroom : n + ys.length ≤ cap := by omega
      have hle1 : (n + ys.length) * bsz ≤ els.length * bsz := Nat.mul_le_mul_right _ hc2
      rw [Nat.add_mul] at hle1
      obtain ⟨w', c', e1, e2, e3, e4, e5, e6⟩ := run_storeCells (P := P) q.1 T fr cs (n * bsz) 0 w c (by rw [← hH]; exact hh) (by rw [hcs, r2]; omega) (fun k _ hk => hf k (by rw [r2] at hk; omega) (.inr (by rw [r2] at hk; omega))) (fun y hy => by
        obtain ⟨j, hj, rfl⟩ := List.getElem_of_mem hy
        rw [r2] at hj
        have hs0 : 0 < bsz := by
          rcases Nat.eq_zero_or_pos bsz with h | h
          · subst h; simp at hj
          · exact h
        have h2 := Nat.div_add_mod j bsz
        have h3 : j / bsz < ys.length := (Nat.div_lt_iff_lt_mul hs0).2 hj
        have h4 : j % bsz < bsz := Nat.mod_lt _ hs0
        have h5 := r6 (j / bsz) h3 (j % bsz) h4
        rw [Nat.mul_comm, h2] at h5
        rw [List.getElem?_eq_getElem (by rw [r2]; exact hj), Array.getElem?_eq_getElem (by rw [r4 _ h3]; exact h4)] at h5
        rw [Option.some.inj h5]
        exact r5 _ h3 _ _)
      simp only [Nat.add_zero] at e5
      obtain ⟨E, hE⟩ : ∃ E, E = els.take n ++ ys ++ els.drop (n + ys.length) := ⟨_, rfl⟩
      have hEl : E.length = els.length := by rw [hE]; simp; omega
      rw [← hE] at hk
      have hEg : ∀ j (hj : j < E.length), (j < n → E[j] = els[j]'(by omega)) ∧ (∀ hj2 : n ≤ j ∧ j < n + ys.length, E[j] = ys[j - n]'(by omega)) ∧ (n + ys.length ≤ j → E[j] = els[j]'(by omega)) := by
        intro j hj
        subst hE
        refine ⟨fun h => ?_, fun h => ?_, fun h => ?_⟩
        · rw [List.getElem_append_left (by simp; omega), List.getElem_append_left (by simp; omega)]; simp
        · rw [List.getElem_append_left (by simp; omega), List.getElem_append_right (by simp; omega)]
          simp [show min n els.length = n by omega]
        · rw [List.getElem_append_right (by simp; omega)]
          simp only [List.length_append, List.length_take, List.getElem_drop]
          congr 1
          omega
      obtain ⟨ev, hr'⟩ := env_set hr b (.c bsz els.length) (.c bsz els.length) hkey (.cells bsz E) (by simp [Blk.key, hEl]) (Key.le_refl _) (some q) (fun _ => hq.symm)
        w'.heap (by rw [e3, hH]; exact Nat.le_refl _) (fun r _ hne => by rw [e6 r (fun h => hne q hq h.symm), hH]) (fun q0 h => by cases h; exact .inl ⟨q, hq, rfl⟩) (fun _ _ _ h => by rw [hkey] at h; cases h)
      have hrun := run_app_room H ty w (some ⟨q.1, 0 * bsz, none⟩) n cap ys.length vy hlen cs r1 hroom w' (fun a h => by cases h; rw [add_plain]; simpa using e1) (fun h => by cases h)
      unfold Yields
      rw [hvs]
      simp only [Sem.run_bind, hrun, Result.andThen_ok, Sem.run_pure]
      refine ⟨_, _, rfl, e2, hr' ?_, ev, ?_, hk⟩
      · refine .cells q c' T fr (fun j => if n ≤ j ∧ j < n + ys.length then vs (j - n) else ovs j) (upd_same _ _ _) e4 (by rw [e5.size]; exact hcs) (by rw [hEl]; exact hl) hf (fun j hj => ?_) (fun j hj => ?_) (fun j hj => ?_) (fun j hj k hkb => ?_)
        · obtain ⟨g1, g2, g3⟩ := hEg j hj
          by_cases hj2 : n ≤ j ∧ j < n + ys.length
          · rw [g2 hj2]; simp only [hj2, and_self, if_true]; exact (r3 _ _).mono ev
          · simp only [hj2, if_false]
            by_cases hj3 : j < n
            · rw [g1 hj3]; exact (hvs' j (by omega)).mono ev
            · rw [g3 (by omega)]; exact (hvs' j (by omega)).mono ev
        · split
          · exact r4 _ (by omega)
          · exact hvsz _ (by omega)
        · split
          · exact r5 _ (by omega)
          · exact h1 _ (by omega)
        · by_cases hj2 : n ≤ j ∧ j < n + ys.length
          · have hlt := mul_lt_add (m := 0) (show j - n < ys.length by omega) hkb
            have heq : j * bsz = n * bsz + (j - n) * bsz := by rw [← Nat.add_mul]; congr 1; omega
            simp only [hj2, and_self, if_true]
            rw [heq, Nat.add_assoc, e5.new _ (by rw [r2]; exact hlt)]
            exact r6 _ (by omega) k hkb
          · simp only [hj2, if_false]
            rw [e5.old _ ?_]
            · exact hcell j (by omega) k hkb
            · rw [r2]
              by_cases hj3 : j < n
              · have hlt := mul_lt_add (m := 0) hj3 hkb
                omega
              · have := Nat.mul_le_mul_right bsz (show n + ys.length ≤ j by omega)
                rw [Nat.add_mul] at this
                omega
      · rw [show (⟨q.1, 0 * bsz, none⟩ : Addr) = ⟨q.1, 0, none⟩ by simp]
        refine .sl (Env.key_lt (e := ⟨upd e.ρ b (some q), e.h.set b (.cells bsz E), w'.heap, e.pv⟩) (by simp [Env.key, Env.key_lt (show e.key b ≠ none by rw [hkey]; simp), Blk.key])) (fun sz' m hk' => ?_) ⟨_, _, rfl⟩
        have hk2 : Env.key ⟨upd e.ρ b (some q), e.h.set b (.cells bsz E), w'.heap, e.pv⟩ b = some (.c bsz els.length) := by
          simp [Env.key, Env.key_lt (show e.key b ≠ none by rw [hkey]; simp), Blk.key, hEl]
        rw [hk2] at hk'
        simp only [Option.some.injEq, Key.c.injEq] at hk'
        obtain ⟨rfl, rfl⟩ := hk'
        exact ⟨Nat.le_refl _, fun _ => ⟨by omega, .inr ⟨q, _, cap, upd_same _ _ _, rfl, by omega, by simpa using hC, fun _ => by simp⟩⟩⟩
  · refine y_app0 H ty hH hr hvx hvy ?_
    split at h
    · exact h
    · rename_i ys b i n z hel
      cases hb : e.h[b]? with
      | none => rw [hb] at h; exact h.elim
      | some blk =>
        rw [hb] at h
        cases blk with
        | cells bsz els =>
          simp only at h ⊢
          obtain ⟨g1, g2, g3, g4, g5, g6⟩ := h
          have hc : n = els.length ∨ els.length < n + ys.length := Classical.not_not.1 fun hn => hx ⟨ys, b, i, n, z, bsz, els, hel, rfl, hb, hn⟩
          rw [if_pos hc] at g6
          exact ⟨g1, g2, g3, g4, g5, hc, g6⟩
        | _ => exact h.elim
    · exact h.elim

end
end Go.Den

namespace Go.Den
open Go

/-- Parts in their order, from m on. -/
def consec {α : Type} : Nat → List (Nat × α) → Bool
  | _, [] => true
  | m, p :: l => p.1 == m && consec (m + 1) l

theorem lit_fill (sz : Nat) : ∀ (l : List (Nat × Value)) (m : Nat) (c : Array Value), consec m l = true → (∀ p, p ∈ l → p.2.cells.size = sz) → (m + l.length) * sz ≤ c.size →
    ∃ c', Instr.fill (fun i => some (i * sz, sz)) c l = some c' ∧ c'.size = c.size ∧ (∀ i, i < m * sz → c'[i]? = c[i]?) ∧ ∀ j (hj : j < l.length), ∀ k, k < sz → c'[(m + j) * sz + k]? = l[j].2.cells[k]?
  | [], m, c, _, _, _ => ⟨c, rfl, rfl, fun _ _ => rfl, fun j hj => absurd hj (by simp)⟩
  | (i, v) :: l, m, c, hm, hs, hb => by
    simp only [consec, Bool.and_eq_true, beq_iff_eq] at hm
    obtain ⟨rfl, hm⟩ := hm
    have hv := hs (i, v) (by simp)
    simp only at hv
    simp only [List.length_cons] at hb
    have hb1 : (i + 1) * sz ≤ (i + (l.length + 1)) * sz := Nat.mul_le_mul_right _ (by omega)
    have hb2 : (i + 1) * sz = i * sz + sz := Nat.succ_mul i sz
    let c1 := v.cells.zipIdx.foldl (fun (cs : Array Value) (cj : Value × Nat) => cs.setIfInBounds (i * sz + cj.2) cj.1) c
    have hc1 : c1 = ((v.cells.toList.zipIdx 0).foldl (fun cs p => cs.setIfInBounds (i * sz + p.2) p.1) c) := by
      simp only [c1]
      rw [← Array.foldl_toList, Array.toList_zipIdx]
    have hs1 : c1.size = c.size := by rw [hc1]; exact foldl_set_size _ _ _ _
    have hg1 : ∀ k, c1[k]? = if i * sz ≤ k ∧ k < i * sz + sz then v.cells[k - i * sz]? else c[k]? := fun k => by
      rw [hc1, foldl_set_get _ 0 (i * sz) c (by simp [hv]; omega) k]
      simp [hv]
    obtain ⟨c', h1, h2, h3, h4⟩ := lit_fill sz l (i + 1) c1 hm (fun p hp => hs p (by simp [hp])) (by rw [hs1]; rw [show i + 1 + l.length = i + (l.length + 1) by omega]; exact hb)
    refine ⟨c', ?_, by rw [h2, hs1], fun k hk => ?_, fun j hj k hk => ?_⟩
    · simp only [Instr.fill]
      rw [if_neg (by simp; omega)]
      exact h1
    · rw [h3 k (by omega), hg1, if_neg (by omega)]
    · cases j with
      | zero =>
        rw [h3 _ (by simp; omega), hg1, if_pos (by simp; omega)]
        simp
      | succ j =>
        have := h4 j (by simpa using hj) k hk
        rw [show i + (j + 1) = i + 1 + j by omega]
        simpa using this

section
variable {P : Program} {e : Env} {w : World} {K : DV → List Blk → Prop}

/-- A slice's literal. -/
theorem y_lit {t el : TypeId} {sz : Nat} (hu : P.underlying t = some (.slice el)) (hi : ∃ i, P.info? el = some i ∧ i.size = sz ∧ i.zero.isSome = true) {n : Nat} (hn : n * sz ≤ 16777216) {ev : Opd → DV} {re : Operand → Value} (hev : ∀ x, VR e (ev (cOpd x)) (re x))
    (parts : Array (Nat × Operand)) (hp : consec 0 parts.toList = true) (hpn : parts.size = n) (hH : e.H = w.heap) (hr : HR e)
    (h : (∀ x, x ∈ parts.toList.map (fun p => cOpd p.2) → (ev x).size = sz ∧ (ev x).storable = true) ∧ K (.sl e.h.length 0 n n) (e.h ++ [.cells sz ((parts.toList.map (fun p => cOpd p.2)).map ev)])) :
    Yields P (do pure (.value (← Instr.buildSlice t n (parts.map fun (i, x) => (i, re x))))) w (After e w K) := by
  obtain ⟨i, hi1, hi2, hi3⟩ := hi
  obtain ⟨z, hz⟩ := Option.isSome_iff_exists.1 hi3
  obtain ⟨hall, hk⟩ := h
  have hs : ∀ w, (sizeOf el).run P w = .ok sz w := fun w => by simp [sizeOf, typeInfo, hi1, hi2]
  have hzv : ∀ w, (zeroValue el).run P w = .ok z w := fun w => by simp [zeroValue, typeInfo, hi1, hz]
  let vl : List (Nat × Value) := parts.toList.map fun p => (p.1, re p.2)
  have hvl : vl.length = n := by simp [vl, hpn]
  have hcon : consec 0 vl = true := by
    have gen : ∀ (l : List (Nat × Operand)) m, consec m l = true → consec m (l.map fun p => (p.1, re p.2)) = true := by
      intro l
      induction l with
      | nil => intro m _; rfl
      | cons p l ih =>
        intro m h
        simp only [consec, Bool.and_eq_true] at h
        simp only [List.map_cons, consec, Bool.and_eq_true]
        exact ⟨h.1, ih _ h.2⟩
    exact gen _ 0 hp
  have hone : ∀ j (hj : j < n), VR e (ev (cOpd (parts[j]'(by omega)).2)) (vl[j]'(by omega)).2 ∧ (ev (cOpd (parts[j]'(by omega)).2)).size = sz ∧ (ev (cOpd (parts[j]'(by omega)).2)).storable = true := by
    intro j hj
    have hmem : cOpd (parts[j]'(by omega)).2 ∈ parts.toList.map (fun p => cOpd p.2) := List.mem_map.2 ⟨parts[j]'(by omega), by simp, rfl⟩
    refine ⟨?_, hall _ hmem⟩
    simp only [vl, List.getElem_map, Array.getElem_toList]
    exact hev _
  have hsize : ∀ p, p ∈ vl → p.2.cells.size = sz := by
    intro p hp
    obtain ⟨j, hj, rfl⟩ := List.getElem_of_mem hp
    obtain ⟨h1, h2, h3⟩ := hone j (by omega)
    rw [vr_size h1 h3, h2]
  let c0 : Array Value := (Array.range (n * sz)).map fun k => (if n * sz = 0 then (#[] : Array Value) else z.cells)[k % (if n * sz = 0 then (#[] : Array Value) else z.cells).size]!
  obtain ⟨c', e1, e2, _, e4⟩ := lit_fill sz vl 0 c0 hcon hsize (by simp [c0, hvl])
  have hcsz : c'.size = n * sz := by rw [e2]; simp [c0]
  have hrun : (Instr.buildSlice t n (parts.map fun (i, x) => (i, re x))).run P w = .ok (.slice (some ⟨w.heap.size, 0, none⟩) n n) (w.alloc (.cells c' el)) := by
    have e1' : Instr.fill (fun i => some (i * sz, sz)) c0 (parts.map fun (i, x) => (i, re x)).toList = some c' := by
      simpa [vl] using e1
    simp only [Instr.buildSlice, Sem.run_bind, run_underlying hu, Result.andThen_ok, hs]
    have hn24 : ¬ n * sz > 2 ^ 24 := by omega
    rw [if_neg hn24]
    by_cases h0 : n * sz = 0
    · simp only [c0, if_pos h0] at e1'
      rw [if_pos h0, Sem.run_bind, Sem.run_pure, Result.andThen_ok, e1']
      simp [newRow]
    · simp only [c0, if_neg h0] at e1'
      rw [if_neg h0, Sem.run_bind, hzv, Result.andThen_ok, Sem.run_bind, Sem.run_pure, Result.andThen_ok, e1']
      simp [newRow]
  have hlen : ((parts.toList.map (fun p => cOpd p.2)).map ev).length = n := by simp [hpn]
  obtain ⟨ev', hr', hkey, hq⟩ := env_alloc hr sz ((parts.toList.map (fun p => cOpd p.2)).map ev) c' el (0, 0) (fun j => (vl.getD j (0, undef)).2) (by rw [hlen, hcsz]; exact Nat.le_refl _) (fun k _ _ h => by simp at h)
    (fun j hj => by
      rw [hlen] at hj
      have := (hone j hj).1
      simp only [List.getD, List.getElem?_eq_getElem (show j < vl.length by omega), Option.getD_some]
      simpa using this)
    (fun j hj => by
      rw [hlen] at hj
      simp only [List.getD, List.getElem?_eq_getElem (show j < vl.length by omega), Option.getD_some]
      exact hsize _ (List.getElem_mem _))
    (fun j hj => by
      rw [hlen] at hj
      obtain ⟨h1, h2, h3⟩ := hone j hj
      simp only [List.getD, List.getElem?_eq_getElem (show j < vl.length by omega), Option.getD_some]
      exact h1.cells1 h3)
    (fun j hj k hk => by
      rw [hlen] at hj
      have := e4 j (by omega) k hk
      simp only [Nat.zero_add] at this
      simp only [List.getD, List.getElem?_eq_getElem (show j < vl.length by omega), Option.getD_some]
      exact this)
  unfold Yields
  simp only [Sem.run_bind, hrun, Result.andThen_ok, Sem.run_pure]
  refine ⟨_, _, by rw [hH]; rfl, ⟨rfl, rfl, rfl⟩, hr', ev', ?_, hk⟩
  rw [← hH]
  rw [hlen] at hkey
  exact vr_sl_new hkey hq (Nat.le_refl _) (by rw [hcsz]; exact Nat.le_refl _)

theorem y_s2b {src dst el : TypeId} (hs : P.underlying src = some .string) (hd : P.underlying dst = some (.slice el)) (he : P.underlying el = some (.int .u8)) (hH : e.H = w.heap) (hr : HR e) {s : ByteArray}
    (hk : K (.fz 1 (bytesD s)) e.h) : Yields P (do pure (.value (← convert src dst (.string s)))) w (After e w K) := by
  have hcap := grownCap_ge w s.size 0 el
  let cap := grownCap w s.size 0 el
  let c : Array Value := (s.data.map fun b => Value.int .u8 b.toNat) ++ Array.replicate (cap - s.size) (.int .u8 0)
  have hc : c.size = cap := by simp [c]; show s.size + (cap - s.size) = cap; omega
  have hrun : (convert src dst (.string s)).run P w = .ok (.slice (some ⟨w.heap.size, 0, none⟩) s.size cap) { w.drew with heap := w.heap.push (.cells c el (cap, cap + 1)) } := by
    simp only [convert, Sem.run_bind, run_underlying hs, run_underlying hd, run_underlying he, Result.andThen_ok, Conv.stringToBytes, run_choose, Question.forced, Bool.false_eq_true, if_false, newRow, run_newObj, Sem.run_pure, markStringish, run_shape]
    let W1 : World := ⟨w.heap.push (.cells c el), w.tape, w.drawn + 1, w.os, w.output⟩
    have hsh : W1.shape? w.heap.size = some (el, cap) := by simp [W1, World.shape?, hc]
    have hfr : W1.freeze ⟨w.heap.size, cap, none⟩ 1 = { w.drew with heap := w.heap.push (.cells c el (cap, cap + 1)) } := by
      simp only [World.freeze, Nat.one_ne_zero, if_false, W1]
      refine congrArg (fun h => (⟨h, w.tape, w.drawn + 1, w.os, w.output⟩ : World)) ?_
      apply Array.ext_getElem?
      intro i
      simp only [Array.getElem?_modify, Array.getElem?_push]
      by_cases hi : i = w.heap.size
      · subst hi; simp
      · rw [if_neg (Ne.symm hi), if_neg hi, if_neg hi]
    show ((Sem.run P (match W1.shape? w.heap.size with | some (_, n) => freeze ⟨w.heap.size, n, none⟩ 1 | _ => pure ()) W1).andThen fun a w' => Result.ok (Value.slice (some ⟨w.heap.size, 0, none⟩) s.size cap) w') = _
    rw [hsh]
    simp only [run_freeze, hfr, Result.andThen_ok]
  have hbl : (bytesD s).length = s.size := by simp [bytesD]
  have hmem : ∀ r, r < e.H.size → (e.H.push (.cells c el (cap, cap + 1)))[r]? = e.H[r]? := fun r h => by simp [Array.getElem?_push, Nat.ne_of_lt h]
  have ev : Ev e.h.length e ⟨e.ρ, e.h, e.H.push (.cells c el (cap, cap + 1)), e.pv⟩ := ⟨Nat.le_refl _, by simp, fun r hr' => ⟨⟨by have := hr'.1; simp; omega, hr'.2⟩, hmem r hr'.1⟩, fun b hb k' hk => ⟨k', hk, Key.le_refl _, fun _ => rfl⟩, rfl, fun r h => hmem r (hr.pvs r h)⟩
  have hr' : HR ⟨e.ρ, e.h, e.H.push (.cells c el (cap, cap + 1)), e.pv⟩ := ⟨hr.inj, fun b k hb => (hr.blk b k hb).keep (fun hk => by rw [Env.key_of (e := e) hb]; exact hk) (fun _ _ _ _ => rfl) (Env.key_of hb) (Nat.le_refl _) (fun m l _ _ h => h) (fun c q _ hk hq => hmem _ (hr.lt hk hq)) (fun d v h => h.mono ev), fun r h => by have := hr.pvs r h; simp; omega, hr.pvl⟩
  have key := VR.fz (e := ⟨e.ρ, e.h, e.H.push (.cells c el (cap, cap + 1)), e.pv⟩) (sz := 1) (l := bytesD s) (a := ⟨e.H.size, 0, none⟩) (cap := cap) (fun j => .int .u8 (s.data.toList.getD j 0).toNat) rfl (by rw [hbl]; exact hcap)
    ⟨by simp, fun b q hk hq => by have := hr.lt hk hq; simp only; omega, fun h => Nat.lt_irrefl _ (hr.pvs _ h)⟩
    (fun j hj => by
      simp only [bytesD, List.getElem_map, byteD]
      simp only [bytesD, List.length_map] at hj
      simp only [List.getD, List.getElem?_eq_getElem hj, Option.getD_some]
      exact .p rfl) (fun _ _ => rfl) (fun j hj i hi => by
      have : i = 0 := by simp only [Value.cells] at hi; simpa using hi
      subst this
      rfl) (fun j hj k hk => by
      obtain rfl : k = 0 := by omega
      simp only [bytesD, List.length_map] at hj
      have hj' : j < s.data.size := by simpa using hj
      simp only [Nat.mul_one, Nat.add_zero, Nat.zero_add, cellAt, Array.getElem?_push, if_true, c]
      rw [Array.getElem?_append_left (by simpa using hj')]
      simp only [Array.getElem?_map, Value.cells, List.getD, Array.getElem?_toList, Array.getElem?_eq_getElem hj']
      simp)
  unfold Yields
  simp only [Sem.run_bind, hrun, Result.andThen_ok, Sem.run_pure]
  rw [hbl] at key
  refine ⟨⟨e.ρ, e.h, e.H.push (.cells c el (cap, cap + 1)), e.pv⟩, _, by rw [hH], ⟨rfl, rfl, rfl⟩, hr', ev, ?_, hk⟩
  rw [← hH]
  exact key

/-- A slice of its own. -/
theorem y_s2bl {src dst el : TypeId} (hs : P.underlying src = some .string) (hd : P.underlying dst = some (.slice el)) (he : P.underlying el = some (.int .u8)) (hH : e.H = w.heap) (hr : HR e) {s : ByteArray}
    (hk : K (.sl e.h.length 0 s.size s.size) (e.h ++ [.cells 1 (bytesD s)])) : Yields P (do pure (.value (← convert src dst (.string s)))) w (After e w K) := by
  have hcap := grownCap_ge w s.size 0 el
  let cap := grownCap w s.size 0 el
  let c : Array Value := (s.data.map fun b => Value.int .u8 b.toNat) ++ Array.replicate (cap - s.size) (.int .u8 0)
  have hc : c.size = cap := by simp [c]; show s.size + (cap - s.size) = cap; omega
  have hrun : (convert src dst (.string s)).run P w = .ok (.slice (some ⟨w.heap.size, 0, none⟩) s.size cap) { w.drew with heap := w.heap.push (.cells c el (cap, cap + 1)) } := by
    simp only [convert, Sem.run_bind, run_underlying hs, run_underlying hd, run_underlying he, Result.andThen_ok, Conv.stringToBytes, run_choose, Question.forced, Bool.false_eq_true, if_false, newRow, run_newObj, Sem.run_pure, markStringish, run_shape]
    let W1 : World := ⟨w.heap.push (.cells c el), w.tape, w.drawn + 1, w.os, w.output⟩
    have hsh : W1.shape? w.heap.size = some (el, cap) := by simp [W1, World.shape?, hc]
    have hfr : W1.freeze ⟨w.heap.size, cap, none⟩ 1 = { w.drew with heap := w.heap.push (.cells c el (cap, cap + 1)) } := by
      simp only [World.freeze, Nat.one_ne_zero, if_false, W1]
      refine congrArg (fun h => (⟨h, w.tape, w.drawn + 1, w.os, w.output⟩ : World)) ?_
      apply Array.ext_getElem?
      intro i
      simp only [Array.getElem?_modify, Array.getElem?_push]
      by_cases hi : i = w.heap.size
      · subst hi; simp
      · rw [if_neg (Ne.symm hi), if_neg hi, if_neg hi]
    show ((Sem.run P (match W1.shape? w.heap.size with | some (_, n) => freeze ⟨w.heap.size, n, none⟩ 1 | _ => pure ()) W1).andThen fun a w' => Result.ok (Value.slice (some ⟨w.heap.size, 0, none⟩) s.size cap) w') = _
    rw [hsh]
    simp only [run_freeze, hfr, Result.andThen_ok]
  have hbl : (bytesD s).length = s.size := by simp [bytesD]
  obtain ⟨ev, hr', hkey, hq⟩ := env_alloc hr 1 (bytesD s) c el (cap, cap + 1) (fun j => .int .u8 (s.data.toList.getD j 0).toNat) (by rw [hbl, hc]; omega) (fun k hk hz h => by simp only at h; have := hz.resolve_left (by simp); omega)
    (fun j hj => by
      simp only [bytesD, List.getElem_map, byteD]
      simp only [bytesD, List.length_map] at hj
      simp only [List.getD, List.getElem?_eq_getElem hj, Option.getD_some]
      exact .p rfl) (fun _ _ => rfl) (fun j hj i hi => by
      have : i = 0 := by simp only [Value.cells] at hi; simpa using hi
      subst this
      rfl) (fun j hj k hk => by
      obtain rfl : k = 0 := by omega
      simp only [bytesD, List.length_map] at hj
      have hj' : j < s.data.size := by simpa using hj
      simp only [Nat.mul_one, Nat.add_zero, c]
      rw [Array.getElem?_append_left (by simpa using hj')]
      simp only [Array.getElem?_map, Value.cells, List.getD, Array.getElem?_toList, Array.getElem?_eq_getElem hj']
      simp)
  unfold Yields
  simp only [Sem.run_bind, hrun, Result.andThen_ok, Sem.run_pure]
  refine ⟨_, _, by rw [hH], ⟨rfl, rfl, rfl⟩, hr', ev, ?_, hk⟩
  rw [← hH]
  rw [hbl] at hkey
  exact vr_sl_new hkey hq hcap (by rw [hc]; simp)

end
end Go.Den

namespace Go.Den
open Go

def isStruct (P : Program) (t : TypeId) : Bool :=
  match P.underlying t with
  | some (.struct _) => true
  | _ => false

/-- The kinds of a type's cells, if its values are compared cell by cell: so deep. -/
def eqLay (P : Program) : Nat → TypeId → Option (List CK)
  | 0, _ => none
  | d + 1, t => match kindOf P t with
    | some k => some [k]
    | none => match P.underlying t with
      | some (.struct fs) => if P.stoodInHeld t then none else
        fs.toList.foldl (fun (acc : Option (List CK)) f => acc.bind fun ks => if f.name ≠ "_" ∧ f.offset = ks.length then (eqLay P d f.type).bind fun l => if (tyI P f.type) = some (isStruct P f.type, l.length) then some (ks ++ l) else none else none) (some [])
      | _ => none

theorem cellsEq_len : ∀ (ks : List CK) (xs ys : List DV) (r : Bool), cellsEq ks xs ys = some r → xs.length = ks.length ∧ ys.length = ks.length
  | [], [], [], _, _ => ⟨rfl, rfl⟩
  | k :: ks, x :: xs, y :: ys, r, h => by
    simp only [cellsEq] at h
    split at h
    · rename_i a b h1 h2
      have := cellsEq_len ks xs ys b h2
      simp [this.1, this.2]
    · cases h
  | [], _ :: _, _, _, h => by simp [cellsEq] at h
  | [], [], _ :: _, _, h => by simp [cellsEq] at h
  | _ :: _, [], _, _, h => by simp [cellsEq] at h
  | _ :: _, _ :: _, [], _, h => by simp [cellsEq] at h

theorem cellsEq_append : ∀ (ks ks' : List CK) (xs ys : List DV) (r : Bool), cellsEq (ks ++ ks') xs ys = some r →
    ∃ r1 r2, cellsEq ks (xs.take ks.length) (ys.take ks.length) = some r1 ∧ cellsEq ks' (xs.drop ks.length) (ys.drop ks.length) = some r2 ∧ r = (r1 && r2)
  | [], ks', xs, ys, r, h => ⟨true, r, by simp [cellsEq], by simpa using h, by simp⟩
  | k :: ks, ks', x :: xs, y :: ys, r, h => by
    simp only [List.cons_append, cellsEq] at h
    split at h
    · rename_i a b h1 h2
      obtain ⟨r1, r2, h3, h4, h5⟩ := cellsEq_append ks ks' xs ys b h2
      refine ⟨a && r1, r2, ?_, ?_, ?_⟩
      · simp only [List.length_cons, List.take_succ_cons, cellsEq, h1, h3]
      · simpa using h4
      · simp only [Option.some.injEq] at h
        rw [← h, h5, Bool.and_assoc]
    · cases h
  | _ :: _, _, [], _, _, h => by simp [cellsEq] at h
  | _ :: _, _, _ :: _, [], _, h => by simp [cellsEq] at h

theorem run_equalIn_float {P : Program} {t : TypeId} {k' : FloatKind} (hu : P.underlying t = some (.float k')) (k : FloatKind) (a b : Nat) (d : Nat) (w : World) : (Op.equalIn (d + 1) t (.float k a) (.float k b)).run P w = .ok (Op.floatEq k a b) w := by
  unfold Op.equalIn
  simp only [Sem.run_bind, run_underlying hu, Result.andThen]
  simp
theorem run_cellEq {P : Program} {e : Env} {t : TypeId} {k : CK} (hk : kindOf P t = some k) {x y : DV} {a b : Value} (hx : VR e x a) (hy : VR e y b) {r : Bool} (h : cellEq k x y = some r) (d : Nat) (w : World) : (Op.equalIn (d + 1) t a b).run P w = .ok r w := by
  unfold cellEq at h
  unfold kindOf at hk
  split at h
  · obtain ⟨rfl, _⟩ := vr_p hx
    obtain ⟨rfl, _⟩ := vr_p hy
    split at h
    · rename_i hkk
      subst hkk
      cases h
      split at hk
      · cases hk
      · rename_i k' hu; exact run_equalIn_int w d t _ k' _ _ hu
      · cases hk
      · cases hk
      · cases hk
    · cases h
  · obtain ⟨rfl, _⟩ := vr_p hx
    obtain ⟨rfl, _⟩ := vr_p hy
    cases h
    split at hk
    · rename_i hu; exact Den.run_equalIn_bool hu _ _ d w
    · cases hk
    · cases hk
    · cases hk
    · cases hk
  · obtain ⟨rfl, _⟩ := vr_p hx
    obtain ⟨rfl, _⟩ := vr_p hy
    cases h
    split at hk
    · cases hk
    · cases hk
    · rename_i hu; rw [run_equalIn_string w d t _ _ hu, toList_beq]
    · cases hk
    · cases hk
  · obtain ⟨rfl, _⟩ := vr_p hx
    obtain ⟨rfl, _⟩ := vr_p hy
    split at h
    · rename_i hkk
      subst hkk
      cases h
      split at hk
      · cases hk
      · cases hk
      · cases hk
      · rename_i k' hu; exact run_equalIn_float hu _ _ _ d w
      · cases hk
    · cases h
  · cases h

/-- Cells of two structs, from o on. -/
structure CellsAt (e : Env) (xs : List DV) (as : Array Value) (o : Nat) : Prop where
  hl : o + xs.length ≤ as.size
  h : ∀ i (hi : i < xs.length), VR e xs[i] (as[o + i]'(by omega))

theorem ofCells_false (as : Array Value) (o : Nat) (h : o < as.size) : ofCells false ((as.toList.drop o).take 1) = as[o] := by
  simp [ofCells, List.getD, h]

theorem run_eqLay {P : Program} {e : Env} : ∀ (d : Nat) (t : TypeId) (ks : List CK), eqLay P d t = some ks → ∀ (g : Bool), tyI P t = some (g, ks.length) → g = isStruct P t →
    ∀ (xs ys : List DV) (as bs : Array Value) (o : Nat), CellsAt e xs as o → CellsAt e ys bs o → ∀ r, cellsEq ks xs ys = some r → ∀ m, d ≤ m → ∀ w, (Op.equalIn m t (ofCells g ((as.toList.drop o).take ks.length)) (ofCells g ((bs.toList.drop o).take ks.length))).run P w = .ok r w := by
  intro d
  induction d with
  | zero => intro t ks h; cases h
  | succ d ih =>
    intro t ks h g hty hg xs ys as bs o hx hy r hr m hm w
    obtain ⟨m, rfl⟩ : ∃ m', m = m' + 1 := ⟨m - 1, by omega⟩
    simp only [eqLay] at h
    cases hk : kindOf P t with
    | some k =>
      rw [hk] at h
      cases h
      have hgf : g = false := by
        rw [hg]
        unfold kindOf at hk
        unfold isStruct
        split at hk <;> first | (rename_i hu; rw [hu]) | cases hk
      subst hgf
      obtain ⟨h1, h2⟩ := cellsEq_len _ _ _ _ hr
      match xs, ys, h1, h2, hr, hx, hy with
      | [x], [y], _, _, hr, hx, hy =>
        simp only [List.length_cons, List.length_nil, Nat.zero_add]
        have hx0 := hx.h 0 (by simp)
        have hy0 := hy.h 0 (by simp)
        have hxl := hx.hl
        have hyl := hy.hl
        simp only [List.length_cons, List.length_nil] at hxl hyl
        rw [ofCells_false as o (by omega), ofCells_false bs o (by omega)]
        simp only [cellsEq] at hr
        split at hr
        · rename_i a b h3 h4
          simp only [Option.some.injEq] at h4 hr
          subst h4
          rw [Bool.and_true] at hr
          subst hr
          exact run_cellEq hk hx0 hy0 h3 m w
        · cases hr
    | none =>
      rw [hk] at h
      simp only at h
      cases hu : P.underlying t with
      | none => rw [hu] at h; cases h
      | some desc =>
        rw [hu] at h
        cases desc with
        | struct fs =>
          simp only at h
          simp only [isStruct, hu] at hg
          subst hg
          split at h
          · cases h
          · rename_i hst
            have hst : P.stoodInHeld t = false := by simpa using hst
            have hfo : P.fieldsOf t = fs := by simp [Program.fieldsOf, hu]
            simp only [ofCells, if_true]
            rw [run_equalIn_struct w m t _ _ (by rw [hfo]; exact hu) hst, hfo]
            have hmd : d ≤ m := by omega
            obtain ⟨hxl, hyl⟩ := cellsEq_len _ _ _ _ hr
            have hxs := hx.hl
            have hys := hy.hl
            -- the fields, one behind the other
            have gen : ∀ (l : List Field) (pre : List CK) (ks' : List CK), l.foldl (fun (acc : Option (List CK)) f => acc.bind fun ks => if f.name ≠ "_" ∧ f.offset = ks.length then (eqLay P d f.type).bind fun l => if (tyI P f.type) = some (isStruct P f.type, l.length) then some (ks ++ l) else none else none) (some pre) = some ks' →
                ∃ post, ks' = pre ++ post ∧ (ks' = ks → ∀ r2, cellsEq post (xs.drop pre.length) (ys.drop pre.length) = some r2 → (Op.eqFields m ((as.toList.drop o).take ks.length).toArray ((bs.toList.drop o).take ks.length).toArray l).run P w = .ok r2 w) := by
              intro l
              induction l with
              | nil =>
                intro pre ks' hf
                simp only [List.foldl_nil, Option.some.injEq] at hf
                refine ⟨[], by rw [hf]; simp, fun hks r2 h2 => ?_⟩
                have : r2 = true := by
                  obtain ⟨h5, h6⟩ := cellsEq_len _ _ _ _ h2
                  have e1 := List.eq_nil_of_length_eq_zero h5
                  have e2 := List.eq_nil_of_length_eq_zero h6
                  rw [e1, e2] at h2
                  simpa [cellsEq] using h2.symm
                subst this
                rfl
              | cons f l ihl =>
                intro pre ks' hf
                simp only [List.foldl_cons, Option.bind_some] at hf
                have hnone : ∀ l : List Field, l.foldl (fun (acc : Option (List CK)) f => acc.bind fun ks => if f.name ≠ "_" ∧ f.offset = ks.length then (eqLay P d f.type).bind fun l => if (tyI P f.type) = some (isStruct P f.type, l.length) then some (ks ++ l) else none else none) none = none := by
                  intro l
                  induction l with
                  | nil => rfl
                  | cons f l ih => simpa using ih
                by_cases hc : f.name ≠ "_" ∧ f.offset = pre.length
                · rw [if_pos hc] at hf
                  cases hl : eqLay P d f.type with
                  | none => rw [hl, Option.bind_none, hnone] at hf; cases hf
                  | some fl =>
                    rw [hl, Option.bind_some] at hf
                    by_cases ht : tyI P f.type = some (isStruct P f.type, fl.length)
                    · rw [if_pos ht] at hf
                      obtain ⟨post, hp, hrest⟩ := ihl (pre ++ fl) ks' hf
                      refine ⟨fl ++ post, by rw [hp]; simp, fun hks r2 h2 => ?_⟩
                      obtain ⟨r3, r4, h3, h4, h5⟩ := cellsEq_append _ _ _ _ _ h2
                      have hpost := hrest hks r4 (by simpa [List.drop_drop] using h4)
                      have hkl : ks.length = pre.length + fl.length + post.length := by rw [← hks, hp]; simp [Nat.add_assoc]
                      have hsub : ∀ (zs : Array Value), o + ks.length ≤ zs.size → (part f.type ((zs.toList.drop o).take ks.length).toArray f.offset).run P w = .ok (ofCells (isStruct P f.type) ((zs.toList.drop (o + pre.length)).take fl.length)) w := by
                        intro zs hzs
                        have hgf : (isStruct P f.type) = false → fl.length = 1 := by
                          intro hgf
                          cases d with
                          | zero => cases hl
                          | succ d =>
                            simp only [eqLay] at hl
                            cases hk2 : kindOf P f.type with
                            | some k => rw [hk2] at hl; cases hl; rfl
                            | none =>
                              rw [hk2] at hl
                              simp only at hl
                              cases hu2 : P.underlying f.type with
                              | none => rw [hu2] at hl; cases hl
                              | some d2 =>
                                simp only [isStruct, hu2] at hgf
                                rw [hu2] at hl
                                cases d2 <;> first | cases hl | cases hgf
                        have := run_part (w := w) (tyI_spec ht) hgf ((zs.toList.drop o).take ks.length).toArray f.offset (by simp; omega)
                        rw [this, hc.2]
                        congr 2
                        simp only [List.drop_take, List.drop_drop, List.take_take]
                        congr 1
                        omega
                      simp only [Op.eqFields]
                      rw [if_pos hc.1]
                      simp only [Sem.run_bind, hsub as (by omega), hsub bs (by omega), Result.andThen_ok]
                      have hone := ih f.type fl hl _ ht rfl ((xs.drop pre.length).take fl.length) ((ys.drop pre.length).take fl.length) as bs (o + pre.length)
                        ⟨by simp; omega, fun i hi => by
                          simp at hi
                          have := hx.h (pre.length + i) (by omega)
                          simp only [List.getElem_take, List.getElem_drop]
                          simp only [Nat.add_assoc]
                          exact this⟩
                        ⟨by simp; omega, fun i hi => by
                          simp at hi
                          have := hy.h (pre.length + i) (by omega)
                          simp only [List.getElem_take, List.getElem_drop]
                          simp only [Nat.add_assoc]
                          exact this⟩ r3 h3 m hmd w
                      rw [hone]
                      simp only [Result.andThen_ok, Sem.run_ite]
                      subst h5
                      cases r3 with
                      | false => rfl
                      | true => simpa using hpost
                    · rw [if_neg ht, hnone] at hf; cases hf
                · rw [if_neg hc, hnone] at hf; cases hf
            obtain ⟨post, hp, hfin⟩ := gen fs.toList [] ks h
            simp only [List.nil_append] at hp
            subst hp
            exact hfin rfl r (by simpa using hr)
        | _ => cases h

/-- The kinds of an array's cells, if they are compared one by one. -/
def arrLay (P : Program) (t : TypeId) : Option (List CK) := match P.underlying t with
  | some (.array n e) => match kindOf P e with
    | some k => if tyI P e = some (false, 1) then some (List.replicate n k) else none
    | none => none
  | _ => none
theorem run_arrLay {P : Program} {e : Env} {t : TypeId} {ks : List CK} (h : arrLay P t = some ks) {xs ys : List DV} {as bs : Array Value} (hxl : as.size = ks.length) (hyl : bs.size = ks.length)
    (hx : ∀ i (hi : i < xs.length) (hi' : i < as.size), VR e xs[i] as[i]) (hy : ∀ i (hi : i < ys.length) (hi' : i < bs.size), VR e ys[i] bs[i]) {r : Bool} (hr : cellsEq ks xs ys = some r) (m : Nat) (w : World) :
    (Op.equalIn (m + 2) t (.agg as) (.agg bs)).run P w = .ok r w := by
  unfold arrLay at h
  split at h
  · rename_i n el hu
    split at h
    · rename_i k hk
      split at h
      · rename_i hty
        cases h
        have ht := tyI_spec hty
        obtain ⟨i, hi⟩ : ∃ i, P.info? el = some i := by
          unfold tyI at hty
          split at hty
          · rename_i d i h1 h2; exact ⟨i, h2⟩
          · cases hty
        have hc : P.cellsOf el = 1 := by
          have h1 := run_sizeOf w hi
          rw [ht.run_size] at h1
          injection h1 with h1
          exact h1.symm
        rw [run_equalIn_array w (m + 1) as bs hu hi, hc, List.range_eq_range']
        simp only [List.length_replicate] at hxl hyl
        have gen : ∀ (l o : Nat) (r : Bool), o + l = n → cellsEq (List.replicate l k) (xs.drop o) (ys.drop o) = some r → (Op.eqItems (m + 1) el 1 as bs (List.range' o l)).run P w = .ok r w := by
          intro l
          induction l with
          | zero =>
            intro o r ho h2
            have : r = true := by
              obtain ⟨h5, h6⟩ := cellsEq_len _ _ _ _ h2
              have e1 := List.eq_nil_of_length_eq_zero h5
              have e2 := List.eq_nil_of_length_eq_zero h6
              rw [e1, e2] at h2
              simpa [cellsEq] using h2.symm
            subst this
            rfl
          | succ l ih =>
            intro o r ho h2
            obtain ⟨h5, h6⟩ := cellsEq_len _ _ _ _ h2
            simp only [List.length_drop, List.length_replicate] at h5 h6
            have hxo : o < xs.length := by omega
            have hyo : o < ys.length := by omega
            rw [List.drop_eq_getElem_cons hxo, List.drop_eq_getElem_cons hyo, List.replicate_succ] at h2
            simp only [cellsEq] at h2
            split at h2
            · rename_i a b h7 h8
              simp only [Option.some.injEq] at h2
              have hrest := ih (o + 1) b (by omega) h8
              rw [List.range'_succ]
              have p1 := run_part (w := w) ht (fun _ => rfl) as (o * 1) (by omega)
              have p2 := run_part (w := w) ht (fun _ => rfl) bs (o * 1) (by omega)
              rw [Nat.mul_one, ofCells_false as o (by omega)] at p1
              rw [Nat.mul_one, ofCells_false bs o (by omega)] at p2
              simp only [Op.eqItems, Sem.run_bind, Nat.mul_one, p1, p2, Result.andThen_ok, run_cellEq hk (hx o hxo (by omega)) (hy o hyo (by omega)) h7 m w]
              subst h2
              cases a
              · rfl
              · simpa using hrest
            · cases h2
        exact gen n 0 r (by omega) (by simpa using hr)
      · cases h
    · cases h
  · cases h

end Go.Den

namespace Go.Den
open Go

section
variable {P : Program} {e : Env} {w : World} {K : DV → List Blk → Prop}

theorem y_len_str {t : TypeId} (hu : P.underlying t = some .string) (ty : TypeId) (hH : e.H = w.heap) (hr : HR e) {s : ByteArray} (hk : K (.p (.int .i64 s.size)) e.h) : Yields P (do pure (.value (← Builtin.len_ #[t] ty #[.string s]))) w (After e w K) := by
  refine y_pure ?_ hH hr (.p rfl) hk
  simp [Builtin.len_, run_underlying hu, goInt]

theorem y_len_sl {t el : TypeId} (hu : P.underlying t = some (.slice el)) (ty : TypeId) (hH : e.H = w.heap) (hr : HR e) {a : Option Addr} {n c : Nat} (hk : K (.p (.int .i64 n)) e.h) : Yields P (do pure (.value (← Builtin.len_ #[t] ty #[.slice a n c]))) w (After e w K) := by
  refine y_pure ?_ hH hr (.p rfl) hk
  simp [Builtin.len_, run_underlying hu, goInt]

theorem y_len_map {t kt el : TypeId} (hu : P.underlying t = some (.map kt el)) (ty : TypeId) (hH : e.H = w.heap) (hr : HR e) {d : DV} {v : Value} (hv : VR e d v)
    (h : match (generalizing := false) d with
      | .p (.map none) => K (.p (.int .i64 0)) e.h
      | .mp b => match e.h[b]? with
        | some (.map es) => K (.p (.int .i64 es.length)) e.h
        | _ => False
      | _ => False) : Yields P (do pure (.value (← Builtin.len_ #[t] ty #[v]))) w (After e w K) := by
  cases d with
  | p u =>
    cases u with
    | map r =>
      cases r with
      | none =>
        obtain ⟨rfl, _⟩ := vr_p hv
        refine y_pure ?_ hH hr (.p rfl) h
        simp [Builtin.len_, run_underlying hu, goInt]
      | some r => exact h.elim
    | _ => exact h.elim
  | mp b =>
    simp only at h
    cases hb : e.h[b]? with
    | none => rw [hb] at h; exact h.elim
    | some blk =>
    rw [hb] at h
    cases blk with
    | map es =>
      simp only at h
      have hkey : e.key b = some .m := Env.key_of hb
      cases hv with
      | mp _ hm _ =>
        obtain ⟨q, hq, rfl⟩ := hm hkey
        have hbr := hr.blk b _ hb
        cases hbr with
        | map q' res clock hq' hh hl hk hvs hb' hd' =>
          rw [hq] at hq'
          cases hq'
          refine y_pure ?_ hH hr (.p rfl) h
          rw [hH] at hh
          simp only [Builtin.len_, Sem.run_bind]
          simp [run_underlying hu, getObj, Sem.run, hh, goInt, hl]
    | _ => exact h.elim
  | _ => exact h.elim

/-- Slicing: the bounds. -/
theorem run_bounds {isS : Bool} {len cap : Nat} (lo hi : Option Value) (l r : Int) (hlo : ∀ v, lo = some v → ∃ k, v = .int k l) (hlo0 : lo = none → l = 0) (hhi : ∀ v, hi = some v → ∃ k, v = .int k r) (hhi0 : hi = none → r = len) (h0 : 0 ≤ l) (h1 : l ≤ r) (h2 : r ≤ cap) (hlc : len ≤ cap) (w : World) :
    (Instr.sliceBounds isS len cap lo hi none).run P w = .ok (l.toNat, r.toNat, cap) w := by
  have hb : ∀ (k : IntKind) (i : Int) (y : Nat) (c : BoundsCode), 0 ≤ i → i ≤ y → (Instr.sliceBound (.int k i) y c).run P w = .ok i.toNat w := fun k i y c a b => by
    simp [Instr.sliceBound, asIntOf, a, b]
  cases lo with
  | none =>
    obtain rfl := hlo0 rfl
    cases hi with
    | none =>
      obtain rfl := hhi0 rfl
      simp [Instr.sliceBounds]
    | some v =>
      obtain ⟨k, rfl⟩ := hhi v rfl
      simp [Instr.sliceBounds, hb k r cap _ (by omega) (by omega)]
  | some u =>
    obtain ⟨k', rfl⟩ := hlo u rfl
    cases hi with
    | none =>
      obtain rfl := hhi0 rfl
      simp [Instr.sliceBounds, hb k' l len _ h0 h1]
    | some v =>
      obtain ⟨k, rfl⟩ := hhi v rfl
      simp [Instr.sliceBounds, hb k r cap _ (by omega) (by omega), hb k' l r.toNat _ h0 (by omega)]

theorem vr_fz {sz : Nat} {l : List DV} {v : Value} (h : VR e (.fz sz l) v) (hl : l ≠ []) : ∃ r o cap, ∃ vs : Nat → Value, v = .slice (some ⟨r, o, none⟩) l.length cap ∧ l.length ≤ cap ∧ RO e r ∧ (∀ j (hj : j < l.length), VR e l[j] (vs j)) ∧ (∀ j, j < l.length → (vs j).cells.size = sz) ∧
    (∀ j, j < l.length → Cells1 (vs j)) ∧ (∀ j, j < l.length → ∀ k, k < sz → cellAt e.H r (o + j * sz + k) = (vs j).cells[k]?) := by
  cases h with
  | fz0 => exact absurd rfl hl
  | fz vs hs hc hro hvv hsz h1c hcell =>
    rename_i ad cap
    obtain ⟨r, o, sp⟩ := ad
    obtain rfl : sp = none := hs
    exact ⟨r, o, cap, vs, rfl, hc, hro, hvv, hsz, h1c, hcell⟩

theorem y_slc_str {t : TypeId} (hu : P.underlying t = some .string) (hH : e.H = w.heap) (hr : HR e) {s : ByteArray} (lo hi : Option Value) (l r : Int) (hlo : ∀ v, lo = some v → ∃ k, v = .int k l) (hlo0 : lo = none → l = 0) (hhi : ∀ v, hi = some v → ∃ k, v = .int k r) (hhi0 : hi = none → r = s.size)
    (h : 0 ≤ l ∧ l ≤ r ∧ r ≤ s.size ∧ K (.p (.string (s.extract l.toNat r.toNat))) e.h) : Yields P (do pure (.value (← Instr.sliceAt t (.string s) lo hi none))) w (After e w K) := by
  refine y_pure ?_ hH hr (.p rfl) h.2.2.2
  have := run_bounds (P := P) (isS := false) (len := s.size) (cap := s.size) lo hi l r hlo hlo0 hhi hhi0 h.1 h.2.1 h.2.2.1 (Nat.le_refl _) w
  simp only [Instr.sliceAt, Sem.run_bind, run_underlying hu, Result.andThen_ok, Instr.slice, Option.isSome, Bool.false_eq_true, if_false, Sem.run_pure]
  simp [this]

theorem y_slc_sl {t el : TypeId} {g : Bool} {sz : Nat} (hu : P.underlying t = some (.slice el)) (ht : Ty P el g sz) (hH : e.H = w.heap) (hr : HR e) {d : DV} {v : Value} (hv : VR e d v) (lo hi : Option Value) (n : Nat) (l r : Int) (hn : ∃ a c, v = .slice a n c ∧ n ≤ c) (hlo : ∀ v, lo = some v → ∃ k, v = .int k l) (hlo0 : lo = none → l = 0) (hhi : ∀ v, hi = some v → ∃ k, v = .int k r) (hhi0 : hi = none → r = n)
    (h : match (generalizing := false) d with
      | .fz sz' xs => n = xs.length ∧ sz' = sz ∧ 0 ≤ l ∧ l ≤ r ∧ r ≤ xs.length ∧ K (.fz sz ((xs.drop l.toNat).take (r.toNat - l.toNat))) e.h
      | .sl b i m x => n = m ∧ (match e.h[b]? with | some (.cells bsz els) => x = els.length ∧ bsz = sz | _ => False) ∧ 0 ≤ l ∧ l ≤ r ∧ r ≤ n ∧ K (.sl b (i + l.toNat) (r.toNat - l.toNat) x) e.h
      | .p (.slice none 0 0) => l = 0 ∧ r = 0 ∧ K (.p (.slice none 0 0)) e.h
      | .sa g' z b i o m c x => n = m ∧ (match e.h[b]? with | some (.cells _ els) => x = els.length ∧ z = sz | _ => False) ∧ 0 ≤ l ∧ l ≤ r ∧ r ≤ c ∧ K (.sa g' z b i (o + l.toNat * z) (r.toNat - l.toNat) (c - l.toNat) x) e.h
      | _ => False) : Yields P (do pure (.value (← Instr.sliceAt t v lo hi none))) w (After e w K) := by
  obtain ⟨a, c, rfl, hnc⟩ := hn
  have run : 0 ≤ l → l ≤ r → r ≤ c → (Instr.sliceAt t (.slice a n c) lo hi none).run P w = .ok (.slice (if c = l.toNat then a else a.map (·.add (l.toNat * sz))) (r.toNat - l.toNat) (c - l.toNat)) w := fun h0 h1 h2 => by
    have := run_bounds (P := P) (isS := true) (len := n) (cap := c) lo hi l r hlo hlo0 hhi hhi0 h0 h1 h2 hnc w
    simp only [Instr.sliceAt, Sem.run_bind, run_underlying hu, Result.andThen_ok, Instr.slice, this, ht.run_size, Sem.run_pure]
  cases d with
  | fz sz' xs =>
    obtain ⟨rfl, rfl, h0, h1, h2, hk⟩ := h
    refine y_pure (by rw [Sem.run_bind, run h0 h1 (by omega)]; rfl) hH hr ?_ hk
    have hlen : ((xs.drop l.toNat).take (r.toNat - l.toNat)).length = r.toNat - l.toNat := by simp; omega
    by_cases he : r.toNat - l.toNat = 0
    · rw [he, List.take_zero]
      exact .fz0
    · obtain ⟨rr, o, cap, vs, hve, hc, hro, hvv, hsz, h1c, hcell⟩ := vr_fz hv (by intro h; subst h; simp at h2; omega)
      injection hve with h4 h5 h6
      subst h4; subst h6
      rw [if_neg (by omega)]
      simp only [Option.map_some, add_plain]
      suffices hS : VR e (.fz sz' ((xs.drop l.toNat).take (r.toNat - l.toNat))) (.slice (some ⟨rr, o + l.toNat * sz', none⟩) ((xs.drop l.toNat).take (r.toNat - l.toNat)).length (c - l.toNat)) by rw [hlen] at hS; exact hS
      refine @VR.fz e _ ((xs.drop l.toNat).take (r.toNat - l.toNat)) ⟨rr, o + l.toNat * sz', none⟩ (c - l.toNat) (fun j => vs (l.toNat + j)) rfl (by rw [hlen]; omega) hro (fun j hj => ?_) (fun j hj => hsz _ (by rw [hlen] at hj; omega)) (fun j hj => h1c _ (by rw [hlen] at hj; omega)) (fun j hj k hk => ?_)
      · simp only [List.getElem_take, List.getElem_drop]
        exact hvv _ _
      · have := hcell (l.toNat + j) (by rw [hlen] at hj; omega) k hk
        simp only at this ⊢
        rw [show o + l.toNat * sz' + j * sz' + k = o + (l.toNat + j) * sz' + k by rw [Nat.add_mul]; omega]
        exact this
  | sl b i m x =>
    obtain ⟨rfl, hb, h0, h1, h2, hk⟩ := h
    cases hbb : e.h[b]? with
    | none => rw [hbb] at hb; exact hb.elim
    | some blk =>
    rw [hbb] at hb
    cases blk with
    | cells bsz els =>
      simp only at hb
      obtain ⟨rfl, rfl⟩ := hb
      have hkey : e.key b = some (.c bsz els.length) := Env.key_of hbb
      obtain ⟨hi', hcase⟩ := vr_sl hv hkey
      refine y_pure (by rw [Sem.run_bind, run h0 h1 (by omega)]; rfl) hH hr ?_ hk
      refine .sl (Env.key_lt (by rw [hkey]; simp)) (fun sz' m h => ?_) ⟨_, _, rfl⟩
      rw [hkey] at h
      simp only [Option.some.injEq, Key.c.injEq] at h
      obtain ⟨rfl, rfl⟩ := h
      refine ⟨Nat.le_refl _, fun _ => ⟨by omega, ?_⟩⟩
      rcases hcase with ⟨hq, h3⟩ | ⟨q, a', cap, hq, h3, hc, hC, ha⟩
      · injection h3 with h4 h5 h6
        subst h4; subst h5; subst h6
        obtain rfl : l = 0 := by omega
        obtain rfl : r = 0 := by omega
        exact .inl ⟨hq, by simp⟩
      · injection h3 with h4 h5 h6
        subst h4; subst h6
        refine .inr ⟨q, if c = l.toNat then a' else a'.add (l.toNat * bsz), c - l.toNat, hq, ?_, by omega, ?_, fun hpos => ?_⟩
        · split <;> rfl
        · rw [show i + l.toNat + (c - l.toNat) = i + c by omega]; exact hC
        · rw [if_neg (by omega), ha (by omega), add_plain, Nat.add_mul]
    | _ => exact hb.elim
  | sa g' z b i o m c2 x =>
    obtain ⟨rfl, hb, h0, h1, h2, hk⟩ := h
    cases hbb : e.h[b]? with
    | none => rw [hbb] at hb; exact hb.elim
    | some blk =>
    rw [hbb] at hb
    cases blk with
    | cells bsz els =>
      simp only at hb
      obtain ⟨rfl, rfl⟩ := hb
      have hkey : e.key b = some (.c bsz els.length) := Env.key_of hbb
      obtain ⟨hi', q, a', hq, h3, hc, hC, ha⟩ := vr_sa hv hkey
      injection h3 with h4 h5 h6
      subst h4; subst h6
      refine y_pure (by rw [Sem.run_bind, run h0 h1 h2]; rfl) hH hr ?_ hk
      refine .sa (Env.key_lt (by rw [hkey]; simp)) (vr_sa_g hv) (fun sz' m h => ?_) ⟨_, rfl⟩
      rw [hkey] at h
      simp only [Option.some.injEq, Key.c.injEq] at h
      obtain ⟨rfl, rfl⟩ := h
      refine ⟨Nat.le_refl _, fun _ => ⟨hi', q, if c = l.toNat then a' else a'.add (l.toNat * z), hq, ?_, by omega, ?_, fun hpos => ?_⟩⟩
      · split <;> rfl
      · rw [Nat.sub_mul]
        have := Nat.mul_le_mul_right z (show l.toNat ≤ c by omega)
        omega
      · rw [if_neg (by omega), ha (by omega), add_plain, Nat.add_assoc]
    | _ => exact hb.elim
  | p u =>
    obtain ⟨rfl, _⟩ := vr_p hv
    cases a with
    | some a => exact h.elim
    | none =>
    cases n with
    | succ n => exact h.elim
    | zero =>
    cases c with
    | succ c => exact h.elim
    | zero =>
      obtain ⟨rfl, rfl, hk⟩ := h
      exact y_pure (by rw [Sem.run_bind, run (by omega) (by omega) (by omega)]; rfl) hH hr (.p rfl) hk
  | _ => exact h.elim

/-- A slice of an array. -/
theorem y_slca {t el : TypeId} {m : Nat} {g : Bool} {z : Nat} (hu : P.underlying t = some (.array m el) ∨ ∃ arr, P.underlying t = some (.pointer arr) ∧ P.underlying arr = some (.array m el)) (ht : Ty P el g z) (hg : g = false → z = 1) (hH : e.H = w.heap) (hr : HR e) {d : DV} {v : Value} (hv : VR e d v) (lo hi : Option Value) (l r : Int) (hlo : ∀ v, lo = some v → ∃ k, v = .int k l) (hlo0 : lo = none → l = 0) (hhi : ∀ v, hi = some v → ∃ k, v = .int k r) (hhi0 : hi = none → r = m)
    (h : match (generalizing := false) d with
      | .ptr b i o y => (match e.h[b]? with | some (.cells bsz els) => y = els.length ∧ o + m * z ≤ bsz | _ => False) ∧ 0 ≤ l ∧ l ≤ r ∧ r ≤ m ∧ K (.sa g z b i (o + l.toNat * z) (r.toNat - l.toNat) (m - l.toNat) y) e.h
      | _ => False) : Yields P (do pure (.value (← Instr.sliceAt t v lo hi none))) w (After e w K) := by
  cases d with
  | ptr b i o y =>
    obtain ⟨hb, h0, h1, h2, hk⟩ := h
    cases hbb : e.h[b]? with
    | none => rw [hbb] at hb; exact hb.elim
    | some blk =>
    rw [hbb] at hb
    cases blk with
    | cells bsz els =>
      simp only at hb
      obtain ⟨rfl, hC⟩ := hb
      have hkey : e.key b = some (.c bsz els.length) := Env.key_of hbb
      obtain ⟨hi', q, hq, rfl⟩ := vr_ptr hv hkey
      have hbd := run_bounds (P := P) (isS := false) (len := m) (cap := m) lo hi l r hlo hlo0 hhi hhi0 h0 h1 h2 (Nat.le_refl _) w
      have run : (Instr.sliceAt t (.pointer (some ⟨q.1, i * bsz + o, none⟩)) lo hi none).run P w = .ok (.slice (some (if m = l.toNat then ⟨q.1, i * bsz + o, none⟩ else (⟨q.1, i * bsz + o, none⟩ : Addr).add (l.toNat * z))) (r.toNat - l.toNat) (m - l.toNat)) w := by
        rcases hu with hu | ⟨arr, hu, hu2⟩
        · simp only [Instr.sliceAt, Sem.run_bind, run_underlying hu, Result.andThen_ok, Instr.sureAddr, Sem.run_pure, hbd, ht.run_size]
        · simp only [Instr.sliceAt, Sem.run_bind, run_underlying hu, run_underlying hu2, Result.andThen_ok, Instr.slice, asAddr, Sem.run_pure, hbd, ht.run_size]
      refine y_pure (by rw [Sem.run_bind, run]; rfl) hH hr ?_ hk
      refine .sa (Env.key_lt (by rw [hkey]; simp)) hg (fun sz' k h => ?_) ⟨_, rfl⟩
      rw [hkey] at h
      simp only [Option.some.injEq, Key.c.injEq] at h
      obtain ⟨rfl, rfl⟩ := h
      refine ⟨Nat.le_refl _, fun _ => ⟨hi', q, _, hq, rfl, by omega, ?_, fun hpos => ?_⟩⟩
      · rw [Nat.sub_mul]
        have := Nat.mul_le_mul_right z (show l.toNat ≤ m by omega)
        omega
      · rw [if_neg (by omega), add_plain, Nat.add_assoc]
    | _ => exact hb.elim
  | _ => exact h.elim

theorem y_idxs {t : TypeId} (hu : P.underlying t = some .string) (hH : e.H = w.heap) (hr : HR e) {s : ByteArray} {k : IntKind} {j : Int} (h : 0 ≤ j ∧ j < s.size ∧ K (byteD (s.data.toList.getD j.toNat 0)) e.h) :
    Yields P (do pure (.value (← Instr.index t (.string s) (.int k j)))) w (After e w K) := by
  have hj : j.toNat < s.size := by omega
  have hj' : j.toNat < s.data.size := hj
  refine y_pure ?_ hH hr (.p rfl) h.2.2
  simp only [Instr.index, asIntOf, Sem.run_bind, run_underlying hu, Result.andThen_ok, Sem.run_pure, h.1, if_true]
  have : s[j.toNat]? = some (s.data.toList.getD j.toNat 0) := by
    rw [getElem?_pos s j.toNat hj]
    simp only [List.getD, Array.getElem?_toList, Array.getElem?_eq_getElem hj', Option.getD_some]
    rfl
  rw [this]
  rfl

theorem y_ext {i : Nat} (hH : e.H = w.heap) (hr : HR e) {d : DV} {v : Value} (hv : VR e d v) (h : match (generalizing := false) d with | .tup vs => i < vs.length ∧ K (vs.getD i .any) e.h | _ => False) : Yields P (do pure (.value (← Instr.extract v i))) w (After e w K) := by
  cases d with
  | tup vs =>
    obtain ⟨hi, hk⟩ := h
    obtain ⟨us, rfl, hl, hvv⟩ := vr_tup hv
    have hvi := hvv i hi (hl ▸ hi)
    rw [show vs.getD i .any = vs[i] by simp [List.getD, hi]] at hk
    exact y_pure (by simp [Instr.extract, Array.getElem?_eq_getElem (hl ▸ hi)]) hH hr hvi hk
  | _ => exact h.elim

theorem y_ifc {t : TypeId} (hc : P.concrete t = true) (hH : e.H = w.heap) (hr : HR e) {d : DV} {v : Value} (hv : VR e d v) (hk : K (.iface t d) e.h) : Yields P (do pure (.value (← Instr.makeInterface t v))) w (After e w K) :=
  y_pure (by rw [Sem.run_bind, run_makeInterface w t v hc]; rfl) hH hr (.iface hv) hk

end
end Go.Den

namespace Go.Den
open Go
open Go.Lib

section
variable {P : Program} {e : Env} {w : World} {K : DV → List Blk → Prop}

/-- A new block that is no row of cells. -/
theorem y_obj {x : Sem Value} {v : Value} {o : Obj} (hx : x.run P w = .ok v (w.alloc o)) {blk : Blk} {d : DV} (hH : e.H = w.heap) (hr : HR e)
    (hbr : ∀ e' : Env, e'.h = e.h ++ [blk] → e'.ρ e.h.length = some (w.heap.size, 0) → e'.H = w.heap.push o → Ev e.h.length e e' → BR e' e.h.length blk)
    (hv : ∀ e' : Env, e'.h = e.h ++ [blk] → e'.ρ e.h.length = some (w.heap.size, 0) → VR e' d v) (hk : K d (e.h ++ [blk])) : Yields P (do pure (.value (← x))) w (After e w K) := by
  obtain ⟨ev, hh⟩ := env_push hr blk (some (w.heap.size, 0)) (w.heap.push o) (by rw [hH]; simp) (fun r hr' => by rw [hH] at hr' ⊢; rw [Array.getElem?_push_lt hr', Array.getElem?_eq_getElem hr']) (fun q0 hq => by cases hq; rw [hH]; exact Nat.le_refl _)
  have hρ : upd e.ρ e.h.length (some (w.heap.size, 0)) e.h.length = some (w.heap.size, 0) := upd_same _ _ _
  unfold Yields
  simp only [Sem.run_bind, hx, Result.andThen_ok, Sem.run_pure]
  exact ⟨_, d, rfl, ⟨rfl, rfl, rfl⟩, hh (hbr _ rfl hρ rfl ev), ev, hv _ rfl hρ, hk⟩

theorem it_vr {e' : Env} {h : List Blk} {blk : Blk} {r : Nat} (h1 : e'.h = h ++ [blk]) (h2 : e'.ρ h.length = some (r, 0)) : VR e' (.it h.length) (.pointer (some ⟨r, 0, none⟩)) :=
  .it (by rw [h1]; simp) (fun k hk hs => ⟨_, h2, rfl⟩) rfl

theorem y_rngs {t : TypeId} {s : ByteArray} (hu : P.underlying t = some .string) (hH : e.H = w.heap) (hr : HR e) (hk : K (.it e.h.length) (e.h ++ [.sit s 0])) :
    Yields P (do pure (.value (← Instr.range t (.string s)))) w (After e w K) := by
  refine y_obj (o := .stringIter s 0) (v := .pointer (some ⟨w.heap.size, 0, none⟩)) ?_ hH hr (fun e' h1 h2 h3 _ => .sit _ h2 ?_) (fun e' h1 h2 => it_vr h1 h2) hk
  · have := run_range_string (P := P) w t s hu
    simpa [World.iter] using this
  · rw [h3]; simp

theorem run_makeMap_room {t kt et : TypeId} (hu : P.underlying t = some (.map kt et)) (k : IntKind) (n : Int) : (Instr.makeMap t (some (.int k n))).run P w = .ok (.map (some w.heap.size)) (w.alloc (.map #[] 0)) := by
  simp [Instr.makeMap, run_underlying hu, asInt, asIntOf]
theorem y_mkmapr {t kt et : TypeId} (hu : P.underlying t = some (.map kt et)) {k : IntKind} {n : Int} (hH : e.H = w.heap) (hr : HR e) (hk : K (.mp e.h.length) (e.h ++ [.map []])) :
    Yields P (do pure (.value (← Instr.makeMap t (some (.int k n))))) w (After e w K) := by
  refine y_obj (o := .map #[] 0) (v := .map (some w.heap.size)) (run_makeMap_room hu k n) hH hr (fun e' h1 h2 h3 _ => .map _ #[] 0 h2 (by rw [h3]; simp) rfl (fun j hj => by simp at hj) (fun j hj => by simp at hj) (fun j hj => by simp at hj) (fun i j hi => by simp at hi))
    (fun e' h1 h2 => .mp (by rw [h1]; simp) (fun _ => ⟨_, h2, rfl⟩) rfl) hk
theorem y_mkmap {t : TypeId} (hH : e.H = w.heap) (hr : HR e) (hk : K (.mp e.h.length) (e.h ++ [.map []])) :
    Yields P (do pure (.value (← Instr.makeMap t none))) w (After e w K) := by
  refine y_obj (o := .map #[] 0) (v := .map (some w.heap.size)) (run_makeMap_plain w t) hH hr (fun e' h1 h2 h3 _ => .map _ #[] 0 h2 (by rw [h3]; simp) rfl (fun j hj => by simp at hj) (fun j hj => by simp at hj) (fun j hj => by simp at hj) (fun i j hi => by simp at hi))
    (fun e' h1 h2 => .mp (by rw [h1]; simp) (fun _ => ⟨_, h2, rfl⟩) rfl) hk


/-- A block that is no row of cells gets other contents. -/
theorem env_put {b : Nat} {blk blk' : Blk} {k : Key} {q : Nat × Nat} {o : Obj} (hr : HR e) (hH : e.H = w.heap) (hb : e.h[b]? = some blk) (hk : blk.key = some k) (hk' : blk'.key = some k) (hq : e.ρ b = some q) (hmit : k = .m → noIter e.h b)
    (hbr : ∀ e' : Env, e'.h = e.h.set b blk' → e'.ρ b = some q → e'.H = w.heap.setIfInBounds q.1 o → Ev e.h.length e e' → BR e' b blk') :
    ∃ e' : Env, e'.H = w.heap.setIfInBounds q.1 o ∧ e'.h = e.h.set b blk' ∧ Ev e.h.length e e' ∧ HR e' ∧ e'.ρ b = some q := by
  have hkey : e.key b = some k := by simp [Env.key, hb, hk]
  obtain ⟨ev, hh⟩ := env_set hr b k k hkey blk' hk' (Key.le_refl _) (e.ρ b) (fun _ => rfl) (w.heap.setIfInBounds q.1 o) (by rw [hH]; simp) (fun r hr' hne => by
      rw [hH, Array.getElem?_setIfInBounds_ne (hne q hq)]) (fun q0 h => .inl ⟨q0, h, rfl⟩) (fun c l hc hkm => by
      rw [hkey] at hkm
      exact hmit (by simpa using hkm) c l hc)
  have hρ : upd e.ρ b (e.ρ b) b = some q := by rw [upd_same, hq]
  exact ⟨⟨upd e.ρ b (e.ρ b), e.h.set b blk', w.heap.setIfInBounds q.1 o, e.pv⟩, rfl, rfl, ev, hh (hbr _ rfl hρ rfl ev), hρ⟩

theorem vr_it {b : Nat} {v : Value} {k : Key} (h : VR e (.it b) v) (hk : e.key b = some k) (hs : k = .s ∨ k = .i) : ∃ q, e.ρ b = some q ∧ v = .pointer (some ⟨q.1, 0, none⟩) := by
  cases h with
  | it hb h h1 => exact h k hk hs
theorem vr_mp {b : Nat} {v : Value} (h : VR e (.mp b) v) (hk : e.key b = some .m) : ∃ q, e.ρ b = some q ∧ v = .map (some q.1) := by
  cases h with
  | mp hb h h1 => exact h hk

theorem lt_of_some {H : Array Obj} {r : Nat} {o : Obj} (h : H[r]? = some o) : r < H.size := (Array.getElem?_eq_some_iff.1 h).1

theorem y_nxts {ty : TypeId} {b : Nat} {s : ByteArray} {pos : Nat} {v : Value} (hv : VR e (.it b) v) (hb : e.h[b]? = some (.sit s pos)) (hH : e.H = w.heap) (hr : HR e)
    (h1 : pos < s.size → K (.tup [.p (.bool true), .p (.int .i64 pos), .p (.int .i32 (Utf8.decode s pos).1)]) (e.h.set b (.sit s (pos + (Utf8.decode s pos).2)))) (h2 : s.size ≤ pos → K (.tup [.p (.bool false)]) e.h) :
    Yields P (do pure (.value (← Instr.next v true ty))) w (After e w K) := by
  obtain ⟨q, hq, rfl⟩ := vr_it hv (k := .s) (by simp [Env.key, hb, Blk.key]) (.inl rfl)
  have hB := hr.blk b _ hb
  cases hB with
  | sit q' hq' hHq =>
    rw [hq] at hq'
    cases hq'
    rw [hH] at hHq
    by_cases hp : pos < s.size
    · obtain ⟨e', g1, g2, g3, g4, g5⟩ := env_put (w := w) (blk' := .sit s (pos + (Utf8.decode s pos).2)) (o := .stringIter s (pos + (Utf8.decode s pos).2)) hr hH hb (k := .s) rfl rfl hq (fun h => by cases h) (fun e' a1 a2 a3 a4 => .sit q a2 (by rw [a3]; simp [lt_of_some hHq]))
      unfold Yields
      simp only [Sem.run_bind, run_next_any_at w q.1 s pos ty hHq hp, Result.andThen_ok, Sem.run_pure]
      refine ⟨e', _, g1, ⟨rfl, rfl, rfl⟩, g4, g3, ?_, by rw [g2]; exact h1 hp⟩
      refine .tup rfl fun i hi hi' => ?_
      have : i = 0 ∨ i = 1 ∨ i = 2 := by simp at hi; omega
      rcases this with rfl | rfl | rfl <;> exact .p rfl
    · unfold Yields
      simp only [Sem.run_bind, run_next_end_at w q.1 s pos ty hHq hp, Result.andThen_ok, Sem.run_pure]
      refine ⟨e, _, hH, WS.refl w, hr, Ev.refl e, ?_, h2 (by omega)⟩
      refine .tup rfl fun i hi hi' => ?_
      have : i = 0 := by simpa using hi
      subst this
      exact .p rfl

theorem y_rngm0 {t k el : TypeId} (hu : P.underlying t = some (.map k el)) (hH : e.H = w.heap) (hr : HR e) (hk : K (.it e.h.length) (e.h ++ [.mit none ([], none)])) :
    Yields P (do pure (.value (← Instr.range t (.map none)))) w (After e w K) :=
  y_obj (o := .mapIter none 0 #[] 0) (v := .pointer (some ⟨w.heap.size, 0, none⟩)) (run_range_nilMap w t k el hu) hH hr (fun e' h1 h2 h3 _ => .mit0 _ 0 #[] 0 h2 (by rw [h3]; simp)) (fun e' h1 h2 => it_vr h1 h2) hk

theorem y_rngm {t k el : TypeId} (hu : P.underlying t = some (.map k el)) {b : Nat} {es : List (Value × DV)} {v : Value} (hv : VR e (.mp b) v) (hb : e.h[b]? = some (.map es)) (hH : e.H = w.heap) (hr : HR e)
    (hk : K (.it e.h.length) (e.h ++ [.mit (some b) (List.range es.length, none)])) : Yields P (do pure (.value (← Instr.range t v))) w (After e w K) := by
  have hkey : e.key b = some .m := by simp [Env.key, hb, Blk.key]
  obtain ⟨q, hq, rfl⟩ := vr_mp hv hkey
  have hB := hr.blk b _ hb
  have hlt : b < e.h.length := (List.getElem?_eq_some_iff.1 hb).1
  cases hB with
  | map q' res clock hq' hHq hl hk1 hv1 hb1 hd1 =>
    rw [hq] at hq'
    cases hq'
    rw [hH] at hHq
    refine y_obj (o := .mapIter (some q.1) clock #[] clock) (v := .pointer (some ⟨w.heap.size, 0, none⟩)) (run_range_map w t k el q.1 res clock hu hHq) hH hr (fun e' h1 h2 h3 ev => ?_) (fun e' h1 h2 => it_vr h1 h2) hk
    have hkey' : e'.key b = some .m := by simp [Env.key, h1, List.getElem?_append_left hlt, hb, Blk.key]
    have hρ' : e'.ρ b = some q := by
      obtain ⟨k0, g1, g2, g3⟩ := ev.key b hlt _ hkey'
      rw [hkey] at g1
      cases g1
      rw [g3 rfl, hq]
    refine .mit _ q.1 clock #[] clock (by rw [h1]; simp; omega) h2 (by rw [h3]; simp) (fun _ => ⟨q, res, clock, hρ', rfl, by rw [h3, Array.getElem?_push_lt (lt_of_some hHq)]; rw [← hHq]; simp [lt_of_some hHq], fun j hj => ⟨hb1 j hj, hb1 j hj⟩, fun j hj => by simp [hl, hj], fun j hj => by simpa [hl] using hj, List.nodup_range, rfl, rfl, fun j hj => by cases hj⟩)


theorem y_nxtm0 {ty : TypeId} {b : Nat} {l : Lf} {v : Value} (hv : VR e (.it b) v) (hb : e.h[b]? = some (.mit none l)) (hH : e.H = w.heap) (hr : HR e) (hk : K (.tup [.p (.bool false)]) e.h) :
    Yields P (do pure (.value (← Instr.next v false ty))) w (After e w K) := by
  obtain ⟨q, hq, rfl⟩ := vr_it hv (k := .i) (by simp [Env.key, hb, Blk.key]) (.inr rfl)
  have hB := hr.blk b _ hb
  cases hB with
  | mit0 q' since seen last hq' hHq =>
    rw [hq] at hq'
    cases hq'
    rw [hH] at hHq
    have hrun : (Instr.next (.pointer (some ⟨q.1, 0, none⟩)) false ty).run P w = .ok (.tuple #[.bool false]) w := by
      simp [Instr.next, getObj, Sem.run, hHq]
    unfold Yields
    simp only [Sem.run_bind, hrun, Result.andThen_ok, Sem.run_pure]
    refine ⟨e, _, hH, WS.refl w, hr, Ev.refl e, ?_, hk⟩
    refine .tup rfl fun i hi hi' => ?_
    have : i = 0 := by simpa using hi
    subst this
    exact .p rfl

theorem y_nxtm {ty : TypeId} {b m : Nat} {l : Lf} {es : List (Value × DV)} {v : Value} (hv : VR e (.it b) v) (hb : e.h[b]? = some (.mit (some m) l)) (hm : e.h[m]? = some (.map es)) (hH : e.H = w.heap) (hr : HR e)
    (h1 : l.1 = [] → K (.tup [.p (.bool false)]) e.h) (h2 : ∀ j, j ∈ l.1 → (es.getD j default).1.oneCell' = true ∧ K (.tup [.p (.bool true), .p (es.getD j default).1, (es.getD j default).2]) (e.h.set b (.mit (some m) (l.1.erase j, some j)))) :
    Yields P (do pure (.value (← Instr.next v false ty))) w (After e w K) := by
  have hkb : e.key b = some .i := by simp [Env.key, hb, Blk.key]
  have hkm : e.key m = some .m := by simp [Env.key, hm, Blk.key]
  obtain ⟨q, hq, rfl⟩ := vr_it hv hkb (.inr rfl)
  have hB := hr.blk b _ hb
  have hM := hr.blk m _ hm
  have hbm : b ≠ m := fun h => by rw [h, hkm] at hkb; cases hkb
  cases hB with
  | mit q' rm since seen last hml hq' hHq hmm =>
    rw [hq] at hq'
    cases hq'
    obtain ⟨qm, res, clock, g1, g2, g3, g4, g5, g6, g7, g8, g9, g10⟩ := hmm hkm
    subst g2
    cases hM with
    | map q2 res2 clock2 hq2 hH2 hl hk2 hv2 hb2 hd2 =>
      rw [g1] at hq2
      cases hq2
      rw [g3] at hH2
      simp only [Option.some.injEq, Obj.map.injEq] at hH2
      obtain ⟨e1, e2⟩ := hH2
      subst e1
      rw [hH] at hHq g3
      have hne : q.1 ≠ qm.1 := fun h => hbm (hr.inj b m q qm (by rw [hkb]; simp) (by rw [hkm]; simp) hq g1 h)
      rcases run_next_at (P := P) w ty q.1 qm.1 since last seen res clock hHq g3 (fun x hx => by
          obtain ⟨j, hj, rfl⟩ := List.getElem_of_mem hx
          simpa using (g4 j (by simpa using hj)).1) (by rw [g8, g9]; exact Nat.le_refl _) with ⟨n1, n2⟩ | ⟨x, n1, w1, n2, n3⟩
      · have hl0 : l.1 = [] := by
          obtain ⟨l, cu⟩ := l
          cases l with
          | nil => rfl
          | cons j l =>
            have hj := g6 j List.mem_cons_self
            have hns := (g5 j hj).1 List.mem_cons_self
            have : res[j] ∈ leftOf res seen := by simp [leftOf, hns]
            have h0 : leftOf res seen = #[] := Array.eq_empty_of_size_eq_zero n1
            rw [h0] at this
            simp at this
        unfold Yields
        simp only [Sem.run_bind, n2, Result.andThen_ok, Sem.run_pure]
        refine ⟨e, _, hH, WS.refl w, hr, Ev.refl e, ?_, h1 hl0⟩
        refine .tup rfl fun i hi hi' => ?_
        have : i = 0 := by simpa using hi
        subst this
        exact .p rfl
      · have hx : x ∈ leftOf res seen := by simpa using n1
        simp only [leftOf, Array.mem_filter, Bool.not_eq_true', Array.contains_eq_mem, decide_eq_false_iff_not] at hx
        obtain ⟨hx1, hx2⟩ := hx
        obtain ⟨j, hj, rfl⟩ := Array.getElem_of_mem hx1
        have hjl : j ∈ l.1 := (g5 j hj).2 hx2
        obtain ⟨o1, o2⟩ := h2 j hjl
        have hw1 : w1.heap = w.heap := by rcases n2 with rfl | rfl <;> rfl
        have hws : WS w w1 := by rcases n2 with rfl | rfl <;> exact ⟨rfl, rfl, rfl⟩
        obtain ⟨e', p1, p2, p3, p4, p5⟩ := env_put (w := w1) (blk' := .mit (some m) (l.1.erase j, some j)) (o := .mapIter (some qm.1) since (seen.push res[j].born) clock) hr (hH.trans hw1.symm) hb (k := .i) rfl rfl hq (fun h => by cases h) (fun e' a1 a2 a3 a4 => by
          have hmlt : m < e.h.length := hml
          have hkey' : e'.key m = some .m := by simp [Env.key, a1, List.getElem?_set_ne hbm, hm, Blk.key]
          have hρ' : e'.ρ m = some qm := by
            obtain ⟨k0, q1, q2, q3⟩ := a4.key m hmlt _ hkey'
            rw [hkm] at q1
            cases q1
            rw [q3 rfl, g1]
          refine .mit q qm.1 since (seen.push res[j].born) clock (by rw [a1]; simpa using hml) a2 (by rw [a3, hw1]; simp [lt_of_some hHq]) (fun _ => ⟨qm, res, clock, hρ', rfl, by rw [a3, hw1, Array.getElem?_setIfInBounds_ne hne]; exact g3, fun i hi => ⟨(g4 i hi).1, by rw [← g8]; exact (g4 i hi).2⟩, fun i hi => ?_, fun i hi => g6 i (List.mem_of_mem_erase hi), g7.erase j, rfl, g9, fun i hi => by cases hi; exact ⟨hj, by simp⟩⟩)
          rw [g7.mem_erase_iff, g5 i hi]
          simp only [Array.mem_push, not_or]
          constructor
          · rintro ⟨r1, r2⟩
            exact ⟨r2, fun h => r1 (hd2 i j hi hj h)⟩
          · rintro ⟨r1, r2⟩
            exact ⟨fun h => r2 (by subst h; rfl), r1⟩)
        unfold Yields
        simp only [Sem.run_bind, n3, Result.andThen_ok, Sem.run_pure]
        have hjl' : j < es.length := by rw [hl]; exact hj
        have hes : es.getD j default = es[j] := by simp [List.getD, hjl']
        rw [hes] at o1 o2
        refine ⟨e', _, p1, hws.trans ⟨rfl, rfl, rfl⟩, p4, p3, ?_, by rw [p2]; exact o2⟩
        refine .tup rfl fun i hi hi' => ?_
        have : i = 0 ∨ i = 1 ∨ i = 2 := by simp at hi; omega
        rcases this with rfl | rfl | rfl
        · exact .p rfl
        · have := hk2 j hjl' hj
          simp only [List.getElem_cons_succ, List.getElem_cons_zero]
          show VR e' (.p es[j].1) res[j].key
          rw [← this]
          exact .p o1
        · exact (hv2 j hjl' hj).mono p3


theorem y_ent {b m : Nat} {l : List Nat} {j : Nat} {es : List (Value × DV)} {v : Value} (hv : VR e (.it b) v) (hb : e.h[b]? = some (.mit (some m) (l, some j))) (hm : e.h[m]? = some (.map es)) (hH : e.H = w.heap) (hr : HR e)
    (h1 : (es.getD j default).1.oneCell' = true) (h2 : K (.tup [.p (es.getD j default).1, (es.getD j default).2]) e.h) :
    Yields P (do pure (.value (← Instr.entry v))) w (After e w K) := by
  have hkb : e.key b = some .i := by simp [Env.key, hb, Blk.key]
  have hkm : e.key m = some .m := by simp [Env.key, hm, Blk.key]
  obtain ⟨q, hq, rfl⟩ := vr_it hv hkb (.inr rfl)
  have hB := hr.blk b _ hb
  have hM := hr.blk m _ hm
  cases hB with
  | mit q' rm since seen last hml hq' hHq hmm =>
    rw [hq] at hq'
    cases hq'
    obtain ⟨qm, res, clock, g1, g2, g3, g4, g5, g6, g7, g8, g9, g10⟩ := hmm hkm
    subst g2
    cases hM with
    | map q2 res2 clock2 hq2 hH2 hl hk2 hv2 hb2 hd2 =>
      rw [g1] at hq2
      cases hq2
      rw [g3] at hH2
      simp only [Option.some.injEq, Obj.map.injEq] at hH2
      obtain ⟨e1, e2⟩ := hH2
      subst e1
      rw [hH] at hHq g3
      obtain ⟨hj, hback⟩ := g10 j rfl
      have hfind : res.find? (fun x => x.born == res[j].born) = some res[j] := by
        cases hf : res.find? (fun x => x.born == res[j].born) with
        | none =>
          have := Array.find?_eq_none.1 hf res[j] (Array.getElem_mem hj)
          simp at this
        | some y =>
          have h3 := Array.find?_some hf
          have h4 := Array.mem_of_find?_eq_some hf
          obtain ⟨i, hi, rfl⟩ := Array.getElem_of_mem h4
          have := hd2 i j hi hj (by simpa using h3)
          subst this
          rfl
      have hrun : (Instr.entry (.pointer (some ⟨q.1, 0, none⟩))).run P w = .ok (.tuple #[res[j].key, res[j].val]) w := by
        simp [Instr.entry, getObj, Sem.run, hHq, hback, g3, g8, hfind]
      have hje : j < es.length := by rw [hl]; exact hj
      have hes : es.getD j default = es[j] := by simp [List.getD, hje]
      rw [hes] at h1 h2
      unfold Yields
      simp only [Sem.run_bind, hrun, Result.andThen_ok, Sem.run_pure]
      refine ⟨e, _, hH, WS.refl w, hr, Ev.refl e, ?_, h2⟩
      refine .tup rfl fun i hi hi' => ?_
      have : i = 0 ∨ i = 1 := by simp at hi; omega
      rcases this with rfl | rfl
      · have := hk2 j hje hj
        show VR e (.p es[j].1) res[j].key
        rw [← this]
        exact .p h1
      · exact hv2 j hje hj

end
end Go.Den
