/- The library: contracts of functions over denoted values (A). -/
import Derived.Calls
import Derived.Orders
import Derived.Still
import Derived.Laws.Sem
import Derived.Laws.World
import Derived.Laws.Entries
import Derived.Laws.Cells
import Derived.KernelRfl
set_option linter.unusedVariables false
set_option linter.unusedSimpArgs false
set_option linter.unusedSectionVars false
set_option linter.unnecessarySimpa false
namespace Go.Den
open Go

/-- Abstract values. 'p': a value that holds no address; 'ptr': into block b, at element i, cell o, of a row of x elements; 'sl': elements i .. i+n of such a row; 'sa': a slice of an array: n elements of z cells (g: structured) from cell o of element i on; 'fz': a slice that nobody writes any more, as its elements (each of so many cells); 'fp': a pointer to memory that nobody writes any more; 'mp': a map; 'it': an iterator. -/
inductive DV where
  | p (v : Value)
  | any
  | ptr (b i o x : Nat)
  | sl (b i n x : Nat)
  | sa (g : Bool) (z b i o n c x : Nat)
  | fz (sz : Nat) (l : List DV)
  | fp (v : DV)
  | agg (cs : List DV)
  | tup (vs : List DV)
  | mp (b : Nat)
  | it (b : Nat)
  | iface (t : TypeId) (v : DV)
  | fn (f : Fn) (first cap : List DV)
  deriving Inhabited

/-- An iterator over a map: the entries that are left; the one where it stands. -/
abbrev Lf := List Nat × Option Nat

/-- Abstract blocks. -/
inductive Blk where
  | dead
  | cells (sz : Nat) (els : List DV)
  | map (es : List (Value × DV))
  | sit (s : ByteArray) (pos : Nat)
  | mit (m : Option Nat) (left : Lf)
  deriving Inhabited

/-- What a reference into a block leans on. -/
inductive Key where
  | c (sz n : Nat)
  | m
  | s
  | i
  deriving DecidableEq

def Blk.key : Blk → Option Key
  | .dead => none
  | .cells sz els => some (.c sz els.length)
  | .map _ => some .m
  | .sit _ _ => some .s
  | .mit _ _ => some .i

/-- Grown: of the same kind, no shorter. -/
def Key.le : Key → Key → Prop
  | .c sz n, .c sz' n' => sz = sz' ∧ n ≤ n'
  | .m, .m => True
  | .s, .s => True
  | .i, .i => True
  | _, _ => False

theorem Key.le_refl (k : Key) : Key.le k k := by cases k <;> simp [Key.le]
theorem Key.le_trans {a b c : Key} (h : Key.le a b) (h' : Key.le b c) : Key.le a c := by
  cases a <;> cases b <;> simp only [Key.le] at h <;> cases c <;> simp only [Key.le] at h' ⊢
  exact ⟨h.1.trans h'.1, Nat.le_trans h.2 h'.2⟩
theorem Key.le_antisymm {a b : Key} (h : Key.le a b) (h' : Key.le b a) : a = b := by
  cases a <;> cases b <;> simp only [Key.le] at h h' ⊢
  rw [h.1, Nat.le_antisymm h.2 h'.2]

structure Env where
  ρ : Nat → Option (Nat × Nat)
  h : List Blk
  H : Array Obj

def Env.key (e : Env) (b : Nat) : Option Key := (e.h[b]?).bind Blk.key

/-- A block of the machine that no living block stands for. -/
def RO (e : Env) (r : Nat) : Prop := r < e.H.size ∧ ∀ b q, e.key b ≠ none → e.ρ b = some q → q.1 ≠ r

def cellAt (H : Array Obj) (r o : Nat) : Option Value :=
  match H[r]? with
  | some (.cells c _ _) => c[o]?
  | _ => none

theorem cellAt_cell? (w : World) (r o : Nat) : w.cell? ⟨r, o, none⟩ = cellAt w.heap r o := by
  unfold World.cell? cellAt
  dsimp only
  split <;> simp_all

/-- All cells are single ones. -/
def Cells1 (v : Value) : Prop := ∀ i (hi : i < v.cells.size), v.cells[i].oneCell' = true

inductive VR (e : Env) : DV → Value → Prop
  | p {v : Value} (h1 : v.oneCell' = true) : VR e (.p v) v
  | any {v : Value} : VR e .any v
  | ptr {b i o x : Nat} {v : Value} (hb : b < e.h.length) (h : ∀ sz n, e.key b = some (.c sz n) → x ≤ n ∧ (x = n → i < n ∧ ∃ q, e.ρ b = some q ∧ v = .pointer (some ⟨q.1, i * sz + o, none⟩))) (h1 : v.oneCell' = true) : VR e (.ptr b i o x) v
  | sl {b i n x : Nat} {v : Value} (hb : b < e.h.length)
      (h : ∀ sz m, e.key b = some (.c sz m) → x ≤ m ∧ (x = m → i + n ≤ m ∧ ((e.ρ b = none ∧ v = .slice none 0 0) ∨ ∃ q a cap, e.ρ b = some q ∧ v = .slice (some a) n cap ∧ n ≤ cap ∧ (i + cap) * sz ≤ q.2 ∧ (0 < cap → a = ⟨q.1, i * sz, none⟩)))) (h1 : ∃ a c, v = .slice a n c) : VR e (.sl b i n x) v
  | sa {g : Bool} {z b i o n c x : Nat} {v : Value} (hb : b < e.h.length) (hg : g = false → z = 1)
      (h : ∀ sz m, e.key b = some (.c sz m) → x ≤ m ∧ (x = m → i < m ∧ ∃ q a, e.ρ b = some q ∧ v = .slice (some a) n c ∧ n ≤ c ∧ o + c * z ≤ sz ∧ (0 < c → a = ⟨q.1, i * sz + o, none⟩))) (h1 : ∃ a, v = .slice a n c) : VR e (.sa g z b i o n c x) v
  | fz0 {sz : Nat} {a : Option Addr} {cap : Nat} : VR e (.fz sz []) (.slice a 0 cap)
  | fz {sz : Nat} {l : List DV} {a : Addr} {cap : Nat} (vs : Nat → Value) (hs : a.spot = none) (hc : l.length ≤ cap) (hr : RO e a.block)
      (hv : ∀ j (hj : j < l.length), VR e l[j] (vs j)) (hsz : ∀ j, j < l.length → (vs j).cells.size = sz) (h1 : ∀ j, j < l.length → Cells1 (vs j))
      (hcell : ∀ j, j < l.length → ∀ k, k < sz → cellAt e.H a.block (a.off + j * sz + k) = (vs j).cells[k]?) : VR e (.fz sz l) (.slice (some a) l.length cap)
  | fp {d : DV} {a : Addr} (v0 : Value) (hs : a.spot = none) (hr : RO e a.block) (hv : VR e d v0)
      (hcell : ∀ k, k < v0.cells.size → cellAt e.H a.block (a.off + k) = v0.cells[k]?) : VR e (.fp d) (.pointer (some a))
  | agg {cs : List DV} {vs : Array Value} (hl : cs.length = vs.size) (h1 : ∀ i (hi : i < vs.size), vs[i].oneCell' = true) (h : ∀ i (hi : i < cs.length) (hi' : i < vs.size), VR e cs[i] vs[i]) : VR e (.agg cs) (.agg vs)
  | tup {cs : List DV} {vs : Array Value} (hl : cs.length = vs.size) (h : ∀ i (hi : i < cs.length) (hi' : i < vs.size), VR e cs[i] vs[i]) : VR e (.tup cs) (.tuple vs)
  | mp {b : Nat} {v : Value} (hb : b < e.h.length) (h : e.key b = some .m → ∃ q, e.ρ b = some q ∧ v = .map (some q.1)) (h1 : v.oneCell' = true) : VR e (.mp b) v
  | it {b : Nat} {v : Value} (hb : b < e.h.length) (h : ∀ k, e.key b = some k → k = .s ∨ k = .i → ∃ q, e.ρ b = some q ∧ v = .pointer (some ⟨q.1, 0, none⟩)) (h1 : v.oneCell' = true) : VR e (.it b) v
  | iface {t : TypeId} {d : DV} {v : Value} (h : VR e d v) : VR e (.iface t d) (.iface t v)
  | fn {f : Fn} {ds es : List DV} {vs us : Array Value} (hl : ds.length = vs.size) (h : ∀ i (hi : i < ds.length) (hi' : i < vs.size), VR e ds[i] vs[i])
      (hl' : es.length = us.size) (h' : ∀ i (hi : i < es.length) (hi' : i < us.size), VR e es[i] us[i]) : VR e (.fn f ds es) (.func f vs us)

/-- From e to e': of what was there before, blocks below n: what can still be spoken of is as it was. -/
structure Ev (n : Nat) (e e' : Env) : Prop where
  len : n ≤ e'.h.length
  size : e.H.size ≤ e'.H.size
  ro : ∀ r, RO e r → RO e' r ∧ e'.H[r]? = e.H[r]?
  key : ∀ b, b < n → ∀ k', e'.key b = some k' → ∃ k, e.key b = some k ∧ Key.le k k' ∧ (k = k' → e'.ρ b = e.ρ b)

theorem Ev.refl (e : Env) : Ev e.h.length e e := ⟨Nat.le_refl _, Nat.le_refl _, fun r h => ⟨h, rfl⟩, fun b _ k' h => ⟨k', h, Key.le_refl _, fun _ => rfl⟩⟩
theorem Ev.refl' {n : Nat} (e : Env) (h : n ≤ e.h.length) : Ev n e e := ⟨h, Nat.le_refl _, fun r h => ⟨h, rfl⟩, fun b _ k' h => ⟨k', h, Key.le_refl _, fun _ => rfl⟩⟩
theorem Ev.trans {n m : Nat} {a b c : Env} (h : Ev n a b) (h' : Ev m b c) (hnm : n ≤ m) : Ev n a c := by
  refine ⟨Nat.le_trans hnm h'.len, Nat.le_trans h.size h'.size, fun r hr => ?_, fun x hx k'' hk => ?_⟩
  · obtain ⟨h1, h2⟩ := h.ro r hr
    obtain ⟨h3, h4⟩ := h'.ro r h1
    exact ⟨h3, h4.trans h2⟩
  · obtain ⟨k', h1, h2, h3⟩ := h'.key x (by omega) k'' hk
    obtain ⟨k, h4, h5, h6⟩ := h.key x hx k' h1
    refine ⟨k, h4, Key.le_trans h5 h2, fun he => ?_⟩
    subst he
    have : k' = k := Key.le_antisymm h2 h5
    subst this
    rw [h3 rfl, h6 rfl]
theorem Ev.mono {n m : Nat} {a b : Env} (h : Ev n a b) (hm : m ≤ n) : Ev m a b := ⟨by have := h.len; omega, h.size, h.ro, fun x hx => h.key x (by omega)⟩

theorem cellAt_eq {H H' : Array Obj} {r : Nat} (h : H'[r]? = H[r]?) (o : Nat) : cellAt H' r o = cellAt H r o := by simp only [cellAt, h]

/-- All blocks that a value speaks of are among these. -/
inductive WF (B : Nat → Prop) : DV → Prop
  | p {v : Value} : WF B (.p v)
  | any : WF B .any
  | ptr {b i o x : Nat} (h : B b) : WF B (.ptr b i o x)
  | sl {b i n x : Nat} (h : B b) : WF B (.sl b i n x)
  | sa {g : Bool} {z b i o n c x : Nat} (h : B b) : WF B (.sa g z b i o n c x)
  | fz {sz : Nat} {l : List DV} (h : ∀ j (hj : j < l.length), WF B l[j]) : WF B (.fz sz l)
  | fp {d : DV} (h : WF B d) : WF B (.fp d)
  | agg {l : List DV} (h : ∀ j (hj : j < l.length), WF B l[j]) : WF B (.agg l)
  | tup {l : List DV} (h : ∀ j (hj : j < l.length), WF B l[j]) : WF B (.tup l)
  | mp {b : Nat} (h : B b) : WF B (.mp b)
  | it {b : Nat} (h : B b) : WF B (.it b)
  | iface {t : TypeId} {d : DV} (h : WF B d) : WF B (.iface t d)
  | fn {f : Fn} {l m : List DV} (h : ∀ j (hj : j < l.length), WF B l[j]) (h' : ∀ j (hj : j < m.length), WF B m[j]) : WF B (.fn f l m)

theorem WF.mono {B B' : Nat → Prop} (hB : ∀ b, B b → B' b) {d : DV} (h : WF B d) : WF B' d := by
  induction h with
  | p => exact .p
  | any => exact .any
  | ptr h => exact .ptr (hB _ h)
  | sl h => exact .sl (hB _ h)
  | sa h => exact .sa (hB _ h)
  | fz _ ih => exact .fz ih
  | fp _ ih => exact .fp ih
  | agg _ ih => exact .agg ih
  | tup _ ih => exact .tup ih
  | mp h => exact .mp (hB _ h)
  | it h => exact .it (hB _ h)
  | iface _ ih => exact .iface ih
  | fn _ _ ih ih' => exact .fn ih ih'

theorem VR.wf {e : Env} {d : DV} {v : Value} (h : VR e d v) : WF (· < e.h.length) d := by
  induction h with
  | p _ => exact .p
  | any => exact .any
  | ptr hb _ _ => exact .ptr hb
  | sl hb _ _ => exact .sl hb
  | sa hb _ _ _ => exact .sa hb
  | fz0 => exact .fz (fun j hj => absurd hj (by simp))
  | fz _ _ _ _ _ _ _ _ ih => exact .fz ih
  | fp _ _ _ _ _ ih => exact .fp ih
  | agg hl _ _ ih => exact .agg fun j hj => ih j hj (hl ▸ hj)
  | tup hl _ ih => exact .tup fun j hj => ih j hj (hl ▸ hj)
  | mp hb _ _ => exact .mp hb
  | it hb _ _ => exact .it hb
  | iface _ ih => exact .iface ih
  | fn hl _ hl' _ ih ih' => exact .fn (fun j hj => ih j hj (hl ▸ hj)) (fun j hj => ih' j hj (hl' ▸ hj))

/-- What may change while the values that speak of the blocks B stay as they are. -/
structure EvB (B : Nat → Prop) (e e' : Env) : Prop where
  len : ∀ b, B b → b < e'.h.length
  ro : ∀ r, RO e r → RO e' r ∧ e'.H[r]? = e.H[r]?
  key : ∀ b, B b → ∀ k', e'.key b = some k' → ∃ k, e.key b = some k ∧ Key.le k k' ∧ (k = k' → e'.ρ b = e.ρ b)

theorem Ev.toB {n : Nat} {e e' : Env} (h : Ev n e e') : EvB (· < n) e e' := ⟨fun b hb => Nat.lt_of_lt_of_le hb h.len, h.ro, h.key⟩

theorem VR.gen {B : Nat → Prop} {e e' : Env} {d : DV} {v : Value} (h : VR e d v) (ev : EvB B e e') (hw : WF B d) : VR e' d v := by
  induction h with
  | p h1 => exact .p h1
  | any => exact .any
  | ptr hb h h1 =>
    cases hw with
    | ptr hB =>
    refine .ptr (ev.len _ hB) (fun sz n hk => ?_) h1
    obtain ⟨k, h2, h3, h4⟩ := ev.key _ hB _ hk
    cases k with
    | c sz' n' =>
      simp only [Key.le] at h3
      obtain ⟨rfl, h3⟩ := h3
      obtain ⟨h5, h6⟩ := h _ _ h2
      refine ⟨Nat.le_trans h5 h3, fun hx => ?_⟩
      subst hx
      obtain rfl : n' = _ := Nat.le_antisymm h3 h5
      obtain ⟨h7, q, h8, h9⟩ := h6 rfl
      exact ⟨h7, q, by rw [h4 rfl]; exact h8, h9⟩
    | _ => simp [Key.le] at h3
  | sl hb h h1 =>
    cases hw with
    | sl hB =>
    refine .sl (ev.len _ hB) (fun sz m hk => ?_) h1
    obtain ⟨k, h2, h3, h4⟩ := ev.key _ hB _ hk
    cases k with
    | c sz' n' =>
      simp only [Key.le] at h3
      obtain ⟨rfl, h3⟩ := h3
      obtain ⟨h5, h6⟩ := h _ _ h2
      refine ⟨Nat.le_trans h5 h3, fun hx => ?_⟩
      subst hx
      obtain rfl : n' = _ := Nat.le_antisymm h3 h5
      rw [h4 rfl]
      exact h6 rfl
    | _ => simp [Key.le] at h3
  | sa hb hg h h1 =>
    cases hw with
    | sa hB =>
    refine .sa (ev.len _ hB) hg (fun sz m hk => ?_) h1
    obtain ⟨k, h2, h3, h4⟩ := ev.key _ hB _ hk
    cases k with
    | c sz' n' =>
      simp only [Key.le] at h3
      obtain ⟨rfl, h3⟩ := h3
      obtain ⟨h5, h6⟩ := h _ _ h2
      refine ⟨Nat.le_trans h5 h3, fun hx => ?_⟩
      subst hx
      obtain rfl : n' = _ := Nat.le_antisymm h3 h5
      rw [h4 rfl]
      exact h6 rfl
    | _ => simp [Key.le] at h3
  | fz0 => exact .fz0
  | fz vs hs hc hr hv hsz h1 hcell ih =>
    cases hw with
    | fz hw =>
    refine .fz vs hs hc (ev.ro _ hr).1 (fun j hj => ih j hj (hw j hj)) hsz h1 fun j hj k hk => ?_
    rw [cellAt_eq (ev.ro _ hr).2]
    exact hcell j hj k hk
  | fp v0 hs hr hv hcell ih =>
    cases hw with
    | fp hw =>
    refine .fp v0 hs (ev.ro _ hr).1 (ih hw) fun k hk => ?_
    rw [cellAt_eq (ev.ro _ hr).2]
    exact hcell k hk
  | agg hl h1 h ih =>
    cases hw with
    | agg hw => exact .agg hl h1 fun i hi hi' => ih i hi hi' (hw i hi)
  | tup hl h ih =>
    cases hw with
    | tup hw => exact .tup hl fun i hi hi' => ih i hi hi' (hw i hi)
  | mp hb h h1 =>
    cases hw with
    | mp hB =>
    refine .mp (ev.len _ hB) (fun hk => ?_) h1
    obtain ⟨k, h2, h3, h4⟩ := ev.key _ hB _ hk
    cases k <;> simp [Key.le] at h3
    rw [h4 rfl]
    exact h h2
  | it hb h h1 =>
    cases hw with
    | it hB =>
    refine .it (ev.len _ hB) (fun k' hk hs => ?_) h1
    obtain ⟨k, h2, h3, h4⟩ := ev.key _ hB _ hk
    have : k = k' := by rcases hs with rfl | rfl <;> cases k <;> simp_all [Key.le]
    rw [h4 this]
    exact h _ h2 (this ▸ hs)
  | iface _ ih =>
    cases hw with
    | iface hw => exact .iface (ih hw)
  | fn hl h hl' h' ih ih' =>
    cases hw with
    | fn hw hw' => exact .fn hl (fun i hi hi' => ih i hi hi' (hw i hi)) hl' (fun i hi hi' => ih' i hi hi' (hw' i hi))

theorem VR.mono {e e' : Env} {d : DV} {v : Value} (h : VR e d v) (ev : Ev e.h.length e e') : VR e' d v := h.gen ev.toB h.wf

theorem VR.one {e : Env} {d : DV} {v : Value} (h : VR e d v) : (match d with | .any | .agg _ | .tup _ => true | _ => v.oneCell') = true := by
  cases h with
  | p h => exact h
  | ptr _ _ h1 => exact h1
  | sl _ _ h1 => obtain ⟨a, c, rfl⟩ := h1; rfl
  | sa _ _ _ h1 => obtain ⟨a, rfl⟩ := h1; rfl
  | mp _ _ h1 => exact h1
  | it _ _ h1 => exact h1
  | _ => rfl

def DV.storable : DV → Bool
  | .any | .tup _ => false
  | _ => true

theorem VR.cells1 {e : Env} {d : DV} {v : Value} (h : VR e d v) (hd : d.storable = true) : Cells1 v := by
  have h0 := h.one
  have key : v.oneCell' = true → Cells1 v := by
    intro ho i hi
    have : v.cells = #[v] := by cases v <;> first | rfl | simp [Value.oneCell'] at ho
    simp only [this] at hi ⊢
    have : i = 0 := by simp at hi; exact hi
    subst this
    simpa using ho
  cases h with
  | any => cases hd
  | tup => cases hd
  | agg hl h1 h => exact fun i hi => h1 i hi
  | _ => exact key h0

/-- A living block, and what stands for it. -/
inductive BR (e : Env) (b : Nat) : Blk → Prop
  | dead : BR e b .dead
  | nil {sz : Nat} (h : e.ρ b = none) : BR e b (.cells sz [])
  | cells {sz : Nat} {els : List DV} (q : Nat × Nat) (c : Array Value) (T : TypeId) (fr : Nat × Nat) (vs : Nat → Value) (hq : e.ρ b = some q)
      (hH : e.H[q.1]? = some (.cells c T fr)) (hc : c.size = q.2) (hl : els.length * sz ≤ q.2) (hf : ∀ k, k < q.2 → ¬(fr.1 ≤ k ∧ k < fr.2))
      (hv : ∀ j (hj : j < els.length), VR e els[j] (vs j)) (hsz : ∀ j, j < els.length → (vs j).cells.size = sz) (h1 : ∀ j, j < els.length → Cells1 (vs j))
      (hcell : ∀ j, j < els.length → ∀ k, k < sz → c[j * sz + k]? = (vs j).cells[k]?) : BR e b (.cells sz els)
  | map {es : List (Value × DV)} (q : Nat × Nat) (res : Array MapEntry) (clock : Nat) (hq : e.ρ b = some q) (hH : e.H[q.1]? = some (.map res clock)) (hl : es.length = res.size)
      (hk : ∀ j (hj : j < es.length) (hj' : j < res.size), es[j].1 = res[j].key) (hv : ∀ j (hj : j < es.length) (hj' : j < res.size), VR e es[j].2 res[j].val)
      (hb : ∀ j (hj : j < res.size), res[j].born < clock) (hd : ∀ i j (hi : i < res.size) (hj : j < res.size), res[i].born = res[j].born → i = j) : BR e b (.map es)
  | sit {s : ByteArray} {pos : Nat} (q : Nat × Nat) (hq : e.ρ b = some q) (hH : e.H[q.1]? = some (.stringIter s pos)) : BR e b (.sit s pos)
  | mit0 (q : Nat × Nat) (since : Nat) (seen : Array Nat) (last : Nat) (hq : e.ρ b = some q) (hH : e.H[q.1]? = some (.mapIter none since seen last)) : BR e b (.mit none ([], none))
  | mit {m : Nat} {left : Lf} (q : Nat × Nat) (rm since : Nat) (seen : Array Nat) (last : Nat) (hml : m < e.h.length) (hq : e.ρ b = some q) (hH : e.H[q.1]? = some (.mapIter (some rm) since seen last))
      (hm : e.key m = some .m → ∃ qm res clock, e.ρ m = some qm ∧ qm.1 = rm ∧ e.H[rm]? = some (.map res clock) ∧ (∀ j (hj : j < res.size), res[j].born < since ∧ res[j].born < last) ∧
        (∀ j (hj : j < res.size), j ∈ left.1 ↔ res[j].born ∉ seen) ∧ (∀ j, j ∈ left.1 → j < res.size) ∧ left.1.Nodup ∧ last = clock ∧ since = clock ∧ ∀ j, left.2 = some j → ∃ hj : j < res.size, seen.back? = some (res[j]'hj).born) : BR e b (.mit (some m) left)

structure HR (e : Env) : Prop where
  inj : ∀ b b' q q', e.key b ≠ none → e.key b' ≠ none → e.ρ b = some q → e.ρ b' = some q' → q.1 = q'.1 → b = b'
  blk : ∀ b k, e.h[b]? = some k → BR e b k

end Go.Den
