/- The library: contracts of functions over denoted values (LibD). -/
import Derived.Test.YtppjcnaffphakaaGreatDoorLibC
import Derived.Scope
import Derived.Defers
import Derived.Test.YtppjcnaffphakaaGreatDoorLibA
import Derived.Below
set_option linter.unusedVariables false
set_option linter.unusedSimpArgs false
set_option linter.unusedSectionVars false
set_option linter.unnecessarySimpa false
namespace Go.Den
open Go

/-! Maps that a drawn region makes on the side: they are handed on when all is in them. -/

/-- The machine's memory goes on where no living block stands and nothing frozen leans. -/
structure Side (e e' : Env) : Prop where
  ρ : e'.ρ = e.ρ
  h : e'.h = e.h
  size : e.H.size ≤ e'.H.size
  H : ∀ r, r < e.H.size → e'.H[r]? = e.H[r]? ∨ e.pv r
  pv : ∀ r, r < e.H.size → e'.pv r → e.pv r
  pvs : ∀ r, e'.pv r → r < e'.H.size

theorem Side.key {e e' : Env} (s : Side e e') (b : Nat) : e'.key b = e.key b := by simp [Env.key, s.h]
theorem Side.ro {e e' : Env} (s : Side e e') {r : Nat} (h : RO e r) : RO e' r := ⟨Nat.lt_of_lt_of_le h.1 s.size, fun b q hk hq => h.2.1 b q (by rw [← s.key]; exact hk) (by rw [← s.ρ]; exact hq), fun hp => h.2.2 (s.pv r h.1 hp)⟩
theorem Side.Hro {e e' : Env} (s : Side e e') {r : Nat} (h : RO e r) : e'.H[r]? = e.H[r]? := (s.H r h.1).resolve_right h.2.2
theorem Side.cell {e e' : Env} (s : Side e e') {r : Nat} (h : RO e r) (o : Nat) : cellAt e'.H r o = cellAt e.H r o := cellAt_eq (s.Hro h) o
theorem VR.side {e e' : Env} (s : Side e e') {d : DV} {v : Value} (h : VR e d v) : VR e' d v := by
  induction h with
  | p h1 => exact .p h1
  | any => exact .any
  | ptr hb h h1 => exact .ptr (by rw [s.h]; exact hb) (fun sz n hk => by rw [s.ρ]; exact h sz n (by rw [← s.key]; exact hk)) h1
  | sl hb h h1 => exact .sl (by rw [s.h]; exact hb) (fun sz n hk => by rw [s.ρ]; exact h sz n (by rw [← s.key]; exact hk)) h1
  | sa hb hg h h1 => exact .sa (by rw [s.h]; exact hb) hg (fun sz n hk => by rw [s.ρ]; exact h sz n (by rw [← s.key]; exact hk)) h1
  | fz0 => exact .fz0
  | fz vs hs hc hr hv hsz h1 hcell ih => exact .fz vs hs hc (s.ro hr) ih hsz h1 fun j hj k hk => by rw [s.cell hr]; exact hcell j hj k hk
  | fp v0 hs hr hv hcell ih => exact .fp v0 hs (s.ro hr) ih fun k hk => by rw [s.cell hr]; exact hcell k hk
  | agg hl h1 h ih => exact .agg hl h1 ih
  | tup hl h ih => exact .tup hl ih
  | mp hb h h1 => exact .mp (by rw [s.h]; exact hb) (fun hk => by rw [s.ρ]; exact h (by rw [← s.key]; exact hk)) h1
  | it hb h h1 => exact .it (by rw [s.h]; exact hb) (fun k hk hs => by rw [s.ρ]; exact h k (by rw [← s.key]; exact hk) hs) h1
  | iface _ ih => exact .iface ih
  | fn hl h hl' h' ih ih' => exact .fn hl ih hl' ih'
  | fm es res clock hr hH hp hkl hl hk hv ih => exact .fm es res clock (s.ro hr) (by rw [s.Hro hr]; exact hH) hp hkl hl hk ih
theorem HR.side {e e' : Env} (s : Side e e') (hr : HR e) : HR e' := by
  refine ⟨fun b b' q q' hk hk' h1 h2 => hr.inj b b' q q' (by rw [← s.key]; exact hk) (by rw [← s.key]; exact hk') (by rw [← s.ρ]; exact h1) (by rw [← s.ρ]; exact h2), fun b k hb => ?_, s.pvs, fun r h b q hk hq => ?_⟩
  rotate_left
  · have hk' : e.key b ≠ none := by rw [← s.key]; exact hk
    have hq' : e.ρ b = some q := by rw [← s.ρ]; exact hq
    rcases Nat.lt_or_ge r e.H.size with h1 | h1
    · exact hr.pvl r (s.pv r h1 h) b q hk' hq'
    · have := hr.lt hk' hq'; omega
  rw [s.h] at hb
  refine (hr.blk b k hb).keep (fun hk => by rw [Env.key_of hb]; exact hk) (fun _ _ _ _ => by rw [s.ρ]) (by rw [s.key]; exact Env.key_of hb) (by rw [s.h]; exact Nat.le_refl _) (fun m l _ _ h => by rw [← s.key]; exact h) (fun c q _ hk hq => ?_) (fun d v h => h.side s)
  rcases s.H _ (hr.lt hk hq) with h1 | h2
  · exact h1
  · exact (hr.pvl _ h2 c q hk hq rfl).elim

/-- As since the call began, blocks on the side left out. -/
def EvW (n : Nat) (e0 e : Env) : Prop := Ev n e0 ⟨e.ρ, e.h, e.H, e0.pv⟩
theorem EvW.step {n : Nat} {e0 e e' : Env} (h : EvW n e0 e) (ev : Ev e.h.length e e') (hr : HR e') (hs : ∀ r, e0.pv r → e.pv r) : EvW n e0 e' := by
  refine Ev.trans h (b := ⟨e.ρ, e.h, e.H, e0.pv⟩) (⟨ev.len, ev.size, fun r hro => ?_, ev.key, rfl, fun r hp => ev.pvH r (hs r hp)⟩ : Ev e.h.length ⟨e.ρ, e.h, e.H, e0.pv⟩ ⟨e'.ρ, e'.h, e'.H, e0.pv⟩) h.len
  by_cases hp : e.pv r
  · exact ⟨⟨Nat.lt_of_lt_of_le hro.1 ev.size, hr.pvl r (by rw [ev.pv]; exact hp), hro.2.2⟩, ev.pvH r hp⟩
  · obtain ⟨h1, h2⟩ := ev.ro r ⟨hro.1, hro.2.1, hp⟩
    exact ⟨⟨h1.1, h1.2.1, hro.2.2⟩, h2⟩
theorem EvW.side {n H0 : Nat} {e0 e e' : Env} (h : EvW n e0 e) (s : Side e e') (h0 : e0.H.size ≤ H0) (hpv : ∀ r, e0.pv r → r < H0) (hlo : ∀ r, r < H0 → e'.H[r]? = e.H[r]?) : EvW n e0 e' := by
  refine ⟨by show n ≤ e'.h.length; rw [s.h]; exact h.len, Nat.le_trans h.size s.size, fun r hr => ?_, fun b hb k' hk => ?_, rfl, fun r hp => (hlo r (hpv r hp)).trans (h.pvH r hp)⟩
  · obtain ⟨h1, h2⟩ := h.ro r hr
    refine ⟨⟨Nat.lt_of_lt_of_le h1.1 s.size, fun b q hk hq => h1.2.1 b q (by rw [Env.key] at hk ⊢; rw [← s.h]; exact hk) (by rw [← s.ρ]; exact hq), hr.2.2⟩, (hlo r (by have := hr.1; omega)).trans h2⟩
  · have hk' : e.key b = some k' := by rw [← s.key]; exact hk
    obtain ⟨k, h1, h2, h3⟩ := h.key b hb k' hk'
    exact ⟨k, h1, h2, fun he => by
      have := h3 he
      show e'.ρ b = e0.ρ b
      rw [s.ρ]; exact this⟩

/-- A literal map of a region: its slot; where it is made, handed on; the kind of its keys; what is put in: where, the key, the value's slot, where that is made. -/
structure MapI where
  slot : Nat
  at0 : Nat
  at1 : Nat
  ck : CK
  ins : List (Nat × Value × Nat × Nat)

def insAt (o : Oper) (m : Nat) : Option (Value × Nat) :=
  match o.op, o.guard, o.dst with
  | .insert _ (.tmp m') (.const k) (.tmp s), none, none => if m' = m then some (k, s) else none
  | _, _, _ => none
def insOf (ops : List Oper) (l : List DOper) (m : Nat) : List (Nat × Value × Nat × Nat) :=
  (List.range ops.length).filterMap fun i => (ops[i]?).bind fun o => (insAt o m).map fun x => (i, x.1, x.2, l.findIdx fun d => d.dst == some x.2)
def pubOf (ops : List Oper) (m : Nat) : Nat := ops.findIdx fun o => match o.op with | .move (.tmp m') => m' == m | _ => false
def mapAt (P : Program) (o : Oper) : Option (Nat × CK) :=
  match o.op, o.dst, o.guard with
  | .makeMap t none, some m, none => match P.underlying t with
    | some (.map kt _) => (kindOf P kt).map fun ck => (m, ck)
    | _ => none
  | _, _, _ => none
def mapsOf (P : Program) (ops : List Oper) (l : List DOper) : List MapI :=
  (List.range ops.length).filterMap fun i => (ops[i]?).bind fun o => (mapAt P o).bind fun x => if (insOf ops l x.1).isEmpty = true then none else some ⟨x.1, i, pubOf ops x.1, x.2, insOf ops l x.1⟩

def specials (ms : List MapI) : List Nat := ms.flatMap fun m => m.at0 :: m.at1 :: m.ins.map (·.1)
def mapOp (ms : List MapI) (i : Nat) (d : DOper) : DOper :=
  match ms.find? fun m => m.at0 == i with
  | some m => ⟨d.dst, .lmk, none⟩
  | none => match ms.find? fun m => m.at1 == i with
    | some m => ⟨d.dst, .lpb m.ck (m.ins.map (·.2.1)) (m.ins.map fun x => .t x.2.2.1), none⟩
    | none => if (specials ms).contains i = true then ⟨d.dst, .lin, none⟩ else d
def mapOps (ms : List MapI) (l : List DOper) : List DOper := (List.range l.length).map fun i => mapOp ms i (l.getD i default)

/-- A block that a region makes on the side: its slot; where it is made, filled; the types there; what it is filled with; its cells. -/
structure AlI where
  slot : Nat
  at0 : Nat
  at1 : Nat
  typ : TypeId
  typ1 : TypeId
  val : Operand
  sz : Nat
def alOp (ms : List MapI) : Option AlI → Nat → DOper → DOper
  | none, i, d => mapOp ms i d
  | some y, i, d => if i = y.at0 then ⟨none, .lmk, none⟩ else if i = y.at1 then ⟨some y.slot, .boxn y.sz (cOpd y.val), none⟩ else mapOp ms i d
def alOps (ms : List MapI) (al : Option AlI) (l : List DOper) : List DOper := (List.range l.length).map fun i => alOp ms al i (l.getD i default)
def alFill (P : Program) (ops : List Oper) (t : TypeId) (s i : Nat) (j : Nat) : Option AlI := (ops[j]?).bind fun p => match p.op, p.dst, p.guard with
  | .store t1 (.tmp s1) x, none, none => if s1 = s then (P.info? t).bind fun inf => inf.zero.map fun z => ⟨s, i, j, t, t1, x, z.cells.size⟩ else none
  | _, _, _ => none
def alMake (P : Program) (ops : List Oper) (i : Nat) : Option AlI := (ops[i]?).bind fun o => match o.op, o.dst, o.guard with
  | .alloc t, some s, none => (List.range ops.length).findSome? (alFill P ops t s i)
  | _, _, _ => none
def alFind (P : Program) (ops : List Oper) : Option AlI := (List.range ops.length).findSome? (alMake P ops)

/-- What must hold of a block made on the side. -/
structure AOne (P : Program) (ops : List Oper) (ms : List MapI) (M : List Nat) (y : AlI) : Prop where
  made : ∃ o i z, ops[y.at0]? = some o ∧ o.op = .alloc y.typ ∧ o.dst = some y.slot ∧ o.guard = none ∧ P.info? y.typ = some i ∧ i.zero = some z ∧ z.cells.size = y.sz
  fill : ∃ o g, ops[y.at1]? = some o ∧ o.op = .store y.typ1 (.tmp y.slot) y.val ∧ o.dst = none ∧ o.guard = none ∧ tyI P y.typ1 = some (g, y.sz) ∧ (M.getD y.at1 0).testBit y.at0 = true
  only : ∀ j o, ops[j]? = some o → o.dst = some y.slot → j = y.at0
  sp0 : y.at0 ∉ specials ms
  sp1 : y.at1 ∉ specials ms
def aone (P : Program) (ops : List Oper) (ms : List MapI) (M : List Nat) (y : AlI) : Bool :=
  (match tyI P y.typ1 with | some g => g.2 == y.sz | none => false) && (M.getD y.at1 0).testBit y.at0 && !(specials ms).contains y.at0 && !(specials ms).contains y.at1 &&
  allP ops.length fun j => ((ops[j]?).map fun o => o.dst != some y.slot || j == y.at0).getD true
theorem alFind_spec {P : Program} {ops : List Oper} {y : AlI} (h : alFind P ops = some y) : (∃ o i z, ops[y.at0]? = some o ∧ o.op = .alloc y.typ ∧ o.dst = some y.slot ∧ o.guard = none ∧ P.info? y.typ = some i ∧ i.zero = some z ∧ z.cells.size = y.sz) ∧
    ∃ o, ops[y.at1]? = some o ∧ o.op = .store y.typ1 (.tmp y.slot) y.val ∧ o.dst = none ∧ o.guard = none := by
  obtain ⟨i, _, h1⟩ := List.exists_of_findSome?_eq_some h
  obtain ⟨o, ho, h2⟩ := Option.bind_eq_some_iff.1 h1
  split at h2
  · rename_i t s g1 g2 g3
    obtain ⟨j, _, h3⟩ := List.exists_of_findSome?_eq_some h2
    obtain ⟨p, hp, h4⟩ := Option.bind_eq_some_iff.1 h3
    split at h4
    · rename_i t1 s1 x k1 k2 k3
      split at h4
      · rename_i hs
        subst hs
        obtain ⟨inf, h5, h6⟩ := Option.bind_eq_some_iff.1 h4
        obtain ⟨z, h7, rfl⟩ := Option.map_eq_some_iff.1 h6
        exact ⟨⟨o, inf, z, ho, g1, g2, g3, h5, h7, rfl⟩, p, hp, k1, k2, k3⟩
      · cases h4
    · cases h4
  · cases h2
theorem aone_sound {P : Program} {ops : List Oper} {ms : List MapI} {M : List Nat} {y : AlI} (hf : alFind P ops = some y) (h : aone P ops ms M y = true) : AOne P ops ms M y := by
  obtain ⟨h1, o, h2, h3, h4, h5⟩ := alFind_spec hf
  simp only [aone, Bool.and_eq_true] at h
  obtain ⟨⟨⟨⟨g1, g2⟩, g3⟩, g4⟩, g5⟩ := h
  refine ⟨h1, ?_, fun j o hj hd => ?_, by simpa using g3, by simpa using g4⟩
  · split at g1
    · rename_i g hg
      obtain ⟨ga, gb⟩ := g
      simp only [beq_iff_eq] at g1
      exact ⟨o, ga, h2, h3, h4, h5, by rw [hg, g1], g2⟩
    · cases g1
  · have := allP_iff g5 j (List.getElem?_eq_some_iff.1 hj).1
    rw [hj] at this
    simpa [hd] using this

/-- What must hold of a literal map. -/
structure MOne (P : Program) (ops : List Oper) (l : List DDOp) (M : List Nat) (m : MapI) : Prop where
  made : ∃ o t, ops[m.at0]? = some o ∧ o.op = .makeMap t none ∧ o.dst = some m.slot ∧ o.guard = none
  handed : ∃ o, ops[m.at1]? = some o ∧ o.op = .move (.tmp m.slot) ∧ o.guard = none ∧ (M.getD m.at1 0).testBit m.at0 = true
  dist : kdist m.ck (m.ins.map (·.2.1)) = true
  ins : ∀ x, x ∈ m.ins → (∃ o t kt et, ops[x.1]? = some o ∧ o.op = .insert t (.tmp m.slot) (.const x.2.1) (.tmp x.2.2.1) ∧ o.guard = none ∧ o.dst = none ∧ P.underlying t = some (.map kt et) ∧ kindOf P kt = some m.ck) ∧
    (M.getD x.1 0).testBit m.at0 = true ∧ (M.getD x.1 0).testBit x.2.2.2 = true ∧ (M.getD m.at1 0).testBit x.1 = true ∧ ∃ y, l[x.2.2.2]? = some y ∧ y.o.dst = some x.2.2.1
def mone (P : Program) (ops : List Oper) (l : List DDOp) (M : List Nat) (m : MapI) : Bool :=
  ((ops[m.at1]?).map fun o => (match o.op with | .move (.tmp s) => s == m.slot | _ => false) && o.guard.isNone && (M.getD m.at1 0).testBit m.at0).getD false &&
  kdist m.ck (m.ins.map (·.2.1)) &&
  m.ins.all fun x => ((ops[x.1]?).map fun o => match o.op with
    | .insert t _ _ _ => (match P.underlying t with | some (.map kt _) => decide (kindOf P kt = some m.ck) | _ => false)
    | _ => false).getD false && (M.getD x.1 0).testBit m.at0 && (M.getD x.1 0).testBit x.2.2.2 && (M.getD m.at1 0).testBit x.1 && ((l[x.2.2.2]?).map fun y => y.o.dst == some x.2.2.1).getD false
theorem mapsOf_spec {P : Program} {ops : List Oper} {l0 : List DOper} {m : MapI} (hm : m ∈ mapsOf P ops l0) : (∃ o t, ops[m.at0]? = some o ∧ o.op = .makeMap t none ∧ o.dst = some m.slot ∧ o.guard = none) ∧ m.ins = insOf ops l0 m.slot ∧ m.at1 = pubOf ops m.slot := by
  unfold mapsOf at hm
  obtain ⟨i, hi, h⟩ := List.mem_filterMap.1 hm
  obtain ⟨o, ho, h⟩ := Option.bind_eq_some_iff.1 h
  obtain ⟨x, hx, h⟩ := Option.bind_eq_some_iff.1 h
  split at h
  · cases h
  · cases h
    unfold mapAt at hx
    split at hx
    · rename_i t m' h1 h2 h3
      split at hx
      · obtain ⟨ck, _, rfl⟩ := Option.map_eq_some_iff.1 hx
        exact ⟨⟨o, t, ho, h1, h2, h3⟩, rfl, rfl⟩
      · cases hx
    · cases hx
theorem insOf_spec {ops : List Oper} {l0 : List DOper} {m : Nat} {x : Nat × Value × Nat × Nat} (hx : x ∈ insOf ops l0 m) : ∃ o t, ops[x.1]? = some o ∧ o.op = .insert t (.tmp m) (.const x.2.1) (.tmp x.2.2.1) ∧ o.guard = none ∧ o.dst = none := by
  unfold insOf at hx
  obtain ⟨i, hi, h⟩ := List.mem_filterMap.1 hx
  obtain ⟨o, ho, h⟩ := Option.bind_eq_some_iff.1 h
  obtain ⟨y, hy, rfl⟩ := Option.map_eq_some_iff.1 h
  unfold insAt at hy
  split at hy
  · rename_i t m' k s h1 h2 h3
    split at hy
    · rename_i hmm
      cases hy
      subst hmm
      exact ⟨o, t, ho, h1, h2, h3⟩
    · cases hy
  · cases hy
theorem mone_sound {P : Program} {ops : List Oper} {l0 : List DOper} {l : List DDOp} {M : List Nat} {m : MapI} (hm : m ∈ mapsOf P ops l0) (h : mone P ops l M m = true) : MOne P ops l M m := by
  obtain ⟨h1, h2, h3⟩ := mapsOf_spec hm
  simp only [mone, Bool.and_eq_true] at h
  obtain ⟨⟨hp, hd⟩, hi⟩ := h
  refine ⟨h1, ?_, hd, fun x hx => ?_⟩
  · cases ho : ops[m.at1]? with
    | none => rw [ho] at hp; cases hp
    | some o =>
      rw [ho] at hp
      simp only [Option.map_some, Option.getD_some, Bool.and_eq_true] at hp
      obtain ⟨⟨g1, g2⟩, g3⟩ := hp
      refine ⟨o, rfl, ?_, by simpa using g2, g3⟩
      split at g1
      · rename_i s hs
        rw [hs]
        have : s = m.slot := by simpa using g1
        rw [this]
      · cases g1
  · obtain ⟨o, t, g1, g2, g3, g4⟩ := insOf_spec (h2 ▸ hx)
    have hxi := List.all_eq_true.1 hi x hx
    simp only [g1, g2, Option.map_some, Option.getD_some, Bool.and_eq_true] at hxi
    obtain ⟨⟨⟨⟨k1, k2⟩, k3⟩, k4⟩, k5⟩ := hxi
    refine ⟨?_, k2, k3, k4, ?_⟩
    · split at k1
      · rename_i kt et hu
        exact ⟨o, t, kt, et, g1, g2, g3, g4, hu, by simpa using k1⟩
      · cases k1
    · cases hl : l[x.2.2.2]? with
      | none => rw [hl] at k5; cases k5
      | some y =>
        rw [hl] at k5
        exact ⟨y, rfl, by simpa using k5⟩
/-- A region that is drawn, its literal maps made on the side. -/
def slotsOf (ms : List MapI) : List Nat := ms.flatMap fun m => m.slot :: m.ins.map (·.2.2.1)
def topOf : List Nat → Nat
  | [] => 0
  | x :: l => max (x + 1) (topOf l)
theorem topOf_lt : ∀ {l : List Nat} {x : Nat}, x ∈ l → x < topOf l
  | [], x, h => absurd h (by simp)
  | y :: l, x, h => by
    simp only [topOf]
    rcases List.mem_cons.1 h with h | h
    · subst h; exact Nat.lt_of_lt_of_le (Nat.lt_succ_self _) (Nat.le_max_left _ _)
    · exact Nat.lt_of_lt_of_le (topOf_lt h) (Nat.le_max_right _ _)
def slotA : Option AlI → List Nat
  | none => []
  | some y => [y.slot]
def cDrawA (P : Program) (ops : Array Oper) (l : List DOper) (al : Option AlI) : Option (Nat × Option Nat × List DDOp) :=
  let M := masksFrom [] ops.toList
  let ms := mapsOf P ops.toList l
  let r := annot (alOps ms al l) M
  if chk ops.toList r M && P.follows .mixedOrders && decide (specials ms).Nodup && ms.all (mone P ops.toList r M) && al.all (aone P ops.toList ms M) then some (topOf (slotA al ++ slotsOf ms), al.map (·.slot), r) else none
def cDrawM (P : Program) (ops : Array Oper) : Option (Nat × Option Nat × List DDOp) :=
  match cOps P ops ops.toList with
  | none => none
  | some l => match cDrawA P ops l none with
    | some x => some x
    | none => match alFind P ops.toList with
      | some y => cDrawA P ops l (some y)
      | none => none
theorem cDrawA_spec {P : Program} {ops : Array Oper} {l0 : List DOper} {al : Option AlI} {nb : Nat} {sl : Option Nat} {r : List DDOp} (hal : ∀ y, al = some y → alFind P ops.toList = some y) (h : cDrawA P ops l0 al = some (nb, sl, r)) : r.map (·.o) = alOps (mapsOf P ops.toList l0) al l0 ∧ Chk ops.toList r (masksFrom [] ops.toList) ∧ P.follows .mixedOrders = true ∧ (specials (mapsOf P ops.toList l0)).Nodup ∧
    (∀ m, m ∈ mapsOf P ops.toList l0 → MOne P ops.toList r (masksFrom [] ops.toList) m) ∧ (∀ m, m ∈ mapsOf P ops.toList l0 → m.slot < nb ∧ ∀ z, z ∈ m.ins → z.2.2.1 < nb) ∧ (∀ y, al = some y → AOne P ops.toList (mapsOf P ops.toList l0) (masksFrom [] ops.toList) y ∧ y.slot < nb) ∧ sl = al.map (·.slot) := by
  simp only [cDrawA] at h
  split at h
  · rename_i hc
    cases h
    simp only [Bool.and_eq_true, decide_eq_true_eq] at hc
    obtain ⟨⟨⟨⟨h1, h2⟩, h3⟩, h4⟩, h5⟩ := hc
    refine ⟨annot_map _ _, chk_sound h1, h2, h3, fun m hm => mone_sound hm (List.all_eq_true.1 h4 m hm), fun m hm => ⟨topOf_lt (List.mem_append.2 (.inr (List.mem_flatMap.2 ⟨m, hm, by simp⟩))), fun z hz => topOf_lt (List.mem_append.2 (.inr (List.mem_flatMap.2 ⟨m, hm, by simp; exact .inr ⟨_, _, _, hz⟩⟩)))⟩, fun y hy => ?_, rfl⟩
    subst hy
    exact ⟨aone_sound (hal y rfl) (by simpa using h5), topOf_lt (by simp [slotA])⟩
  · cases h
theorem cDrawM_spec {P : Program} {ops : Array Oper} {nb : Nat} {sl : Option Nat} {r : List DDOp} (h : cDrawM P ops = some (nb, sl, r)) : ∃ l0 al, cOps P ops ops.toList = some l0 ∧ r.map (·.o) = alOps (mapsOf P ops.toList l0) al l0 ∧ Chk ops.toList r (masksFrom [] ops.toList) ∧ P.follows .mixedOrders = true ∧ (specials (mapsOf P ops.toList l0)).Nodup ∧
    (∀ m, m ∈ mapsOf P ops.toList l0 → MOne P ops.toList r (masksFrom [] ops.toList) m) ∧ (∀ m, m ∈ mapsOf P ops.toList l0 → m.slot < nb ∧ ∀ z, z ∈ m.ins → z.2.2.1 < nb) ∧ (∀ y, al = some y → AOne P ops.toList (mapsOf P ops.toList l0) (masksFrom [] ops.toList) y ∧ y.slot < nb) ∧ sl = al.map (·.slot) := by
  unfold cDrawM at h
  split at h
  · cases h
  · rename_i l hl
    split at h
    · rename_i x hx
      cases h
      exact ⟨l, none, hl, cDrawA_spec (fun y hy => by cases hy) hx⟩
    · split at h
      · rename_i y hy
        exact ⟨l, some y, hl, cDrawA_spec (fun y' hy' => by cases hy'; exact hy) h⟩
      · cases h

/-- A map that is being made: block r. -/
structure MOk (H0 : Nat) (pv0 : Nat → Prop) (vs : List DV) (listed : Array Bool) (e : Env) (a : Act) (m : MapI) (r : Nat) : Prop where
  lo : H0 ≤ r
  tmp : a.tmps[m.slot]? = some (.map (some r))
  lt : r < e.H.size
  npv : ¬ pv0 r
  pv : e.pv r
  obj : ∃ (es : List (Value × DV)) (res : Array MapEntry) (clock : Nat), e.H[r]? = some (.map res clock) ∧ es.Perm ((m.ins.filter fun x => DL listed x.1).map fun x => (x.2.1, vs.getD x.2.2.2 .any)) ∧ es.length = res.size ∧
    (∀ j (hj : j < es.length) (hj' : j < res.size), es[j].1 = res[j].key) ∧ (∀ j (hj : j < es.length) (hj' : j < res.size), VR e es[j].2 res[j].val)
def Pend (listed : Array Bool) (m : MapI) : Prop := DL listed m.at0 = true ∧ DL listed m.at1 = false
structure JM (ms : List MapI) (H0 : Nat) (pv0 : Nat → Prop) (vs : List DV) (listed : Array Bool) (e : Env) (a : Act) (r : Nat → Nat) : Prop where
  ok : ∀ (q : Nat) (m : MapI), ms[q]? = some m → Pend listed m → MOk H0 pv0 vs listed e a m (r q)
  inj : ∀ (q q' : Nat) (m m' : MapI), ms[q]? = some m → ms[q']? = some m' → Pend listed m → Pend listed m' → r q = r q' → q = q'
  pv : ∀ x, e.pv x ↔ (pv0 x ∨ ∃ (q : Nat) (m : MapI), ms[q]? = some m ∧ Pend listed m ∧ r q = x)
theorem Act.put_get {a : Act} {dst : Option Nat} {v : Value} {x : Nat} (h : dst ≠ some x) : (a.put dst v).tmps[x]? = a.tmps[x]? := by
  cases dst with
  | none => rfl
  | some d =>
    have : d ≠ x := fun e => h (by rw [e])
    simp [Act.put, Array.getElem?_setIfInBounds_ne this]
section
variable {ms : List MapI} {H0 : Nat} {pv0 : Nat → Prop} {vs : List DV} {listed : Array Bool} {e e' : Env} {a : Act} {r : Nat → Nat}
theorem mem_specials0 {m : MapI} (hm : m ∈ ms) : m.at0 ∈ specials ms := List.mem_flatMap.2 ⟨m, hm, by simp⟩
theorem mem_specials1 {m : MapI} (hm : m ∈ ms) : m.at1 ∈ specials ms := List.mem_flatMap.2 ⟨m, hm, by simp⟩
theorem mem_specialsI {m : MapI} (hm : m ∈ ms) {x : Nat × Value × Nat × Nat} (hx : x ∈ m.ins) : x.1 ∈ specials ms := List.mem_flatMap.2 ⟨m, hm, by simp; exact .inr (.inr ⟨_, _, _, hx⟩)⟩
/-- After another operation. -/
theorem MOk.other {m : MapI} {q : Nat} (h : MOk H0 pv0 vs listed e a m q) {listed' : Array Bool} {a' : Act} (hlt : q < e'.H.size) (hpv : e'.pv q) (hH : e'.H[q]? = e.H[q]?) (hv : ∀ d v, VR e d v → VR e' d v) (ht : a'.tmps[m.slot]? = a.tmps[m.slot]?)
    (hf : m.ins.filter (fun x => DL listed' x.1) = m.ins.filter (fun x => DL listed x.1)) : MOk H0 pv0 vs listed' e' a' m q := by
  obtain ⟨es, res, clock, h1, h2, h3, h4, h5⟩ := h.obj
  exact ⟨h.lo, ht.trans h.tmp, hlt, h.npv, hpv, es, res, clock, hH.trans h1, by rw [hf]; exact h2, h3, h4, fun j hj hj' => hv _ _ (h5 j hj hj')⟩
theorem JM.other (J : JM ms H0 pv0 vs listed e a r) {i : Nat} (hi : i < listed.size) (hs : i ∉ specials ms) {dst : Option Nat} {v : Value} (hd : ∀ m, m ∈ ms → dst ≠ some m.slot) (ev : Ev e.h.length e e') :
    JM ms H0 pv0 vs (listed.setIfInBounds i true) e' (a.put dst v) r := by
  have hDL : ∀ j, j ∈ specials ms → DL (listed.setIfInBounds i true) j = DL listed j := fun j hj => by
    rw [DL_set hi]
    have : ¬ j = i := fun h => hs (h ▸ hj)
    simp [this]
  have hP : ∀ m, m ∈ ms → (Pend (listed.setIfInBounds i true) m ↔ Pend listed m) := fun m hm => by
    simp only [Pend, hDL _ (mem_specials0 hm), hDL _ (mem_specials1 hm)]
  refine ⟨fun q m hq hp => ?_, fun q q' m m' hq hq' hp hp' => J.inj q q' m m' hq hq' ((hP m (List.mem_of_getElem? hq)).1 hp) ((hP m' (List.mem_of_getElem? hq')).1 hp'), fun x => ?_⟩
  · have hm := List.mem_of_getElem? hq
    have ok := J.ok q m hq ((hP m hm).1 hp)
    refine ok.other (Nat.lt_of_lt_of_le ok.lt ev.size) (by rw [ev.pv]; exact ok.pv) (ev.pvH _ ok.pv) (fun d v h => h.mono ev) (Act.put_get (hd m hm)) (List.filter_congr fun x hx => hDL _ (mem_specialsI hm hx))
  · rw [ev.pv, J.pv x]
    constructor
    · rintro (h | ⟨q, m, h1, h2, h3⟩)
      · exact .inl h
      · exact .inr ⟨q, m, h1, (hP m (List.mem_of_getElem? h1)).2 h2, h3⟩
    · rintro (h | ⟨q, m, h1, h2, h3⟩)
      · exact .inl h
      · exact .inr ⟨q, m, h1, (hP m (List.mem_of_getElem? h1)).1 h2, h3⟩
end

section
variable {ms : List MapI} {H0 : Nat} {pv0 : Nat → Prop} {vs : List DV} {listed : Array Bool} {e : Env} {a : Act} {r : Nat → Nat}
theorem special_ne (hn : (specials ms).Nodup) {q q' : Nat} {m m' : MapI} (hq : ms[q]? = some m) (hq' : ms[q']? = some m') (hne : q ≠ q') {x y : Nat} (hx : x ∈ m.at0 :: m.at1 :: m.ins.map (·.1)) (hy : y ∈ m'.at0 :: m'.at1 :: m'.ins.map (·.1)) : x ≠ y := by
  have h := (List.pairwise_flatMap.1 (show List.Pairwise (· ≠ ·) (specials ms) from hn)).2
  obtain ⟨h1, rfl⟩ := List.getElem?_eq_some_iff.1 hq
  obtain ⟨h2, rfl⟩ := List.getElem?_eq_some_iff.1 hq'
  rcases Nat.lt_or_gt_of_ne hne with h3 | h3
  · exact List.pairwise_iff_getElem.1 h q q' h1 h2 h3 x hx y hy
  · exact (List.pairwise_iff_getElem.1 h q' q h2 h1 h3 y hy x hx).symm
theorem special_in (hn : (specials ms).Nodup) {m : MapI} (hm : m ∈ ms) : (m.at0 :: m.at1 :: m.ins.map (·.1)).Nodup := (List.pairwise_flatMap.1 (show List.Pairwise (· ≠ ·) (specials ms) from hn)).1 m hm

/-- Of the other maps nothing changes. -/
theorem pend_ne (hn : (specials ms).Nodup) {i : Nat} (hi : i < listed.size) {q q' : Nat} {m m' : MapI} (hq : ms[q]? = some m) (hx : i ∈ m.at0 :: m.at1 :: m.ins.map (·.1)) (hq' : ms[q']? = some m') (hne : q ≠ q') :
    (Pend (listed.setIfInBounds i true) m' ↔ Pend listed m') ∧ (m'.ins.filter fun x => DL (listed.setIfInBounds i true) x.1) = m'.ins.filter fun x => DL listed x.1 := by
  have h : ∀ y, y ∈ m'.at0 :: m'.at1 :: m'.ins.map (·.1) → DL (listed.setIfInBounds i true) y = DL listed y := fun y hy => by
    rw [DL_set hi]
    have : ¬ y = i := fun h => special_ne hn hq hq' hne hx hy h.symm
    simp [this]
  refine ⟨by simp only [Pend, h m'.at0 (by simp), h m'.at1 (by simp)], List.filter_congr fun x hx => h _ (by simp; exact .inr (.inr ⟨_, _, _, hx⟩))⟩

/-- A map is made. -/
theorem JM.made (J : JM ms H0 pv0 vs listed e a r) (hr : HR e) (hn : (specials ms).Nodup) {q : Nat} {m : MapI} (hq : ms[q]? = some m) (hi : m.at0 < listed.size) (h0 : DL listed m.at0 = false) (h1 : DL listed m.at1 = false) (h2 : ∀ x, x ∈ m.ins → DL listed x.1 = false) (hlo : H0 ≤ e.H.size) (hpv0 : ∀ x, pv0 x → x < e.H.size)
    (hs : m.slot < a.tmps.size) (hu : ∀ (q' : Nat) (m' : MapI), ms[q']? = some m' → m'.slot = m.slot → q' = q) :
    let e1 : Env := ⟨e.ρ, e.h, e.H.push (.map #[] 0), fun x => e.pv x ∨ x = e.H.size⟩
    Side e e1 ∧ JM ms H0 pv0 vs (listed.setIfInBounds m.at0 true) e1 (a.put (some m.slot) (.map (some e.H.size))) (fun x => if x = q then e.H.size else r x) := by
  intro e1
  have hm := List.mem_of_getElem? hq
  have hold : ∀ x, x < e.H.size → e1.H[x]? = e.H[x]? := fun x hx => by simp only [e1]; rw [Array.getElem?_push_lt hx, Array.getElem?_eq_getElem hx]
  have sd : Side e e1 := ⟨rfl, rfl, by simp [e1], fun x hx => .inl (hold x hx), fun x hx h => h.resolve_right (by omega), fun x h => by
    simp only [e1, Array.size_push]
    rcases h with h | h
    · have := hr.pvs x h; omega
    · omega⟩
  refine ⟨sd, ?_⟩
  have h01 : m.at0 ≠ m.at1 := fun h => by have := special_in hn hm; rw [h] at this; simp at this
  have hpm : Pend (listed.setIfInBounds m.at0 true) m := by
    refine ⟨by rw [DL_set hi]; simp, ?_⟩
    rw [DL_set hi, h1]
    simp [Ne.symm h01]
  have hmem : m.at0 ∈ m.at0 :: m.at1 :: m.ins.map (·.1) := by simp
  have hlt : ∀ (q' : Nat) (m' : MapI), ms[q']? = some m' → Pend listed m' → r q' < e.H.size := fun q' m' hq' hp' => (J.ok q' m' hq' hp').lt
  refine ⟨fun q' m' hq' hp' => ?_, fun q1 q2 m1 m2 g1 g2 p1 p2 he => ?_, fun x => ?_⟩
  · by_cases hqq : q' = q
    · subst hqq
      rw [hq] at hq'
      cases hq'
      rw [if_pos rfl]
      refine ⟨hlo, by simp [Act.put, hs], by simp [e1], fun h => by have := hpv0 _ h; omega, .inr rfl, [], #[], 0, by simp [e1], ?_, rfl, fun j hj => absurd hj (by simp), fun j hj => absurd hj (by simp)⟩
      · have : m.ins.filter (fun x => DL (listed.setIfInBounds m.at0 true) x.1) = [] := by
          rw [List.filter_eq_nil_iff]
          intro x hx
          rw [DL_set hi, h2 x hx]
          have hne : x.1 ≠ m.at0 := fun h => by
            have := special_in hn hm
            simp only [List.nodup_cons, List.mem_cons, not_or] at this
            exact this.1.2 (h ▸ List.mem_map_of_mem hx)
          simp [hne]
        rw [this]
        exact .nil
    · rw [if_neg hqq]
      obtain ⟨k1, k2⟩ := pend_ne (listed := listed) hn hi hq hmem hq' (Ne.symm hqq)
      have ok := J.ok q' m' hq' (k1.1 hp')
      exact ok.other (Nat.lt_of_lt_of_le ok.lt sd.size) (.inl ok.pv) (hold _ ok.lt) (fun d v h => h.side sd) (Act.put_get fun h => hqq (hu q' m' hq' (by simpa using h.symm))) k2
  · by_cases e1q : q1 = q <;> by_cases e2q : q2 = q
    · rw [e1q, e2q]
    · rw [if_pos e1q, if_neg e2q] at he
      have := hlt q2 m2 g2 ((pend_ne (listed := listed) hn hi hq hmem g2 (Ne.symm e2q)).1.1 p2)
      omega
    · rw [if_neg e1q, if_pos e2q] at he
      have := hlt q1 m1 g1 ((pend_ne (listed := listed) hn hi hq hmem g1 (Ne.symm e1q)).1.1 p1)
      omega
    · rw [if_neg e1q, if_neg e2q] at he
      exact J.inj q1 q2 m1 m2 g1 g2 ((pend_ne (listed := listed) hn hi hq hmem g1 (Ne.symm e1q)).1.1 p1) ((pend_ne (listed := listed) hn hi hq hmem g2 (Ne.symm e2q)).1.1 p2) he
  · show (e.pv x ∨ x = e.H.size) ↔ _
    rw [J.pv x]
    constructor
    · rintro ((h | ⟨q', m', g1, g2, g3⟩) | h)
      · exact .inl h
      · by_cases hqq : q' = q
        · subst hqq
          rw [hq] at g1
          cases g1
          have h3 := g2.1
          rw [h0] at h3; cases h3
        · exact .inr ⟨q', m', g1, (pend_ne (listed := listed) hn hi hq hmem g1 (Ne.symm hqq)).1.2 g2, by rw [if_neg hqq]; exact g3⟩
      · exact .inr ⟨q, m, hq, hpm, by rw [if_pos rfl]; exact h.symm⟩
    · rintro (h | ⟨q', m', g1, g2, g3⟩)
      · exact .inl (.inl h)
      · by_cases hqq : q' = q
        · rw [if_pos hqq] at g3
          exact .inr g3.symm
        · rw [if_neg hqq] at g3
          exact .inl (.inr ⟨q', m', g1, (pend_ne (listed := listed) hn hi hq hmem g1 (Ne.symm hqq)).1.1 g2, g3⟩)

theorem keyEq_symm {ck : CK} {a b : Value} {r : Bool} (h : keyEq ck a b = some r) : keyEq ck b a = some r := by
  cases ck <;> cases a <;> simp [keyEq] at h <;> cases b <;> simp [keyEq] at h ⊢
  · obtain ⟨rfl, h⟩ := h
    refine ⟨rfl, ?_⟩
    rw [← h]
    exact Bool.beq_comm
  · rw [← h]; exact Bool.beq_comm
  · rw [← h]; simp [eq_comm]
theorem filter_one {α : Type} {f g : α → Bool} {x : α} : ∀ {l : List α}, l.Nodup → x ∈ l → f x = false → g x = true → (∀ y, y ∈ l → y ≠ x → g y = f y) → (l.filter g).Perm (l.filter f ++ [x])
  | [], _, h, _, _, _ => absurd h (by simp)
  | y :: l, hn, hx, hf, hg, ho => by
    rw [List.nodup_cons] at hn
    by_cases hyx : y = x
    · subst hyx
      have : l.filter g = l.filter f := List.filter_congr fun z hz => ho z (by simp [hz]) fun h => hn.1 (h ▸ hz)
      rw [List.filter_cons_of_pos hg, List.filter_cons_of_neg (by rw [hf]; decide), this]
      exact (List.perm_append_comm (l₁ := [y])).trans (.refl _)
    · have ih := filter_one hn.2 ((List.mem_cons.1 hx).resolve_left (Ne.symm hyx)) hf hg fun z hz => ho z (by simp [hz])
      have hy := ho y (by simp) hyx
      cases hfy : f y with
      | true =>
        rw [List.filter_cons_of_pos (by rw [hy, hfy]), List.filter_cons_of_pos hfy]
        exact .cons _ ih
      | false =>
        rw [List.filter_cons_of_neg (by rw [hy, hfy]; decide), List.filter_cons_of_neg (by rw [hfy]; decide)]
        exact ih
theorem inj_of_nodup {α β : Type} {f : α → β} : ∀ {l : List α}, (l.map f).Nodup → ∀ {x y : α}, x ∈ l → y ∈ l → f x = f y → x = y
  | [], _, _, _, h, _, _ => absurd h (by simp)
  | z :: l, hn, x, y, hx, hy, he => by
    rw [List.map_cons, List.nodup_cons] at hn
    rcases List.mem_cons.1 hx with h1 | h1 <;> rcases List.mem_cons.1 hy with h2 | h2
    · rw [h1, h2]
    · exact absurd (List.mem_map_of_mem (f := f) h2) (by rw [← he, h1]; exact hn.1)
    · exact absurd (List.mem_map_of_mem (f := f) h1) (by rw [he, h2]; exact hn.1)
    · exact inj_of_nodup hn.2 h1 h2 he
/-- Keys that are in are unlike one that is put in. -/
theorem keys_unlike {ck : CK} {ins : List (Nat × Value × Nat × Nat)} (hd : kdist ck (ins.map (·.2.1)) = true) (hn : (ins.map (·.1)).Nodup) {x y : Nat × Value × Nat × Nat} (hx : x ∈ ins) (hy : y ∈ ins) (h : x.1 ≠ y.1) : keyEq ck x.2.1 y.2.1 = some false := by
  obtain ⟨i, hi, rfl⟩ := List.getElem_of_mem hx
  obtain ⟨j, hj, rfl⟩ := List.getElem_of_mem hy
  have hij : i ≠ j := fun e => by subst e; exact h rfl
  rcases Nat.lt_or_gt_of_ne hij with h1 | h1
  · have := kdist_get hd i j (by rw [List.length_map]; exact hi) (by rw [List.length_map]; exact hj) h1
    rw [List.getElem_map, List.getElem_map] at this
    exact this
  · have := kdist_get hd j i (by rw [List.length_map]; exact hj) (by rw [List.length_map]; exact hi) h1
    rw [List.getElem_map, List.getElem_map] at this
    exact keyEq_symm this
theorem mfind_all_none {ck : CK} {kv : Value} : ∀ (es : List (Value × DV)) (i : Nat), (∀ x, x ∈ es → keyEq ck kv x.1 = some false) → mfind ck kv es i = some none
  | [], _, _ => rfl
  | x :: es, i, h => by
    rw [mfind, h x (by simp)]
    exact mfind_all_none es (i + 1) fun y hy => h y (by simp [hy])

/-- One more is put in. -/
theorem JM.put {P : Program} {w : World} (J : JM ms H0 pv0 vs listed e a r) (hr : HR e) (hH : e.H = w.heap) (hn : (specials ms).Nodup) {q : Nat} {m : MapI} (hq : ms[q]? = some m) (hp : Pend listed m) {x : Nat × Value × Nat × Nat} (hx : x ∈ m.ins) (hi : x.1 < listed.size) (h0 : DL listed x.1 = false)
    (hd : kdist m.ck (m.ins.map (·.2.1)) = true) {t kt et : TypeId} (hu : P.underlying t = some (.map kt et)) (hk : kindOf P kt = some m.ck) {xv : Value} (hv : VR e (vs.getD x.2.2.2 .any) xv) :
    ∃ w', (Instr.mapUpdate t (.map (some (r q))) x.2.1 xv).run P w = .ok () w' ∧ WS w w' ∧ ∃ e1 : Env, e1.H = w'.heap ∧ e1.h = e.h ∧ Side e e1 ∧ (∀ y, y ≠ r q → e1.H[y]? = e.H[y]?) ∧ JM ms H0 pv0 vs (listed.setIfInBounds x.1 true) e1 a r := by
  have hm := List.mem_of_getElem? hq
  have ok := J.ok q m hq hp
  obtain ⟨es, res, clock, h1, h2, h3, h4, h5⟩ := ok.obj
  have hnd := special_in hn hm
  simp only [List.nodup_cons, List.mem_cons, not_or] at hnd
  obtain ⟨⟨h01, hn0⟩, hn1, hni⟩ := hnd
  have hx1 : x.1 ∈ m.ins.map (·.1) := List.mem_map_of_mem hx
  have hmem : x.1 ∈ m.at0 :: m.at1 :: m.ins.map (·.1) := by simp only [List.mem_cons]; exact .inr (.inr hx1)
  obtain ⟨d, hdd, hc⟩ := kindOf_ck hk
  have hall : ∀ y, y ∈ es → keyEq m.ck x.2.1 y.1 = some false := fun y hy => by
    obtain ⟨z, hz, rfl⟩ := List.mem_map.1 (h2.mem_iff.1 hy)
    obtain ⟨hz1, hz2⟩ := List.mem_filter.1 hz
    exact keys_unlike hd hni hx hz1 fun h => by rw [← h, h0] at hz2; cases hz2
  have hf := mfind_all_none es 0 hall
  have hHq : w.heap[r q]? = some (.map res clock) := by rw [← hH]; exact h1
  rcases mfind_now hc es res.toList 0 none (by simpa using h3) (fun j hj hj' => by simpa using h4 j hj (by simpa using hj')) hf with ⟨_, g2⟩ | ⟨j, y, g1, _⟩
  case inr => cases g1
  have hrun : (Instr.mapUpdate t (.map (some (r q))) x.2.1 xv).run P w = .ok () { w with heap := w.heap.setIfInBounds (r q) (.map (res.push { key := x.2.1, val := xv, born := clock }) (clock + 1)) } := by
    simp [Instr.mapUpdate, run_underlying hu, MapKept.run_getObj_map hHq, run_check hdd hc, MapKept.run_findKey hdd g2, MapKept.run_setObj_map _ hHq]
  have hlt : r q < e.H.size := ok.lt
  refine ⟨_, hrun, ⟨rfl, rfl, rfl⟩, ⟨e.ρ, e.h, w.heap.setIfInBounds (r q) (.map (res.push { key := x.2.1, val := xv, born := clock }) (clock + 1)), e.pv⟩, rfl, rfl, ?_⟩
  have hsame : ∀ y, y ≠ r q → (w.heap.setIfInBounds (r q) (.map (res.push { key := x.2.1, val := xv, born := clock }) (clock + 1)))[y]? = e.H[y]? := fun y hy => by
    rw [Array.getElem?_setIfInBounds_ne (Ne.symm hy), hH]
  have hself : (w.heap.setIfInBounds (r q) (.map (res.push { key := x.2.1, val := xv, born := clock }) (clock + 1)))[r q]? = some (.map (res.push { key := x.2.1, val := xv, born := clock }) (clock + 1)) := by
    rw [Array.getElem?_setIfInBounds_self_of_lt (by rw [← hH]; exact hlt)]
  have sd : Side e ⟨e.ρ, e.h, w.heap.setIfInBounds (r q) (.map (res.push { key := x.2.1, val := xv, born := clock }) (clock + 1)), e.pv⟩ := by
    refine ⟨rfl, rfl, by simp [hH], fun y hy => ?_, fun y _ h => h, fun y h => ?_⟩
    · by_cases hyq : y = r q
      · subst hyq
        exact .inr ok.pv
      · exact .inl (hsame y hyq)
    · have := hr.pvs y h
      simpa [hH] using this
  refine ⟨sd, fun y hy => hsame y hy, ?_⟩
  have hpend : ∀ (m' : MapI), m' ∈ ms → (Pend (listed.setIfInBounds x.1 true) m' ↔ Pend listed m') := fun m' hm' => by
    obtain ⟨q', hq'⟩ := List.getElem?_of_mem hm'
    by_cases hqq : q = q'
    · subst hqq
      rw [hq] at hq'
      cases hq'
      have a0 : ¬ m.at0 = x.1 := fun h => hn0 (h ▸ hx1)
      have a1 : ¬ m.at1 = x.1 := fun h => hn1 (h ▸ hx1)
      simp only [Pend, DL_set hi, a0, a1, decide_false, Bool.or_false]
    · exact (pend_ne hn hi hq hmem hq' hqq).1
  refine ⟨fun q' m' hq' hp' => ?_, fun q1 q2 m1 m2 g1 g2 p1 p2 he => J.inj q1 q2 m1 m2 g1 g2 ((hpend m1 (List.mem_of_getElem? g1)).1 p1) ((hpend m2 (List.mem_of_getElem? g2)).1 p2) he, fun y => ?_⟩
  · have hp0 := (hpend m' (List.mem_of_getElem? hq')).1 hp'
    by_cases hqq : q = q'
    · subst hqq
      rw [hq] at hq'
      cases hq'
      refine ⟨ok.lo, ok.tmp, Nat.lt_of_lt_of_le ok.lt sd.size, ok.npv, ok.pv, es ++ [(x.2.1, vs.getD x.2.2.2 .any)], _, _, hself, ?_, by simp [h3], fun j hj hj' => ?_, fun j hj hj' => ?_⟩
      · have hins : m.ins.Nodup := List.Pairwise.of_map (·.1) (fun a b h he => h (by rw [he])) hni
        have := filter_one (f := fun y : Nat × Value × Nat × Nat => DL listed y.1) (g := fun y => DL (listed.setIfInBounds x.1 true) y.1) hins hx h0 (by rw [DL_set hi]; simp) fun y hy hyx => by
          rw [DL_set hi]
          have : ¬ y.1 = x.1 := fun h => hyx (inj_of_nodup hni hy hx h)
          simp [this]
        have h6 := (this.map (fun y => (y.2.1, vs.getD y.2.2.2 DV.any))).symm
        rw [List.map_append] at h6
        exact (h2.append_right _).trans h6
      · rcases Nat.lt_or_ge j res.size with h | h
        · rw [Array.getElem_push_lt h, List.getElem_append_left (by omega)]
          exact h4 j (by omega) h
        · have : j = res.size := by simp at hj'; omega
          subst this
          simp [List.getElem_append_right, h3]
      · rcases Nat.lt_or_ge j res.size with h | h
        · rw [Array.getElem_push_lt h, List.getElem_append_left (by omega)]
          exact (h5 j (by omega) h).side sd
        · have : j = res.size := by simp at hj'; omega
          subst this
          simp only [Array.getElem_push_eq]
          have : (es ++ [(x.2.1, vs.getD x.2.2.2 .any)])[res.size] = (x.2.1, vs.getD x.2.2.2 .any) := by simp [List.getElem_append_right, h3]
          rw [this]
          exact hv.side sd
    · have ok' := J.ok q' m' hq' hp0
      have hne : r q' ≠ r q := fun h => hqq (J.inj q' q m' m hq' hq hp0 hp h).symm
      exact ok'.other (Nat.lt_of_lt_of_le ok'.lt sd.size) ok'.pv (hsame _ hne) (fun d v h => h.side sd) rfl (pend_ne hn hi hq hmem hq' hqq).2
  · show e.pv y ↔ _
    rw [J.pv y]
    constructor
    · rintro (h | ⟨q', m', g1, g2, g3⟩)
      · exact .inl h
      · exact .inr ⟨q', m', g1, (hpend m' (List.mem_of_getElem? g1)).2 g2, g3⟩
    · rintro (h | ⟨q', m', g1, g2, g3⟩)
      · exact .inl h
      · exact .inr ⟨q', m', g1, (hpend m' (List.mem_of_getElem? g1)).1 g2, g3⟩

/-- A map is handed on. -/
theorem JM.handed (J : JM ms H0 pv0 vs listed e a r) (hr : HR e) (hn : (specials ms).Nodup) {q : Nat} {m : MapI} (hq : ms[q]? = some m) (hp : Pend listed m) (hi : m.at1 < listed.size) (hall : ∀ x, x ∈ m.ins → DL listed x.1 = true) {dst : Option Nat} (hd : ∀ m', m' ∈ ms → dst ≠ some m'.slot) {v : Value} :
    let e1 : Env := ⟨e.ρ, e.h, e.H, fun x => e.pv x ∧ x ≠ r q⟩
    Side e e1 ∧ VR e1 (.fm (m.ins.map (·.2.1)) (m.ins.map fun x => vs.getD x.2.2.2 .any)) (.map (some (r q))) ∧ JM ms H0 pv0 vs (listed.setIfInBounds m.at1 true) e1 (a.put dst v) r := by
  intro e1
  have hm := List.mem_of_getElem? hq
  have ok := J.ok q m hq hp
  obtain ⟨es, res, clock, h1, h2, h3, h4, h5⟩ := ok.obj
  have sd : Side e e1 := ⟨rfl, rfl, Nat.le_refl _, fun y _ => .inl rfl, fun y _ h => h.1, fun y h => hr.pvs y h.1⟩
  have hmem : m.at1 ∈ m.at0 :: m.at1 :: m.ins.map (·.1) := by simp
  have hpend : ∀ (q' : Nat) (m' : MapI), ms[q']? = some m' → q' ≠ q → (Pend (listed.setIfInBounds m.at1 true) m' ↔ Pend listed m') := fun q' m' hq' hqq => (pend_ne hn hi hq hmem hq' (Ne.symm hqq)).1
  have hself : ∀ (q' : Nat) (m' : MapI), ms[q']? = some m' → Pend (listed.setIfInBounds m.at1 true) m' → q' ≠ q := fun q' m' hq' hp' h => by
    subst h
    rw [hq] at hq'
    cases hq'
    have := hp'.2
    rw [DL_set hi] at this
    simp at this
  refine ⟨sd, ?_, fun q' m' hq' hp' => ?_, fun q1 q2 m1 m2 g1 g2 p1 p2 he => J.inj q1 q2 m1 m2 g1 g2 ((hpend q1 m1 g1 (hself q1 m1 g1 p1)).1 p1) ((hpend q2 m2 g2 (hself q2 m2 g2 p2)).1 p2) he, fun y => ?_⟩
  · have hz : (m.ins.map (·.2.1)).zip (m.ins.map fun x => vs.getD x.2.2.2 DV.any) = (m.ins.filter fun x => DL listed x.1).map fun x => (x.2.1, vs.getD x.2.2.2 DV.any) := by
      rw [List.filter_eq_self.2 hall, List.zip_map']
    refine .fm es res clock ⟨ok.lt, hr.pvl _ ok.pv, fun h => h.2 rfl⟩ h1 (by rw [hz]; exact h2) (by simp) h3 h4 fun j hj hj' => (h5 j hj hj').side sd
  · have hqq := hself q' m' hq' hp'
    have hp0 := (hpend q' m' hq' hqq).1 hp'
    have ok' := J.ok q' m' hq' hp0
    exact ok'.other ok'.lt ⟨ok'.pv, fun h => hqq (J.inj q' q m' m hq' hq hp0 hp h)⟩ rfl (fun d v h => h.side sd) (Act.put_get (hd m' (List.mem_of_getElem? hq'))) (pend_ne hn hi hq hmem hq' (Ne.symm hqq)).2
  · show (e.pv y ∧ y ≠ r q) ↔ _
    rw [J.pv y]
    constructor
    · rintro ⟨h | ⟨q', m', g1, g2, g3⟩, hne⟩
      · exact .inl h
      · have hqq : q' ≠ q := fun h => hne (by rw [← g3, h])
        exact .inr ⟨q', m', g1, (hpend q' m' g1 hqq).2 g2, g3⟩
    · rintro (h | ⟨q', m', g1, g2, g3⟩)
      · exact ⟨.inl h, fun he => ok.npv (he ▸ h)⟩
      · have hqq := hself q' m' g1 g2
        have hp0 := (hpend q' m' g1 hqq).1 g2
        exact ⟨.inr ⟨q', m', g1, hp0, g3⟩, fun he => hqq (J.inj q' q m' m g1 hq hp0 hp (g3.trans he))⟩
end




/-! A block on the side that will live. -/
/-- It lives from now on. -/
theorem env_pub {e : Env} (hr : HR e) {ra C : Nat} (hp : e.pv ra) (x : Blk) :
    let e1 : Env := ⟨upd e.ρ e.h.length (some (ra, C)), e.h ++ [x], e.H, fun y => e.pv y ∧ y ≠ ra⟩
    EvR (· < e.h.length) e e1 ∧ (BR e1 e.h.length x → HR e1) := by
  intro e1
  have hkey : ∀ b, b < e.h.length → e1.key b = e.key b := fun b hb => by simp [Env.key, e1, List.getElem?_append_left hb]
  have hρ : ∀ b, b < e.h.length → e1.ρ b = e.ρ b := fun b hb => upd_ne _ _ (by omega)
  have hnew : e1.ρ e.h.length = some (ra, C) := upd_same _ _ _
  have hlt : ∀ b, e1.key b ≠ none → b < e.h.length ∨ b = e.h.length := fun b hk => by
    have := Env.key_lt hk
    simp [e1] at this
    omega
  have ev : EvR (· < e.h.length) e e1 := by
    refine ⟨fun b hb => by simp [e1]; omega, fun r h => ⟨⟨h.1, fun b q0 hk hb => ?_, fun hh => h.2.2 hh.1⟩, rfl⟩, fun b hb k' hk' => ⟨k', by rw [← hkey b hb]; exact hk', Key.le_refl _, fun _ => hρ b hb⟩⟩
    rcases hlt b hk with hb' | rfl
    · exact h.2.1 b q0 (by rw [← hkey b hb']; exact hk) (by rw [← hρ b hb']; exact hb)
    · rw [hnew] at hb; cases hb
      exact fun he => h.2.2 (he ▸ hp)
  have hv : ∀ d v, VR e d v → VR e1 d v := fun d v h => h.gen0 ev h.wf
  refine ⟨ev, fun hx => ⟨fun b b' q1 q2 hk hk' h1 h2 he => ?_, fun b k hb => ?_, fun r h => hr.pvs r h.1, fun r h b q0 hk hb => ?_⟩⟩
  · rcases hlt b hk with hb | rfl <;> rcases hlt b' hk' with hb' | rfl
    · exact hr.inj b b' q1 q2 (by rw [← hkey b hb]; exact hk) (by rw [← hkey b' hb']; exact hk') (by rw [← hρ b hb]; exact h1) (by rw [← hρ b' hb']; exact h2) he
    · rw [hnew] at h2; cases h2
      exact (hr.pvl ra hp b q1 (by rw [← hkey b hb]; exact hk) (by rw [← hρ b hb]; exact h1) he).elim
    · rw [hnew] at h1; cases h1
      exact (hr.pvl ra hp b' q2 (by rw [← hkey b' hb']; exact hk') (by rw [← hρ b' hb']; exact h2) he.symm).elim
    · rfl
  · by_cases hb' : b < e.h.length
    · have hb0 : e.h[b]? = some k := by simpa [e1, List.getElem?_append_left hb'] using hb
      exact (hr.blk b k hb0).keep (fun h => by rw [Env.key_of hb0]; exact h) (fun c _ _ h => hρ c (Env.key_lt h)) (by rw [hkey b hb']; exact Env.key_of hb0) (by simp [e1])
        (fun m l hm h1 h => by rw [← hkey m h1]; exact h) (fun c q _ hk hq => rfl) hv
    · have hlt2 : b < e1.h.length := (List.getElem?_eq_some_iff.1 hb).1
      have : b = e.h.length := by simp [e1] at hlt2; omega
      subst this
      have : k = x := by simpa [e1] using hb.symm
      subst this
      exact hx
  · rcases hlt b hk with hb' | rfl
    · exact hr.pvl r h.1 b q0 (by rw [← hkey b hb']; exact hk) (by rw [← hρ b hb']; exact hb)
    · rw [hnew] at hb; cases hb
      exact fun he => h.2 he.symm
theorem EvW.pub {n H0 : Nat} {e0 e : Env} (h : EvW n e0 e) {ra C : Nat} (hlo : H0 ≤ ra) (h0 : e0.H.size ≤ H0) (x : Blk) (pv' : Nat → Prop) : EvW n e0 ⟨upd e.ρ e.h.length (some (ra, C)), e.h ++ [x], e.H, pv'⟩ := by
  have hl : n ≤ e.h.length := h.len
  refine ⟨by show n ≤ (e.h ++ [x]).length; simp; omega, h.size, fun r hr => ?_, fun b hb k' hk => ?_, rfl, h.pvH⟩
  · obtain ⟨h1, h2⟩ := h.ro r hr
    refine ⟨⟨h1.1, fun b q0 hk hb => ?_, h1.2.2⟩, h2⟩
    by_cases hb' : b < e.h.length
    · exact h1.2.1 b q0 (by simpa [Env.key, List.getElem?_append_left hb'] using hk) (by rw [← upd_ne e.ρ (some (ra, C)) (show b ≠ e.h.length by omega)]; exact hb)
    · have hlt := Env.key_lt hk
      have : b = e.h.length := by simp at hlt; omega
      subst this
      have hb : upd e.ρ e.h.length (some (ra, C)) e.h.length = some q0 := hb
      rw [upd_same] at hb
      cases hb
      have := hr.1
      show ra ≠ r
      omega
  · have hb' : b < e.h.length := by omega
    obtain ⟨k, h1, h2, h3⟩ := h.key b hb k' (by simpa [Env.key, List.getElem?_append_left hb'] using hk)
    exact ⟨k, h1, h2, fun he => (upd_ne e.ρ (some (ra, C)) (show b ≠ e.h.length by omega)).trans (h3 he)⟩
section
variable {ms : List MapI} {H0 : Nat} {pv0 : Nat → Prop} {vs : List DV} {listed : Array Bool} {e e' : Env} {a : Act} {r : Nat → Nat} {al : Option AlI} {ra : Nat}
theorem JM.grow (J : JM ms H0 pv0 vs listed e a r) (hr : HR e) {i : Nat} (hi : i < listed.size) (hs : i ∉ specials ms) {dst : Option Nat} {v : Value} (hd : ∀ m, m ∈ ms → dst ≠ some m.slot) (ob : Obj) :
    let e1 : Env := ⟨e.ρ, e.h, e.H.push ob, fun x => e.pv x ∨ x = e.H.size⟩
    Side e e1 ∧ JM ms H0 (fun x => pv0 x ∨ x = e.H.size) vs (listed.setIfInBounds i true) e1 (a.put dst v) r := by
  intro e1
  have hold : ∀ x, x < e.H.size → e1.H[x]? = e.H[x]? := fun x hx => by simp only [e1]; rw [Array.getElem?_push_lt hx, Array.getElem?_eq_getElem hx]
  have sd : Side e e1 := ⟨rfl, rfl, by simp [e1], fun x hx => .inl (hold x hx), fun x hx h => h.resolve_right (by omega), fun x h => by
    simp only [e1, Array.size_push]
    rcases h with h | h
    · have := hr.pvs x h; omega
    · omega⟩
  have hDL : ∀ j, j ∈ specials ms → DL (listed.setIfInBounds i true) j = DL listed j := fun j hj => by
    rw [DL_set hi]
    have : ¬ j = i := fun h => hs (h ▸ hj)
    simp [this]
  have hP : ∀ m, m ∈ ms → (Pend (listed.setIfInBounds i true) m ↔ Pend listed m) := fun m hm => by
    simp only [Pend, hDL _ (mem_specials0 hm), hDL _ (mem_specials1 hm)]
  refine ⟨sd, fun q m hq hp => ?_, fun q q' m m' hq hq' hp hp' => J.inj q q' m m' hq hq' ((hP m (List.mem_of_getElem? hq)).1 hp) ((hP m' (List.mem_of_getElem? hq')).1 hp'), fun x => ?_⟩
  · have hm := List.mem_of_getElem? hq
    have ok := J.ok q m hq ((hP m hm).1 hp)
    have o2 := ok.other (e' := e1) (listed' := listed.setIfInBounds i true) (a' := a.put dst v) (Nat.lt_of_lt_of_le ok.lt sd.size) (.inl ok.pv) (hold _ ok.lt) (fun d v h => h.side sd) (Act.put_get (hd m hm)) (List.filter_congr fun x hx => hDL _ (mem_specialsI hm hx))
    exact ⟨o2.lo, o2.tmp, o2.lt, fun h => h.elim ok.npv (fun h => by have := ok.lt; omega), o2.pv, o2.obj⟩
  · show (e.pv x ∨ x = e.H.size) ↔ _
    rw [J.pv x]
    constructor
    · rintro ((h | ⟨q, m, h1, h2, h3⟩) | h)
      · exact .inl (.inl h)
      · exact .inr ⟨q, m, h1, (hP m (List.mem_of_getElem? h1)).2 h2, h3⟩
      · exact .inl (.inr h)
    · rintro ((h | h) | ⟨q, m, h1, h2, h3⟩)
      · exact .inl (.inl h)
      · exact .inr h
      · exact .inl (.inr ⟨q, m, h1, (hP m (List.mem_of_getElem? h1)).1 h2, h3⟩)
theorem JM.shrink (J : JM ms H0 (fun x => pv0 x ∨ x = ra) vs listed e a r) (hra : ¬ pv0 ra) {i : Nat} (hi : i < listed.size) (hs : i ∉ specials ms) (hpv : ∀ x, e'.pv x ↔ (e.pv x ∧ x ≠ ra)) (hsz : e.H.size ≤ e'.H.size) (hH : ∀ x, x < e.H.size → x ≠ ra → e'.H[x]? = e.H[x]?) (hv : ∀ d v, VR e d v → VR e' d v) : JM ms H0 pv0 vs (listed.setIfInBounds i true) e' a r := by
  have hDL : ∀ j, j ∈ specials ms → DL (listed.setIfInBounds i true) j = DL listed j := fun j hj => by
    rw [DL_set hi]
    have : ¬ j = i := fun h => hs (h ▸ hj)
    simp [this]
  have hP : ∀ m, m ∈ ms → (Pend (listed.setIfInBounds i true) m ↔ Pend listed m) := fun m hm => by
    simp only [Pend, hDL _ (mem_specials0 hm), hDL _ (mem_specials1 hm)]
  refine ⟨fun q m hq hp => ?_, fun q q' m m' hq hq' hp hp' => J.inj q q' m m' hq hq' ((hP m (List.mem_of_getElem? hq)).1 hp) ((hP m' (List.mem_of_getElem? hq')).1 hp'), fun x => ?_⟩
  · have hm := List.mem_of_getElem? hq
    have ok := J.ok q m hq ((hP m hm).1 hp)
    have hne : r q ≠ ra := fun h => ok.npv (.inr h)
    have o2 := ok.other (e' := e') (listed' := listed.setIfInBounds i true) (a' := a) (Nat.lt_of_lt_of_le ok.lt hsz) ((hpv _).2 ⟨ok.pv, hne⟩) (hH _ ok.lt hne) hv rfl (List.filter_congr fun x hx => hDL _ (mem_specialsI hm hx))
    exact ⟨o2.lo, o2.tmp, o2.lt, fun h => ok.npv (.inl h), o2.pv, o2.obj⟩
  · rw [hpv x, J.pv x]
    constructor
    · rintro ⟨(h | h) | ⟨q, m, h1, h2, h3⟩, hne⟩
      · exact .inl h
      · exact absurd h hne
      · exact .inr ⟨q, m, h1, (hP m (List.mem_of_getElem? h1)).2 h2, h3⟩
    · rintro (h | ⟨q, m, h1, h2, h3⟩)
      · exact ⟨.inl (.inl h), fun he => hra (he ▸ h)⟩
      · have h2' := (hP m (List.mem_of_getElem? h1)).1 h2
        exact ⟨.inr ⟨q, m, h1, h2', h3⟩, fun he => (J.ok q m h1 h2').npv (.inr (h3.trans he))⟩

structure AOk (H0 : Nat) (e : Env) (a : Act) (y : AlI) (ra : Nat) : Prop where
  lo : H0 ≤ ra
  lt : ra < e.H.size
  tmp : a.tmps[y.slot]? = some (.pointer (some ⟨ra, 0, none⟩))
  obj : ∃ c T, e.H[ra]? = some (.cells c T) ∧ c.size = y.sz
def APend (listed : Array Bool) (y : AlI) : Prop := DL listed y.at0 = true ∧ DL listed y.at1 = false
def pvA (pv0 : Nat → Prop) (al : Option AlI) (listed : Array Bool) (ra : Nat) : Nat → Prop := fun x => pv0 x ∨ ∃ y, al = some y ∧ APend listed y ∧ x = ra
structure JA (ms : List MapI) (al : Option AlI) (H0 : Nat) (pv0 : Nat → Prop) (vs : List DV) (listed : Array Bool) (e : Env) (a : Act) (r : Nat → Nat) (ra : Nat) : Prop where
  J : JM ms H0 (pvA pv0 al listed ra) vs listed e a r
  ok : ∀ y, al = some y → APend listed y → AOk H0 e a y ra
theorem APend_set {i : Nat} (hi : i < listed.size) {y : AlI} (h : i ≠ y.at0 ∧ i ≠ y.at1) : APend (listed.setIfInBounds i true) y ↔ APend listed y := by
  simp only [APend, DL_set hi]
  have a0 : ¬ y.at0 = i := fun e => h.1 e.symm
  have a1 : ¬ y.at1 = i := fun e => h.2 e.symm
  simp [a0, a1]
theorem pvA_set {i : Nat} (hi : i < listed.size) (h : ∀ y, al = some y → i ≠ y.at0 ∧ i ≠ y.at1) : pvA pv0 al (listed.setIfInBounds i true) ra = pvA pv0 al listed ra := by
  funext x
  apply propext
  simp only [pvA]
  constructor
  · rintro (h1 | ⟨y, h1, h2, h3⟩)
    · exact .inl h1
    · exact .inr ⟨y, h1, (APend_set hi (h y h1)).1 h2, h3⟩
  · rintro (h1 | ⟨y, h1, h2, h3⟩)
    · exact .inl h1
    · exact .inr ⟨y, h1, (APend_set hi (h y h1)).2 h2, h3⟩
theorem JA.keep (A : JA ms al H0 pv0 vs listed e a r ra) {i : Nat} (hi : i < listed.size) (h : ∀ y, al = some y → i ≠ y.at0 ∧ i ≠ y.at1) {r' : Nat → Nat} {a' : Act} (J' : JM ms H0 (pvA pv0 al listed ra) vs (listed.setIfInBounds i true) e' a' r')
    (hH : ∀ y, al = some y → APend listed y → e'.H[ra]? = e.H[ra]?) (hs : e.H.size ≤ e'.H.size) (ht : ∀ y, al = some y → a'.tmps[y.slot]? = a.tmps[y.slot]?) : JA ms al H0 pv0 vs (listed.setIfInBounds i true) e' a' r' ra := by
  refine ⟨by rw [pvA_set hi h]; exact J', fun y hy hp => ?_⟩
  have hp0 := (APend_set hi (h y hy)).1 hp
  have ok := A.ok y hy hp0
  obtain ⟨c, T, h1, h2⟩ := ok.obj
  exact ⟨ok.lo, Nat.lt_of_lt_of_le ok.lt hs, (ht y hy).trans ok.tmp, c, T, (hH y hy hp0).trans h1, h2⟩
theorem JA.pv (A : JA ms al H0 pv0 vs listed e a r ra) {y : AlI} (hy : al = some y) (hp : APend listed y) : e.pv ra := (A.J.pv ra).2 (.inl (.inr ⟨y, hy, hp, rfl⟩))
theorem JA.sub (A : JA ms al H0 pv0 vs listed e a r ra) {x : Nat} (h : pv0 x) : e.pv x := (A.J.pv x).2 (.inl (.inl h))
theorem JA.lt (A : JA ms al H0 pv0 vs listed e a r ra) (h0 : ∀ x, pv0 x → x < H0) (hlo : H0 ≤ e.H.size) (x : Nat) (h : pvA pv0 al listed ra x) : x < e.H.size := by
  rcases h with h | ⟨y, hy, hp, rfl⟩
  · have := h0 x h; omega
  · exact (A.ok y hy hp).lt
end
theorem alOp_map {ms : List MapI} {al : Option AlI} {i : Nat} {d : DOper} (h : ∀ y, al = some y → i ≠ y.at0 ∧ i ≠ y.at1) : alOp ms al i d = mapOp ms i d := by
  cases al with
  | none => rfl
  | some y =>
    obtain ⟨h1, h2⟩ := h y rfl
    simp only [alOp, h1, h2, if_false]

/-! The walk through a region with literal maps. -/
/-- How it stands, somewhere on the way. -/
structure MidM (P : Program) (G : Nat → DV) (D : List Deferred) (n : Nat) (e0 : Env) (w0 : World) (ops : List Oper) (l : List DDOp) (vs t0 : List DV) (Hf : Nat → List Blk) (ms : List MapI) (al : Option AlI) (H0 : Nat) (listed : Array Bool) (k : Nat) (e : Env) (a : Act) (w : World) : Prop where
  size : listed.size = ops.length
  closed : ∀ i, DL listed i = true → ∀ o, ops[i]? = some o → ∀ d, d ∈ depsOf o → DL listed d = true
  hk : ∀ i x, l[i]? = some x → isHeavy x.o = true → (DL listed i = true ↔ cntD l i < k)
  kle : k ≤ cntD l l.length
  rel : RelS G D e ⟨putD (DL listed) 0 l vs t0, Hf k⟩ a w
  ev : EvW n e0 e
  ws : WS w0 w
  le : n ≤ e0.h.length
  lo : e0.H.size ≤ H0 ∧ H0 ≤ e.H.size
  pv0 : ∀ x, e0.pv x → x < H0
  J : ∃ r ra, JA ms al H0 e0.pv vs listed e a r ra
section
variable {P : Program} {G : Nat → DV} {D : List Deferred} {n : Nat} {e0 : Env} {w0 : World} {ops : Array Oper} {l : List DDOp} {M : List Nat} {vs t0 : List DV} {Hs Rs : List (List Blk)} {ms : List MapI} {al : Option AlI} {H0 : Nat}
theorem mid_closedM {listed : Array Bool} {k : Nat} {e : Env} {a : Act} {w : World} (m : MidM P G D n e0 w0 ops.toList l vs t0 (fun k => Rs.getD k []) ms al H0 listed k e a w) :
    ∀ i, DL listed i = true → i < ops.toList.length ∧ ∀ o, ops.toList[i]? = some o → ∀ d, d ∈ depsOf o → DL listed d = true := by
  intro i hi
  refine ⟨?_, m.closed i hi⟩
  rw [← m.size]
  unfold DL at hi
  rw [Array.getD_eq_getD_getElem?] at hi
  rcases Nat.lt_or_ge i listed.size with h | h
  · exact h
  · rw [Array.getElem?_eq_none h] at hi; cases hi
theorem drawn_stepM (C : Chk ops.toList l M) {l0 : List DOper} (hl0 : cOps P ops ops.toList = some l0) (hco : l.map (·.o) = alOps ms al l0) (hal : ∀ y, al = some y → AOne P ops.toList ms M y ∧ y.slot < t0.length ∧ t0.getD y.slot .any = .any) (hnod : (specials ms).Nodup) (hone : ∀ m, m ∈ ms → MOne P ops.toList l M m) (hslot : ∀ m, m ∈ ms → m.slot < t0.length ∧ ∀ z, z ∈ m.ins → z.2.2.1 < t0.length) (hv : vs.length = l.length) (hF : Facts P G l vs t0 Hs Rs) (hVR : ∀ k, k ≤ cntD l l.length → HV (Hs.getD k []) (Rs.getD k [])) {Q : Exit → Act → World → Prop} {Kk : Act → World → Prop}
    {listed : Array Bool} {k : Nat} {e : Env} {a : Act} {w : World} (m : MidM P G D n e0 w0 ops.toList l vs t0 (fun k => Rs.getD k []) ms al H0 listed k e a w) {i : Nat} (hi : i ∈ Region.ready .any ops listed)
    (hK : ∀ k' e' a' w', MidM P G D n e0 w0 ops.toList l vs t0 (fun k => Rs.getD k []) ms al H0 (listed.setIfInBounds i true) k' e' a' w' → Kk a' w') : wpOp P ops Q i Kk a w := by
  have hsz : listed.size = ops.size := by rw [m.size]; simp
  obtain ⟨h1, hDi, hdeps⟩ := ready_spec hsz hi
  have ho : ops[i]? = some ops[i] := Array.getElem?_eq_getElem h1
  have ho' : ops.toList[i]? = some ops[i] := by simpa using ho
  generalize ops[i] = o at ho ho'
  have hil : i < l.length := by rw [C.len]; simpa using h1
  have hx : l[i]? = some l[i] := List.getElem?_eq_getElem hil
  generalize l[i] = x at hx
  have hcl := mid_closedM m
  have hin : ∀ j, (M.getD i 0).testBit j = true → DL listed j = true ∧ j < i := fun j hj => ⟨mask_ready C hcl (by simpa using h1) ho' (hdeps o ho) hj, mask_lt C i (by simpa using h1) j hj⟩
  have hout : ∀ j, j < l.length → (M.getD j 0).testBit i = true → DL listed j = false ∧ i < j := fun j hj hb => by
    refine ⟨?_, mask_lt C j (by rw [← C.len]; exact hj) i hb⟩
    cases hd : DL listed j with
    | false => rfl
    | true => have := mask_in C hcl j hd i hb; rw [hDi] at this; cases this
  have hsl : ∀ s, s ∈ looks x.o → (putD (DL listed) 0 l vs t0).getD s .any = (putD (fun j => decide (j < i)) 0 l vs t0).getD s .any := fun s hs => slots_eq C hv hx hDi hin hout hs
  have hev : ∀ z, z ∈ x.o.op.opds → Opd.ev G (putD (fun j => decide (j < i)) 0 l vs t0) z = Opd.ev G (putD (DL listed) 0 l vs t0) z := by
    intro z hz
    cases z with
    | t s =>
      simp only [Opd.ev]
      exact (hsl s (by simp only [looks, List.mem_append, List.mem_filterMap]; exact .inl ⟨.t s, hz, rfl⟩)).symm
    | c v => rfl
    | g q => rfl
  have hcn := cntD_next l i x hx
  -- the heap's number
  have hkge : cntD l i ≤ k ∨ isHeavy x.o = false := by
    cases hh : isHeavy x.o with
    | false => exact .inr rfl
    | true =>
      left
      rcases cntD_last l i (by omega) with h | ⟨j, y, g1, g2, g3, g4⟩
      · omega
      · have hb := C.heavy j (by omega) i hil y x g2 hx g1 g3 hh
        have := (m.hk j y g2 g3).1 (hin j hb).1
        omega
  have hkeq : isHeavy x.o = true → k = cntD l i := fun hh => by
    have h2 : ¬ cntD l i < k := fun h => by have := (m.hk i x hx hh).2 h; rw [hDi] at this; cases this
    rcases hkge with h | h
    · omega
    · rw [h] at hh; cases hh
  -- what follows
  have fin0 : ∀ (a' : Act) (e' : Env) (w' : World) (hd : List Blk), e'.H = w'.heap → WS w w' → HR e' → EvW n e0 e' → GR e' G → TR e' (putL (putD (DL listed) 0 l vs t0) x.o.dst (vs.getD i .any)) a'.tmps → a'.defers = D → e'.h = hd → e.H.size ≤ e'.H.size → (∃ r ra, JA ms al H0 e0.pv vs (listed.setIfInBounds i true) e' a' r ra) →
      (isHeavy x.o = true → hd = Rs.getD (cntD l (i + 1)) []) → (isHeavy x.o = false → hd = Rs.getD k []) → Kk a' w' := by
    intro a' e' w' hd g1 g2 g3 g4 ggr gtr gdf g6 gsz gJ g7 g8
    have hmore := putD_more (t := t0) hv hx hDi (fun j => DL_set (listed := listed) (by omega) j) (uniq_dst C)
    rw [hmore] at gtr
    have hs : RelS G D e' ⟨putD (DL (listed.setIfInBounds i true)) 0 l vs t0, hd⟩ a' w' := ⟨g6, g1, g3, ggr, gtr, gdf⟩
    have mk : ∀ k', hd = Rs.getD k' [] → (∀ j y, l[j]? = some y → isHeavy y.o = true → (DL (listed.setIfInBounds i true) j = true ↔ cntD l j < k')) → k' ≤ cntD l l.length → Kk a' w' := by
      intro k' q1 q2 q3
      refine hK k' e' _ _ ⟨by simp [m.size], fun j hj o' ho2 d hd' => ?_, q2, q3, by rw [q1] at hs; exact hs, g4, m.ws.trans g2, m.le, ⟨m.lo.1, Nat.le_trans m.lo.2 gsz⟩, m.pv0, gJ⟩
      rw [DL_set (by omega)] at hj ⊢
      simp only [Bool.or_eq_true, decide_eq_true_eq] at hj ⊢
      rcases hj with hj | hj
      · exact .inl (m.closed j hj o' ho2 d hd')
      · subst hj
        rw [ho'] at ho2
        cases ho2
        exact .inl (hdeps o ho d hd')
    cases hh : isHeavy x.o with
    | true =>
      rw [if_pos hh] at hcn
      have hk := hkeq hh
      refine mk (cntD l (i + 1)) (g7 hh) (fun j y hy hyh => ?_) (cntD_mono l _ _ hil)
      rw [DL_set (by omega)]
      simp only [Bool.or_eq_true, decide_eq_true_eq]
      rw [m.hk j y hy hyh]
      constructor
      · rintro (h | h)
        · omega
        · subst h; omega
      · intro h
        by_cases hji : j = i
        · exact .inr hji
        · left
          rcases Nat.lt_or_gt_of_ne hji with h2 | h2
          · have := cntD_lt l j i h2 y hy hyh; omega
          · have := cntD_lt l i j h2 x hx hh; omega
    | false =>
      refine mk k (g8 hh) (fun j y hy hyh => ?_) m.kle
      rw [DL_set (by omega)]
      simp only [Bool.or_eq_true, decide_eq_true_eq]
      rw [← m.hk j y hy hyh]
      constructor
      · rintro (h | h)
        · exact h
        · subst h; rw [hx] at hy; cases hy; rw [hh] at hyh; cases hyh
      · exact .inl
  have fin : ∀ (v : Value) (e' : Env) (w' : World) (hd : List Blk), e'.H = w'.heap → WS w w' → HR e' → EvW n e0 e' → GR e' G → TR e' (putD (DL listed) 0 l vs t0) a.tmps → VR e' (vs.getD i .any) v → e'.h = hd → e.H.size ≤ e'.H.size → (∃ r ra, JA ms al H0 e0.pv vs (listed.setIfInBounds i true) e' (a.put o.dst v) r ra) → o.dst = x.o.dst →
      (isHeavy x.o = true → hd = Rs.getD (cntD l (i + 1)) []) → (isHeavy x.o = false → hd = Rs.getD k []) → Kk (a.put o.dst v) w' := by
    intro v e' w' hd g1 g2 g3 g4 ggr gtr g5 g6 gsz gJ hdst g7 g8
    refine fin0 (a.put o.dst v) e' w' hd g1 g2 g3 g4 ggr ?_ ?_ g6 gsz gJ g7 g8
    · have h := TR.put (s := ⟨putD (DL listed) 0 l vs t0, Rs.getD k []⟩) gtr o.dst g5 (Rs.getD k [])
      have e1 : ((⟨putD (DL listed) 0 l vs t0, Rs.getD k []⟩ : St).put o.dst (vs.getD i .any) (Rs.getD k [])).t = putL (putD (DL listed) 0 l vs t0) x.o.dst (vs.getD i .any) := by rw [← hdst]; cases o.dst <;> rfl
      rw [e1] at h
      exact h
    · have hdf := m.rel.df
      cases o.dst <;> exact hdf
  obtain ⟨f1, f2, f3⟩ := hF i x hx
  have hpre : x.o.op.plain = false → isHeavy x.o = false → HV ((Hs.take (1 + cntD l i)).getD x.a []) (Rs.getD k []) := by
    intro hp hh
    by_cases ha : x.a < (Hs.take (1 + cntD l i)).length
    · have e1 : (Hs.take (1 + cntD l i)).getD x.a [] = Hs.getD x.a [] := by
        rw [List.length_take] at ha
        simp only [List.getD]
        rw [List.getElem?_take_of_lt (by omega)]
      rw [e1]
      have hak : x.a ≤ k := by
        rcases C.light i hil x hx hh with h | ⟨j, hj, y, hy, hyh, hb, hc⟩
        · omega
        · have := (m.hk j y hy hyh).1 (hin j hb).1
          simp only [cntD] at this
          omega
      have chain : ∀ q, x.a + q ≤ k → HV (Hs.getD x.a []) (Rs.getD (x.a + q) []) := by
        intro q
        induction q with
        | zero => intro hq; exact hVR _ (by have := m.kle; omega)
        | succ q ih =>
          intro hq
          have ih := ih (by omega)
          obtain ⟨j, y, hj, hy, hyh, hc⟩ := cntD_find l (x.a + q) l.length (Nat.le_refl _) (by have := m.kle; omega)
          have hDj : DL listed j = true := (m.hk j y hy hyh).2 (by omega)
          have hfr : x.a ∈ y.fr := by
            rcases C.free j hj i hil y x hy hx hyh hh with h | h | h | h
            · rw [hp] at h; cases h
            · exact h
            · have := (hout j hj h).1; rw [hDj] at this; cases this
            · simp only [cntD] at hc; omega
          have hcj := cntD_next l j y hy
          rw [if_pos hyh] at hcj
          obtain ⟨_, _, q3⟩ := hF j y hy
          have hsnap : (Hs.take (1 + cntD l j)).getD x.a [] = Hs.getD x.a [] := by
            simp only [List.getD]
            rw [List.getElem?_take_of_lt (by omega)]
          have hdo : ∀ {t v}, DoF P G y t (Hs.take (1 + cntD l j)) (Rs.getD (cntD l j) []) v (Rs.getD (cntD l (j + 1)) []) → HV (Hs.getD x.a []) (Rs.getD (x.a + (q + 1)) []) := by
            intro t v hd
            have := (hd.1 hyh).2 x.a hfr
            rw [hsnap, hcj, hc] at this
            exact this
          cases hg : y.o.guard with
          | none => rw [hg] at q3; exact hdo q3
          | some gp =>
            obtain ⟨g, want⟩ := gp
            rw [hg] at q3
            rcases q3 with ⟨b, _, q4, q5⟩ | ⟨_, _, q5⟩
            · by_cases hbw : b = want
              · exact hdo (q4 hbw)
              · have := (q5 hbw).2
                rw [hcj, hc] at this
                rw [show x.a + (q + 1) = x.a + q + 1 by omega, this]
                exact ih
            · rw [hcj, hc] at q5
              rw [show x.a + (q + 1) = x.a + q + 1 by omega, q5]
              exact ih
      have := chain (k - x.a) (by omega)
      rw [show x.a + (k - x.a) = k by omega] at this
      exact this
    · have e1 : (Hs.take (1 + cntD l i)).getD x.a [] = [] := by simp [List.getD, List.getElem?_eq_none (Nat.le_of_not_lt ha)]
      rw [e1]
      intro b q hb
      simp at hb
  have hll : l0.length = ops.toList.length := (cOps_get ops.toList _ hl0).1
  have hil0 : i < l0.length := by rw [hll]; simpa using h1
  have hd0 : cOper P ops o = some l0[i] := (cOps_get ops.toList _ hl0).2 i o _ ho' (List.getElem?_eq_getElem hil0)
  have hxo : x.o = alOp ms al i l0[i] := by
    have h2 : (l.map (·.o))[i]? = some x.o := by rw [List.getElem?_map, hx]; rfl
    rw [hco] at h2
    simp only [alOps, List.getElem?_map, List.getElem?_range hil0, Option.map_some, Option.some.injEq] at h2
    rw [← h2]
    simp [List.getD, hil0]
  have hd0d : l0[i].dst = o.dst := by
    unfold cOper at hd0
    split at hd0
    · simp only [Option.some.injEq] at hd0; rw [← hd0]
    · split at hd0
      · simp only [Option.some.injEq] at hd0; rw [← hd0]
      · cases hd0
  have htl : (putD (DL listed) 0 l vs t0).length = a.tmps.size := m.rel.tr.1
  rw [putD_length] at htl
  have hilt : i < listed.size := by omega
  have hlop : ∀ (j : Nat) (hj : j < ops.toList.length), ∃ y, l[j]? = some y := fun j hj => ⟨l[j]'(by rw [C.len]; exact hj), List.getElem?_eq_getElem _⟩
  -- the operation that makes a map
  have opMk : ∀ (q : Nat) (mi : MapI), ms[q]? = some mi → ∃ y, l[mi.at0]? = some y ∧ y.o = ⟨some mi.slot, .lmk, none⟩ := fun q mi hq => by
    have hm := List.mem_of_getElem? hq
    obtain ⟨o1, t1, k1, k2, k3, k4⟩ := (hone mi hm).made
    have hlt : mi.at0 < ops.toList.length := (List.getElem?_eq_some_iff.1 k1).1
    obtain ⟨y, hy⟩ := hlop _ hlt
    refine ⟨y, hy, ?_⟩
    have hlt0 : mi.at0 < l0.length := by rw [hll]; exact hlt
    have h2 : (l.map (·.o))[mi.at0]? = some y.o := by rw [List.getElem?_map, hy]; rfl
    rw [hco] at h2
    simp only [alOps, List.getElem?_map, List.getElem?_range hlt0, Option.map_some, Option.some.injEq] at h2
    rw [alOp_map fun y hy => ⟨fun h => (hal y hy).1.sp0 (h ▸ mem_specials0 hm), fun h => (hal y hy).1.sp1 (h ▸ mem_specials0 hm)⟩] at h2
    have hc1 : cOper P ops o1 = some l0[mi.at0] := (cOps_get ops.toList _ hl0).2 mi.at0 o1 _ k1 (List.getElem?_eq_getElem hlt0)
    have hdd : l0[mi.at0].dst = o1.dst := by
      unfold cOper at hc1
      rw [k4] at hc1
      simp only [Option.some.injEq] at hc1
      rw [← hc1]
    obtain ⟨m', hm'⟩ : ∃ m', ms.find? (fun m => m.at0 == mi.at0) = some m' := by
      cases hf : ms.find? (fun m => m.at0 == mi.at0) with
      | some m' => exact ⟨m', rfl⟩
      | none => have := List.find?_eq_none.1 hf mi hm; simp at this
    rw [← h2]
    simp only [mapOp, hm']
    rw [show l0.getD mi.at0 default = l0[mi.at0] by simp [List.getD, hlt0], hdd, k3]
  have slotU : ∀ (j : Nat) (y : DDOp), l[j]? = some y → ∀ (q : Nat) (mi : MapI), ms[q]? = some mi → y.o.dst = some mi.slot → j = mi.at0 := fun j y hy q mi hq hyd => by
    obtain ⟨z, hz, hzo⟩ := opMk q mi hq
    exact uniq_dst C j mi.at0 y z hy hz mi.slot hyd (by rw [hzo])
  obtain ⟨r, ra, A⟩ := m.J
  by_cases hia : ∃ y, al = some y ∧ (i = y.at0 ∨ i = y.at1)
  · obtain ⟨y, hy, hi01⟩ := hia
    obtain ⟨A1, hys, hy0⟩ := hal y hy
    obtain ⟨o0, inf, z, c1, c2, c3, c4, c5, c6, c7⟩ := A1.made
    obtain ⟨o1, g, d1, d2, d3, d4, d5, d6⟩ := A1.fill
    have h01 : y.at0 < y.at1 := mask_lt C y.at1 (List.getElem?_eq_some_iff.1 d1).1 _ d6
    -- the operation that fills it
    obtain ⟨yf, hyf⟩ := hlop y.at1 (List.getElem?_eq_some_iff.1 d1).1
    have hyfo : yf.o = ⟨some y.slot, .boxn y.sz (cOpd y.val), none⟩ := by
      have hlt0 : y.at1 < l0.length := by rw [hll]; exact (List.getElem?_eq_some_iff.1 d1).1
      have h2 : (l.map (·.o))[y.at1]? = some yf.o := by rw [List.getElem?_map, hyf]; rfl
      rw [hco] at h2
      simp only [alOps, List.getElem?_map, List.getElem?_range hlt0, Option.map_some, Option.some.injEq, hy, alOp] at h2
      rw [if_neg (by omega)] at h2
      simp only [if_true] at h2
      exact h2.symm
    have hmslot : ∀ m', m' ∈ ms → m'.slot ≠ y.slot := fun m' hm' he => by
      obtain ⟨q', hq'⟩ := List.getElem?_of_mem hm'
      have := slotU y.at1 yf hyf q' m' hq' (by rw [hyfo, he])
      exact A1.sp1 (this ▸ mem_specials0 hm')
    have hslv : DL listed y.at1 = false → (putD (DL listed) 0 l vs t0).getD y.slot .any = .any := fun hd1 => by
      rw [putD_other (DL listed) y.slot 0 l vs t0 fun j d hj hd => ?_]
      · exact hy0
      · have := uniq_dst C j y.at1 d yf hj hyf y.slot hd (by rw [hyfo])
        rw [this, Nat.zero_add]; exact hd1
    by_cases hi0 : i = y.at0
    · -- made
      subst hi0
      rw [ho'] at c1
      cases c1
      have hxo2 : x.o = ⟨none, .lmk, none⟩ := by rw [hxo, hy]; simp only [alOp, if_true]
      have hg : x.o.guard = none := by rw [hxo2]
      have hh : isHeavy x.o = false := by rw [hxo2]; rfl
      have hd1 : DL listed y.at1 = false := by
        cases hd : DL listed y.at1 with
        | false => rfl
        | true => rw [mask_in C hcl y.at1 hd y.at0 d6] at hDi; cases hDi
      obtain ⟨sd, J'⟩ := A.J.grow (v := .pointer (some ⟨e.H.size, 0, none⟩)) m.rel.hr hilt A1.sp0 (dst := some y.slot) (fun m' hm' h => hmslot m' hm' (by simpa using h.symm)) (.cells z.cells y.typ)
      unfold wpOp
      rw [ho]
      simp only [Region.wanted, c4, if_true]
      left
      have hrun : (execOp a.eval o).run P w = .ok (.value (.pointer (some ⟨w.heap.size, 0, none⟩))) (w.alloc (.cells z.cells y.typ)) := by
        simp [execOp, c2, Instr.alloc, zeroValue, typeInfo, c5, c6, newVar, newRow]
      have hyl : Yields P (execOp a.eval o) w fun v w' => v = .pointer (some ⟨w.heap.size, 0, none⟩) ∧ w' = w.alloc (.cells z.cells y.typ) := by
        unfold Yields
        rw [hrun]
        exact ⟨rfl, rfl⟩
      refine hyl.wp ?_
      rintro v w' ⟨rfl, rfl⟩
      have hsz' : e.H.size = w.heap.size := by rw [m.rel.H]
      rw [← hsz', c3]
      have hpva : pvA e0.pv al listed ra = e0.pv := by
        funext q
        apply propext
        constructor
        · rintro (h | ⟨y', h1, h2, _⟩)
          · exact h
          · rw [hy] at h1; cases h1
            have := h2.1; rw [hDi] at this; cases this
        · exact .inl
      have hpvb : pvA e0.pv al (listed.setIfInBounds y.at0 true) e.H.size = fun q => e0.pv q ∨ q = e.H.size := by
        funext q
        apply propext
        constructor
        · rintro (h | ⟨y', h1, h2, h3⟩)
          · exact .inl h
          · exact .inr h3
        · rintro (h | h)
          · exact .inl h
          · refine .inr ⟨y, hy, ⟨by rw [DL_set hilt]; simp, ?_⟩, h⟩
            rw [DL_set hilt, hd1]
            have : ¬ y.at1 = y.at0 := by omega
            simp [this]
      rw [hpva] at J'
      refine fin0 _ ⟨e.ρ, e.h, e.H.push (.cells z.cells y.typ), fun q => e.pv q ∨ q = e.H.size⟩ _ (Rs.getD k []) (by rw [m.rel.H]; rfl) ⟨rfl, rfl, rfl⟩ (m.rel.hr.side sd) (m.ev.side sd m.lo.1 m.pv0 fun z hz => ?_) (fun g => ⟨(m.rel.gr g).1.side sd, GX.mono (m.rel.gr g).1 (m.rel.gr g).2 fun _ hr => sd.Hro hr⟩) ?_ m.rel.df m.rel.h sd.size ⟨r, e.H.size, by rw [hpvb]; exact J', fun y' hy' hp' => ?_⟩ (fun h => by rw [hh] at h; cases h) (fun _ => rfl)
      · have := m.lo
        rw [Array.getElem?_push_lt (by omega), Array.getElem?_eq_getElem (by omega)]
      · rw [hxo2]
        show TR _ (putD (DL listed) 0 l vs t0) (a.tmps.setIfInBounds y.slot _)
        refine ⟨by rw [Array.size_setIfInBounds]; exact m.rel.tr.1, fun j hj hj' => ?_⟩
        by_cases hjs : j = y.slot
        · have h3 := hslv hd1
          have h4 : (putD (DL listed) 0 l vs t0)[j] = .any := by
            rw [← hjs] at h3
            simpa [List.getD, hj] using h3
          rw [h4]; exact .any
        · rw [Array.getElem_setIfInBounds_ne (by simpa using hj') (Ne.symm hjs)]
          exact (m.rel.tr.2 j hj (by simpa using hj')).side sd
      · rw [hy] at hy'; cases hy'
        refine ⟨m.lo.2, by simp, ?_, z.cells, y.typ, by simp, c7⟩
        have : y.slot < a.tmps.size := by rw [← htl]; exact hys
        simp [Act.put, this]
    · -- filled
      have hi1 : i = y.at1 := hi01.resolve_left hi0
      subst hi1
      rw [ho'] at d1
      cases d1
      rw [hx] at hyf
      cases hyf
      have hg : x.o.guard = none := by rw [hyfo]
      have hh : isHeavy x.o = true := by rw [hyfo]; rfl
      rw [hg] at f3
      have hpd : APend listed y := ⟨(hin y.at0 d6).1, hDi⟩
      have ok := A.ok y hy hpd
      obtain ⟨c, T, k1, k2⟩ := ok.obj
      have hrh : e.h = Rs.getD k [] := m.rel.h
      have hv0 := vcO_ev hev (f3.1 hh).1
      rw [← hkeq hh, ← hrh, hyfo] at hv0
      simp only [vcO] at hv0
      obtain ⟨⟨hst, hsz1⟩, hv1, hv2⟩ := hv0
      have hvx := vr_ev m.rel.gr m.rel.tr y.val
      generalize hdd : Opd.ev G (putD (DL listed) 0 l vs t0) (cOpd y.val) = dd at hvx hst hsz1 hv1 hv2
      generalize huu : a.eval y.val = u at hvx
      have hus : u.cells.size = y.sz := (vr_size hvx hst).trans hsz1
      have hev2 : a.eval (.tmp y.slot) = .pointer (some ⟨ra, 0, none⟩) := by
        simp only [Act.eval]
        have := ok.tmp
        simp [Array.getD_eq_getD_getElem?, this]
      obtain ⟨w', c', e1, e2, e3, e4, e5, e6⟩ := run_storeCells (P := P) ra T (0, 0) u.cells.toList 0 0 w c (by rw [← m.rel.H]; exact k1) (by simp; omega) (fun k _ hk => by omega) (fun q hq => by
        obtain ⟨j, hj, rfl⟩ := List.getElem_of_mem hq
        simpa using hvx.cells1 hst j (by simpa using hj))
      have ht := tyI_spec d5
      have hrun : (execOp a.eval o).run P w = .ok .skip w' := by
        simp only [execOp, d2, hev2, huu, Sem.run_bind, Instr.storeAt, Instr.sureAddr, Sem.run_pure, Result.andThen_ok, storeVar, ht.run_size, hus, ne_eq, not_true_eq_false, if_false, e1]
      unfold wpOp
      rw [ho]
      simp only [Region.wanted, d4, if_true]
      left
      have hyl : Yields P (execOp a.eval o) w fun v w2 => v = undef ∧ w2 = w' := by
        unfold Yields
        rw [hrun]
        exact ⟨rfl, rfl⟩
      refine hyl.wp ?_
      rintro v w2 ⟨rfl, rfl⟩
      rw [d3]
      -- written on the side, then it lives
      let ea : Env := ⟨e.ρ, e.h, w2.heap, e.pv⟩
      have sd : Side e ea := ⟨rfl, rfl, by show e.H.size ≤ w2.heap.size; rw [e3, m.rel.H]; exact Nat.le_refl _, fun q hq => by
        by_cases hqr : q = ra
        · subst hqr; exact .inr (A.pv hy hpd)
        · exact .inl (by show w2.heap[q]? = e.H[q]?; rw [e6 q hqr, m.rel.H]), fun q _ h => h, fun q h => by
        have := m.rel.hr.pvs q h
        show q < w2.heap.size
        rw [e3, ← m.rel.H]; exact this⟩
      have hra := m.rel.hr.side sd
      have hpa : ea.pv ra := A.pv hy hpd
      obtain ⟨evr, hr1⟩ := env_pub hra (C := y.sz) hpa (.cells dd.size [dd])
      let eb : Env := ⟨upd ea.ρ ea.h.length (some (ra, y.sz)), ea.h ++ [.cells dd.size [dd]], ea.H, fun q => ea.pv q ∧ q ≠ ra⟩
      have hvb : ∀ d v, VR e d v → VR eb d v := fun d v h => (h.side sd).gen0 evr (h.side sd).wf
      have hsz2 : c'.size = y.sz := by rw [e5.size]; exact k2
      have hrb : HR eb := by
        refine hr1 (.cells (ra, y.sz) c' T (0, 0) (fun _ => u) (upd_same _ _ _) e4 hsz2 (by simp [hsz1]) (fun k _ _ h => by simp at h) (fun j hj => ?_) (fun j hj => by rw [hus, hsz1]) (fun j hj => hvx.cells1 hst) (fun j hj k' hk' => ?_))
        · have : j = 0 := by simp at hj; exact hj
          subst this
          exact hvb _ _ hvx
        · have : j = 0 := by simp at hj; exact hj
          subst this
          have h1 : k' < u.cells.toList.length := by simp; omega
          have := e5.new k' h1
          simpa using this
      have hlo2 : ∀ q, q < H0 → ea.H[q]? = e.H[q]? := fun q hq => by
        show w2.heap[q]? = e.H[q]?
        rw [e6 q (by have := ok.lo; omega), m.rel.H]
      have hpva : pvA e0.pv al listed ra = fun q => e0.pv q ∨ q = ra := by
        funext q
        apply propext
        constructor
        · rintro (h | ⟨y', h1, h2, h3⟩)
          · exact .inl h
          · exact .inr h3
        · rintro (h | h)
          · exact .inl h
          · exact .inr ⟨y, hy, hpd, h⟩
      have hnp : ∀ y', al = some y' → ¬ APend (listed.setIfInBounds y.at1 true) y' := fun y' hy' hp' => by
        rw [hy] at hy'; cases hy'
        have := hp'.2
        rw [DL_set hilt] at this
        simp at this
      have hpvb : pvA e0.pv al (listed.setIfInBounds y.at1 true) ra = e0.pv := by
        funext q
        apply propext
        constructor
        · rintro (h | ⟨y', h1, h2, _⟩)
          · exact h
          · exact absurd h2 (hnp y' h1)
        · exact .inl
      have hJ := A.J
      rw [hpva] at hJ
      have hJb : JM ms H0 e0.pv vs (listed.setIfInBounds y.at1 true) eb a r := hJ.shrink (fun h => by have := m.pv0 _ h; have := ok.lo; omega) hilt A1.sp1 (fun q => Iff.rfl) sd.size (fun q hq hne => by show w2.heap[q]? = e.H[q]?; rw [e6 q hne, m.rel.H]) hvb
      refine fin0 a eb w2 eb.h rfl e2 hrb ((m.ev.side sd m.lo.1 m.pv0 hlo2).pub ok.lo m.lo.1 _ _) (fun g => ⟨hvb _ _ (m.rel.gr g).1, GX.mono (m.rel.gr g).1 (m.rel.gr g).2 fun _ hr => sd.Hro hr⟩) ?_ m.rel.df rfl sd.size ⟨r, ra, by rw [hpvb]; exact hJb, fun y' hy' hp' => absurd hp' (hnp y' hy')⟩ (fun _ => hv2) (fun h => by rw [hh] at h; cases h)
      rw [hyfo, ← hv1]
      have hptr : VR eb (.ptr e.h.length 0 0 1) (.pointer (some ⟨ra, 0, none⟩)) := vr_ptr_new (sz := dd.size) (C := y.sz) (by simp [Env.key, eb, ea, Blk.key]) (upd_same _ _ _)
      show TR _ ((putD (DL listed) 0 l vs t0).set y.slot _) a.tmps
      refine ⟨by rw [List.length_set]; exact m.rel.tr.1, fun j hj hj' => ?_⟩
      rw [List.getElem_set]
      by_cases hjs : y.slot = j
      · rw [if_pos hjs]
        have h3 : a.tmps[j] = .pointer (some ⟨ra, 0, none⟩) := by
          have := ok.tmp
          rw [hjs, Array.getElem?_eq_getElem hj'] at this
          exact Option.some.inj this
        rw [h3]; exact hptr
      · rw [if_neg hjs]
        exact hvb _ _ (m.rel.tr.2 j (by simpa using hj) hj')
  have hial : ∀ y, al = some y → i ≠ y.at0 ∧ i ≠ y.at1 := fun y hy => ⟨fun h => hia ⟨y, hy, .inl h⟩, fun h => hia ⟨y, hy, .inr h⟩⟩
  rw [alOp_map hial] at hxo
  have hput : ∀ v y, al = some y → (a.put o.dst v).tmps[y.slot]? = a.tmps[y.slot]? := fun v y hy => Act.put_get fun h => (hial y hy).1 ((hal y hy).1.only i o ho' h)
  have hput0 : o.dst = none → ∀ v, a.put o.dst v = a := fun h v => by rw [h]; rfl
  obtain J := A.J
  by_cases hsp : i ∈ specials ms
  · -- a map is made, filled, handed on
    obtain ⟨mi, hmi, hir⟩ := List.mem_flatMap.1 hsp
    obtain ⟨q, hq⟩ := List.getElem?_of_mem hmi
    have M1 := hone mi hmi
    have hnd := special_in hnod hmi
    simp only [List.nodup_cons, List.mem_cons, not_or] at hnd
    obtain ⟨⟨h01, hn0⟩, hn1, hni⟩ := hnd
    have hfind : ∀ (p : MapI → Bool) (m' : MapI), ms.find? p = some m' → m' ∈ ms ∧ p m' = true := fun p m' h => ⟨List.mem_of_find?_eq_some h, List.find?_some h⟩
    have honly : ∀ m', m' ∈ ms → i ∈ m'.at0 :: m'.at1 :: m'.ins.map (·.1) → m' = mi := fun m' hm' hi' => by
      obtain ⟨q', hq'⟩ := List.getElem?_of_mem hm'
      by_cases hqq : q' = q
      · subst hqq; rw [hq] at hq'; cases hq'; rfl
      · exact absurd rfl (special_ne hnod hq' hq hqq hi' hir)
    have bits : ∀ (z : Nat), (M.getD mi.at1 0).testBit z = true → DL listed mi.at1 = true → DL listed z = true := fun z hz hd => mask_in C hcl mi.at1 hd z hz
    rcases List.mem_cons.1 hir with hi0 | hir
    · -- made
      subst hi0
      obtain ⟨o1, t1, k1, k2, k3, k4⟩ := M1.made
      rw [ho'] at k1
      cases k1
      obtain ⟨y, hy, hyo⟩ := opMk q mi hq
      rw [hx] at hy
      cases hy
      have hg : x.o.guard = none := by rw [hyo]
      have hh : isHeavy x.o = false := by rw [hyo]; rfl
      rw [hg] at f3
      have hval := f3.2 hh
      rw [hyo] at hval
      simp only [vcO] at hval
      have hun : DL listed mi.at1 = false := by
        cases hd : DL listed mi.at1 with
        | false => rfl
        | true =>
          obtain ⟨_, _, _, _, k5⟩ := M1.handed
          rw [bits mi.at0 k5 hd] at hDi; cases hDi
      have huni : ∀ z, z ∈ mi.ins → DL listed z.1 = false := fun z hz => by
        cases hd : DL listed z.1 with
        | false => rfl
        | true => rw [mask_in C hcl z.1 hd mi.at0 (M1.ins z hz).2.1] at hDi; cases hDi
      obtain ⟨sd, J'⟩ := J.made m.rel.hr hnod hq hilt hDi hun huni m.lo.2 (A.lt m.pv0 m.lo.2) (by rw [← htl]; exact (hslot mi hmi).1) fun q' m' hq' hs' => by
        obtain ⟨z, hz, hzo⟩ := opMk q' m' hq'
        have := uniq_dst C m'.at0 mi.at0 z x hz hx mi.slot (by rw [hzo, hs']) (by rw [hyo])
        by_cases hqq : q' = q
        · exact hqq
        · exact absurd this (special_ne hnod hq' hq hqq (by simp) (by simp))
      unfold wpOp
      rw [ho]
      simp only [Region.wanted, k4, if_true]
      left
      have hrun : (execOp a.eval o).run P w = .ok (.value (.map (some w.heap.size))) (w.alloc (.map #[] 0)) := by
        simp only [execOp, k2, Sem.run_bind, Option.map_none]
        rw [show (Instr.makeMap t1 none).run P w = .ok (.map (some w.heap.size)) (w.alloc (.map #[] 0)) from run_makeMap_plain w t1]
        rfl
      have hy : Yields P (execOp a.eval o) w fun v w' => v = .map (some w.heap.size) ∧ w' = w.alloc (.map #[] 0) := by
        unfold Yields
        rw [hrun]
        exact ⟨rfl, rfl⟩
      refine hy.wp ?_
      rintro v w' ⟨rfl, rfl⟩
      have hsz' : e.H.size = w.heap.size := by rw [m.rel.H]
      rw [← hsz']
      refine fin _ _ _ (Rs.getD k []) (by rw [m.rel.H]; rfl) ⟨rfl, rfl, rfl⟩ (m.rel.hr.side sd) (m.ev.side sd m.lo.1 m.pv0 fun z hz => ?_) (fun g => ⟨(m.rel.gr g).1.side sd, GX.mono (m.rel.gr g).1 (m.rel.gr g).2 fun _ hr => sd.Hro hr⟩) ⟨m.rel.tr.1, fun j hj hj' => (m.rel.tr.2 j hj hj').side sd⟩ (by rw [← hval]; exact .any) m.rel.h sd.size ⟨_, ra, A.keep hilt hial (by rw [k3]; exact J') (fun y hy hp => by have := (A.ok y hy hp).lt; rw [Array.getElem?_push_lt this, Array.getElem?_eq_getElem this]) sd.size (hput _)⟩ (by rw [hyo, k3]) (fun h => by rw [hh] at h; cases h) (fun _ => rfl)
      have := m.lo
      rw [Array.getElem?_push_lt (by omega), Array.getElem?_eq_getElem (by omega)]
    rcases List.mem_cons.1 hir with hi1 | hir
    · -- handed on
      subst hi1
      obtain ⟨o1, k1, k2, k3, k4⟩ := M1.handed
      rw [ho'] at k1
      cases k1
      have hf0 : ms.find? (fun m => m.at0 == mi.at1) = none := by
        cases hf : ms.find? (fun m => m.at0 == mi.at1) with
        | none => rfl
        | some m' =>
          obtain ⟨g1, g2⟩ := hfind _ _ hf
          have := honly m' g1 (by simp only [beq_iff_eq] at g2; rw [← g2]; simp)
          subst this
          exact absurd (by simpa using g2) h01
      have hf1 : ms.find? (fun m => m.at1 == mi.at1) = some mi := by
        cases hf : ms.find? (fun m => m.at1 == mi.at1) with
        | none => have := List.find?_eq_none.1 hf mi hmi; simp at this
        | some m' =>
          obtain ⟨g1, g2⟩ := hfind _ _ hf
          rw [honly m' g1 (by simp only [beq_iff_eq] at g2; rw [← g2]; simp)]
      have hxo2 : x.o = ⟨o.dst, .lpb mi.ck (mi.ins.map (·.2.1)) (mi.ins.map fun x => .t x.2.2.1), none⟩ := by
        rw [hxo]
        simp only [mapOp, hf0, hf1, hd0d]
      have hg : x.o.guard = none := by rw [hxo2]
      have hh : isHeavy x.o = false := by rw [hxo2]; rfl
      rw [hg] at f3
      have hval := f3.2 hh
      rw [hxo2] at hval
      simp only [vcO, List.map_map] at hval
      have hval := hval.2
      have hvals : (mi.ins.map ((Opd.ev G (putD (fun j => decide (j < mi.at1)) 0 l vs t0)) ∘ fun x => Opd.t x.2.2.1)) = mi.ins.map fun x => vs.getD x.2.2.2 .any := by
        refine List.map_congr_left fun z hz => ?_
        obtain ⟨_, _, b2, b3, yz, hyz, hyd⟩ := M1.ins z hz
        have hlt2 : z.2.2.2 < mi.at1 := by
          have h3 := mask_lt C z.1 (by obtain ⟨⟨oz, _, _, _, c1, _⟩, _⟩ := M1.ins z hz; exact (List.getElem?_eq_some_iff.1 c1).1) _ b2
          have h4 := mask_lt C mi.at1 (by simpa using h1) _ b3
          omega
        show (putD (fun j => decide (j < mi.at1)) 0 l vs t0).getD z.2.2.1 .any = _
        by_cases hin0 : z.2.2.1 < t0.length
        · exact putD_one _ _ 0 l vs t0 hv hin0 z.2.2.2 yz hyz hyd (by simpa using hlt2) fun j' d' g1 g2 => uniq_dst C j' z.2.2.2 d' yz g1 hyz _ g2 hyd
        · exact absurd ((hslot mi hmi).2 z hz) hin0
      rw [hvals] at hval
      have hall : ∀ z, z ∈ mi.ins → DL listed z.1 = true := fun z hz => (hin z.1 (M1.ins z hz).2.2.2.1).1
      have hpd : Pend listed mi := ⟨(hin mi.at0 k4).1, hDi⟩
      have hdst : ∀ m', m' ∈ ms → o.dst ≠ some m'.slot := fun m' hm' hd => by
        obtain ⟨q', hq'⟩ := List.getElem?_of_mem hm'
        have := slotU mi.at1 x hx q' m' hq' (by rw [hxo2]; exact hd)
        by_cases hqq : q' = q
        · subst hqq; rw [hq] at hq'; cases hq'; exact h01 this.symm
        · exact special_ne hnod hq' hq hqq (x := m'.at0) (y := mi.at1) (by simp) (by simp) this.symm
      obtain ⟨sd, hfm, J'⟩ := J.handed (v := .map (some (r q))) m.rel.hr hnod hq hpd hilt hall hdst
      have ok := J.ok q mi hq hpd
      unfold wpOp
      rw [ho]
      simp only [Region.wanted, k3, if_true]
      left
      have hev2 : a.eval (.tmp mi.slot) = .map (some (r q)) := by
        simp only [Act.eval]
        have := ok.tmp
        simp [Array.getD_eq_getD_getElem?, this]
      have hy : Yields P (execOp a.eval o) w fun v w' => v = .map (some (r q)) ∧ w' = w := by
        unfold Yields
        simp [execOp, k2, hev2]
      refine hy.wp ?_
      rintro v w' ⟨hv1, hw1⟩
      rw [hv1, hw1]
      exact fin _ ⟨e.ρ, e.h, e.H, fun x => e.pv x ∧ x ≠ r q⟩ w (Rs.getD k []) m.rel.H (WS.refl w) (m.rel.hr.side sd) (m.ev.side sd m.lo.1 m.pv0 fun z hz => rfl) (fun g => ⟨(m.rel.gr g).1.side sd, GX.mono (m.rel.gr g).1 (m.rel.gr g).2 fun _ hr => sd.Hro hr⟩) ⟨m.rel.tr.1, fun j hj hj' => (m.rel.tr.2 j hj hj').side sd⟩ (by rw [← hval]; exact hfm) m.rel.h sd.size ⟨_, ra, A.keep hilt hial J' (fun y hy hp => rfl) sd.size (hput _)⟩ (by rw [hxo2]) (fun h => by rw [hh] at h; cases h) (fun _ => rfl)
    · -- filled
      obtain ⟨z, hz, hzi⟩ := List.mem_map.1 hir
      subst hzi
      obtain ⟨⟨o1, t1, kt, et, c1, c2, c3, c4, c5, c6⟩, b1, b2, b3, yz, hyz, hyd⟩ := M1.ins z hz
      rw [ho'] at c1
      cases c1
      have hf0 : ms.find? (fun m => m.at0 == z.1) = none := by
        cases hf : ms.find? (fun m => m.at0 == z.1) with
        | none => rfl
        | some m' =>
          obtain ⟨g1, g2⟩ := hfind _ _ hf
          have := honly m' g1 (by simp only [beq_iff_eq] at g2; rw [← g2]; simp)
          subst this
          exact absurd (by simp only [beq_iff_eq] at g2; rw [g2]; exact List.mem_map_of_mem hz) hn0
      have hf1 : ms.find? (fun m => m.at1 == z.1) = none := by
        cases hf : ms.find? (fun m => m.at1 == z.1) with
        | none => rfl
        | some m' =>
          obtain ⟨g1, g2⟩ := hfind _ _ hf
          have := honly m' g1 (by simp only [beq_iff_eq] at g2; rw [← g2]; simp)
          subst this
          exact absurd (by simp only [beq_iff_eq] at g2; rw [g2]; exact List.mem_map_of_mem hz) hn1
      have hxo2 : x.o = ⟨o.dst, .lin, none⟩ := by
        rw [hxo]
        simp only [mapOp, hf0, hf1, hd0d]
        rw [if_pos (by simpa using hsp)]
      have hg : x.o.guard = none := by rw [hxo2]
      have hh : isHeavy x.o = false := by rw [hxo2]; rfl
      rw [hg] at f3
      have hval := f3.2 hh
      rw [hxo2] at hval
      simp only [vcO] at hval
      have hpd : Pend listed mi := ⟨(hin mi.at0 b1).1, by
        cases hd : DL listed mi.at1 with
        | false => rfl
        | true => rw [bits z.1 b3 hd] at hDi; cases hDi⟩
      have ok := J.ok q mi hq hpd
      have hev2 : a.eval (.tmp mi.slot) = .map (some (r q)) := by
        simp only [Act.eval]
        have := ok.tmp
        simp [Array.getD_eq_getD_getElem?, this]
      have hvx : VR e (vs.getD z.2.2.2 .any) (a.eval (.tmp z.2.2.1)) := by
        have := vr_ev m.rel.gr m.rel.tr (.tmp z.2.2.1)
        have e1 : Opd.ev G (putD (DL listed) 0 l vs t0) (cOpd (.tmp z.2.2.1)) = (putD (DL listed) 0 l vs t0).getD z.2.2.1 .any := rfl
        rw [e1] at this
        by_cases hin0 : z.2.2.1 < t0.length
        · rw [putD_one _ _ 0 l vs t0 hv hin0 z.2.2.2 yz hyz hyd (by rw [Nat.zero_add]; exact (hin _ b2).1) fun j' d' g1 g2 => uniq_dst C j' z.2.2.2 d' yz g1 hyz _ g2 hyd] at this
          exact this
        · exact absurd ((hslot mi hmi).2 z hz) hin0
      obtain ⟨w1, hrun, hws, e1, g1, g2, sd, hlo, J'⟩ := J.put m.rel.hr m.rel.H hnod hq hpd hz hilt hDi M1.dist c5 c6 hvx
      unfold wpOp
      rw [ho]
      simp only [Region.wanted, c3, if_true]
      left
      have hy : Yields P (execOp a.eval o) w fun v w' => v = undef ∧ w' = w1 := by
        unfold Yields
        have : (execOp a.eval o).run P w = .ok .skip w1 := by
          simp only [execOp, c2, hev2, Sem.run_bind]
          rw [show a.eval (.const z.2.1) = z.2.1 from rfl, hrun]
          rfl
        rw [this]
        exact ⟨rfl, rfl⟩
      refine hy.wp ?_
      rintro v w' ⟨rfl, rfl⟩
      refine fin _ e1 _ (Rs.getD k []) g1 hws (m.rel.hr.side sd) (m.ev.side sd m.lo.1 m.pv0 fun y hy => hlo y (by have := ok.lo; omega)) (fun g => ⟨(m.rel.gr g).1.side sd, GX.mono (m.rel.gr g).1 (m.rel.gr g).2 fun _ hr => sd.Hro hr⟩) ⟨m.rel.tr.1, fun j hj hj' => (m.rel.tr.2 j hj hj').side sd⟩ (by rw [← hval]; exact .any) (g2.trans m.rel.h) sd.size ⟨r, ra, A.keep hilt hial (by rw [c4]; exact J') (fun y hy hp => hlo _ fun h => ok.npv (.inr ⟨y, hy, hp, h.symm⟩)) sd.size (hput _)⟩ (by rw [hxo2]) (fun h => by rw [hh] at h; cases h) (fun _ => rfl)
  -- another operation
  have hxo2 : x.o = l0[i] := by
    rw [hxo]
    have hf0 : ms.find? (fun m => m.at0 == i) = none := List.find?_eq_none.2 fun m' hm' h => hsp (by simp only [beq_iff_eq] at h; rw [← h]; exact mem_specials0 hm')
    have hf1 : ms.find? (fun m => m.at1 == i) = none := List.find?_eq_none.2 fun m' hm' h => hsp (by simp only [beq_iff_eq] at h; rw [← h]; exact mem_specials1 hm')
    simp only [mapOp, hf0, hf1]
    rw [if_neg (by simpa using hsp)]
  have hcO : cOper P ops o = some x.o := by rw [hxo2]; exact hd0
  have hdst : ∀ m', m' ∈ ms → o.dst ≠ some m'.slot := fun m' hm' hd => by
    obtain ⟨q', hq'⟩ := List.getElem?_of_mem hm'
    have := slotU i x hx q' m' hq' (by rw [hxo2, hd0d]; exact hd)
    exact hsp (this ▸ mem_specials0 hm')
  replace fin : ∀ (v : Value) (e' : Env) (w' : World) (hd : List Blk), e'.H = w'.heap → WS w w' → HR e' → Ev e.h.length e e' → VR e' (vs.getD i .any) v → e'.h = hd →
      (isHeavy x.o = true → hd = Rs.getD (cntD l (i + 1)) []) → (isHeavy x.o = false → hd = Rs.getD k []) → Kk (a.put o.dst v) w' := fun v e' w' hd g1 g2 g3 g4 g5 g6 g7 g8 =>
    fin v e' w' hd g1 g2 g3 (m.ev.step g4 g3 fun z hz => A.sub hz) (m.rel.gr.mono g4) (m.rel.tr.mono g4) g5 g6 g4.size ⟨r, ra, A.keep hilt hial (J.other hilt hsp hdst g4) (fun y hy hp => g4.pvH _ (A.pv hy hp)) g4.size (hput v)⟩ (by rw [hxo2, hd0d]) g7 g8
  have run : cOpR P o x.o.op → DoF P G x (putD (fun j => decide (j < i)) 0 l vs t0) (Hs.take (1 + cntD l i)) (Rs.getD (cntD l i) []) (vs.getD i .any) (Rs.getD (cntD l (i + 1)) []) → o.wp P a w Kk Q := by
    intro hop hdo
    have hrh : e.h = Rs.getD k [] := m.rel.h
    cases hh : isHeavy x.o with
    | true =>
      have hv0 := vcO_ev hev (hdo.1 hh).1
      rw [← hkeq hh, ← hrh] at hv0
      have hy := sound_opR (e := e) (w := w) hop m.rel.gr m.rel.tr m.rel.H m.rel.hr hv0
      refine hy.wp fun v w' ⟨e', dv, g1, g2, g3, g4, g5, g6⟩ => ?_
      rw [g6.1] at g5
      exact fin v e' w' e'.h g1 g2 g3 g4 g5 rfl (fun _ => g6.2) (fun h => by rw [hh] at h; cases h)
    | false =>
      have hv0 := vcO_ev hev (hdo.2 hh)
      have hv1 : vcO P G x.o.op (Opd.ev G (putD (DL listed) 0 l vs t0)) (Rs.getD k []) (fun v1 h2 => v1 = vs.getD i .any ∧ h2 = Rs.getD k []) := by
        cases hp : x.o.op.plain with
        | true => exact vcO_plain hp (fun v h => ⟨h, rfl⟩) hv0
        | false => exact vcO_ext hh (hpre hp hh) (fun v h => ⟨h, rfl⟩) hv0
      rw [← hrh] at hv1
      have hy := sound_opR (e := e) (w := w) hop m.rel.gr m.rel.tr m.rel.H m.rel.hr hv1
      refine hy.wp fun v w' ⟨e', dv, g1, g2, g3, g4, g5, g6⟩ => ?_
      rw [g6.1] at g5
      exact fin v e' w' e'.h g1 g2 g3 g4 g5 rfl (fun h => by rw [hh] at h; cases h) (fun _ => g6.2.trans hrh)
  unfold wpOp
  rw [ho]
  simp only
  unfold cOper at hcO
  cases hgd : o.guard with
  | none =>
    rw [hgd] at hcO
    simp only [Option.some.injEq] at hcO
    have q1 : x.o.guard = none := by rw [← hcO]
    have q2 : cOpR P o x.o.op := .inl (by rw [← hcO])
    rw [q1] at f3
    simp only [Region.wanted, hgd, if_true]
    exact .inl (run q2 f3)
  | some gp =>
    obtain ⟨j, want⟩ := gp
    rw [hgd] at hcO
    simp only at hcO
    cases hgj : (ops[j]?).bind (·.dst) with
    | none => rw [hgj] at hcO; cases hcO
    | some g =>
      rw [hgj] at hcO
      simp only [Option.some.injEq] at hcO
      have q1 : x.o.guard = some (g, want) := by rw [← hcO]
      have q2 : cOpR P o x.o.op := .inl (by rw [← hcO])
      rw [q1] at f3
      rcases f3 with ⟨b, hb, p1, p2⟩ | ⟨hb, p3, p4⟩
      · have hb' : (putD (DL listed) 0 l vs t0).getD g .any = .p (.bool b) := by
          rw [hsl g (by simp only [looks, q1, List.mem_append]; exact .inr (by simp))]
          exact hb
        have hyd := guard_yielded m.rel.tr hgj hb'
        simp only [Region.wanted, hgd, hyd]
        by_cases hbw : b = want
        · rw [if_pos (by simp [hbw])]
          exact .inl (run q2 (p1 hbw))
        · rw [if_neg (by simp [hbw])]
          obtain ⟨p3, p4⟩ := p2 hbw
          refine fin undef e w (Rs.getD k []) m.rel.H (WS.refl w) m.rel.hr (Ev.refl e) (by rw [p3]; exact vr_undef) m.rel.h (fun hh => ?_) (fun _ => rfl)
          rw [p4, hkeq hh]
      · have hb' : (putD (DL listed) 0 l vs t0).getD g .any = .tup [] := by
          rw [hsl g (by simp only [looks, q1, List.mem_append]; exact .inr (by simp))]
          exact hb
        have hyd := guard_none m.rel.tr hgj hb'
        simp only [Region.wanted, hgd, hyd]
        rw [if_neg (by simp)]
        refine fin undef e w (Rs.getD k []) m.rel.H (WS.refl w) m.rel.hr (Ev.refl e) (by rw [p3]; exact vr_undef) m.rel.h (fun hh => ?_) (fun _ => rfl)
        rw [p4, hkeq hh]

/-- A REGION THAT IS DRAWN: what holds in the text's order holds in each. -/
theorem drawn_anyM (C : Chk ops.toList l M) {l0 : List DOper} (hl0 : cOps P ops ops.toList = some l0) (hco : l.map (·.o) = alOps ms al l0) (hal : ∀ y, al = some y → AOne P ops.toList ms M y ∧ y.slot < t0.length ∧ t0.getD y.slot .any = .any) (hnod : (specials ms).Nodup) (hone : ∀ m, m ∈ ms → MOne P ops.toList l M m) (hslot : ∀ m, m ∈ ms → m.slot < t0.length ∧ ∀ z, z ∈ m.ins → z.2.2.1 < t0.length) (hv : vs.length = l.length) (hF : Facts P G l vs t0 Hs Rs) (hVR : ∀ k, k ≤ cntD l l.length → HV (Hs.getD k []) (Rs.getD k [])) {Q : Exit → Act → World → Prop}
    (hQ : ∀ e a w, RelE G D n e0 w0 e ⟨putD (fun _ => true) 0 l vs t0, Rs.getD (cntD l l.length) []⟩ a w → Q .normal a w) :
    ∀ (fuel : Nat) (listed : Array Bool) (k : Nat) (e : Env) (a : Act) (w : World), left ops.size listed ≤ fuel → MidM P G D n e0 w0 ops.toList l vs t0 (fun k => Rs.getD k []) ms al H0 listed k e a w → wpAny P .any ops Q fuel listed a w := by
  have done : ∀ (listed : Array Bool) (k : Nat) (e : Env) (a : Act) (w : World), (∀ i, i < ops.size → DL listed i = true) → MidM P G D n e0 w0 ops.toList l vs t0 (fun k => Rs.getD k []) ms al H0 listed k e a w → Q .normal a w := by
    intro listed k e a w hall m
    have hlen : l.length = ops.size := by rw [C.len]; simp
    have hk : k = cntD l l.length := by
      have := m.kle
      rcases cntD_last l l.length (Nat.le_refl _) with h | ⟨j, y, g1, g2, g3, g4⟩
      · omega
      · have := (m.hk j y g2 g3).1 (hall j (by omega))
        omega
    refine hQ e a w ?_
    have := m.rel
    rw [hk, putD_congr (D := DL listed) (D' := fun _ => true) 0 l vs t0 (fun j hj => by rw [Nat.zero_add]; exact hall j (by omega))] at this
    obtain ⟨r, ra, A⟩ := m.J
    have J := A.J
    have hpv : e.pv = e0.pv := by
      funext x
      apply propext
      rw [J.pv x]
      constructor
      · rintro ((h | ⟨y, hy, hp, _⟩) | ⟨q, mi, h1, h2, h3⟩)
        · exact h
        · obtain ⟨o, g, d1, _⟩ := (hal y hy).1.fill
          have := hall y.at1 (by simpa using (List.getElem?_eq_some_iff.1 d1).1)
          rw [hp.2] at this; cases this
        · obtain ⟨o, k1, _⟩ := (hone mi (List.mem_of_getElem? h1)).handed
          have := hall mi.at1 (by simpa using (List.getElem?_eq_some_iff.1 k1).1)
          rw [h2.2] at this; cases this
      · exact fun h => .inl (.inl h)
    exact ⟨this, by have h := m.ev; unfold EvW at h; rw [← hpv] at h; exact h, m.ws, m.le⟩
  intro fuel
  induction fuel with
  | zero =>
    intro listed k e a w hl m
    have hall := left_zero (Nat.le_zero.1 hl)
    refine ⟨?_, done listed k e a w hall m⟩
    cases hr : Region.ready .any ops listed with
    | nil => rfl
    | cons i r =>
      obtain ⟨h1, h2, _⟩ := ready_spec (ops := ops) (listed := listed) (i := i) (by rw [m.size]; simp) (by rw [hr]; exact List.mem_cons_self)
      rw [hall i h1] at h2
      cases h2
  | succ fuel ih =>
    intro listed k e a w hl m
    have hsz : listed.size = ops.size := by rw [m.size]; simp
    refine ⟨fun hr => done listed k e a w (ready_nil C hsz hr) m, fun i hi => ?_⟩
    obtain ⟨h1, h2, _⟩ := ready_spec hsz hi
    refine drawn_stepM C hl0 hco hal hnod hone hslot hv hF hVR m hi fun k' e' a' w' m' => ?_
    exact ih _ k' e' a' w' (by have := left_lt hsz h1 h2; omega) m'

theorem drawn_viewM {nb : Nat} {sl : Option Nat} {r : List DDOp} (hc : cDrawM P ops = some (nb, sl, r)) {e : Env} {s : St} {a : Act} {w : World} {K : List DV → List Blk → Prop} (hr0 : RelE G D n e0 w0 e s a w) (hnb0 : nb ≤ s.t.length) (h : vcD P G r (putL s.t sl .any) [s.h] s.h K) {id : Nat} {Q : Exit → Act → World → Prop}
    (hQ : ∀ e a w t h, RelE G D n e0 w0 e ⟨t, h⟩ a w → K t h → Q .normal a w) : (Code.region id ops true).wp P Q a w := by
  obtain ⟨l0, al, hl0, hco, C, hm, hnod, hone, hsl, hal0, hsal⟩ := cDrawM_spec hc
  have hr : RelE G D n e0 w0 e ⟨putL s.t sl .any, s.h⟩ a w := by
    refine ⟨⟨hr0.r.h, hr0.r.H, hr0.r.hr, hr0.r.gr, ?_, hr0.r.df⟩, hr0.ev, hr0.ws, hr0.le⟩
    cases sl with
    | none => exact hr0.r.tr
    | some q =>
      refine ⟨by simp only [putL, List.length_set]; exact hr0.r.tr.1, fun j hj hj' => ?_⟩
      simp only [putL, List.getElem_set]
      split
      · exact .any
      · exact hr0.r.tr.2 j (by simpa [putL] using hj) hj'
  have hnb : nb ≤ (putL s.t sl .any).length := by rw [putL_length]; exact hnb0
  have hal : ∀ y, al = some y → AOne P ops.toList (mapsOf P ops.toList l0) (masksFrom [] ops.toList) y ∧ y.slot < (putL s.t sl .any).length ∧ (putL s.t sl .any).getD y.slot .any = .any := fun y hy => by
    obtain ⟨h1, h2⟩ := hal0 y hy
    refine ⟨h1, Nat.lt_of_lt_of_le h2 hnb, ?_⟩
    rw [hsal, hy]
    exact putL_same (Nat.lt_of_lt_of_le h2 hnb0)
  generalize putL s.t sl .any = t1 at hr hnb hal h
  obtain ⟨st, sh⟩ := s
  simp only at hr h
  let s : St := ⟨t1, sh⟩
  replace hr : RelE G D n e0 w0 e s a w := hr
  replace h : vcD P G r s.t [s.h] s.h K := h
  replace hnb : nb ≤ s.t.length := hnb
  replace hal : ∀ y, al = some y → AOne P ops.toList (mapsOf P ops.toList l0) (masksFrom [] ops.toList) y ∧ y.slot < s.t.length ∧ s.t.getD y.slot .any = .any := hal
  have hslot : ∀ m, m ∈ mapsOf P ops.toList l0 → m.slot < s.t.length ∧ ∀ z, z ∈ m.ins → z.2.2.1 < s.t.length := fun m hm => ⟨Nat.lt_of_lt_of_le (hsl m hm).1 hnb, fun z hz => Nat.lt_of_lt_of_le ((hsl m hm).2 z hz) hnb⟩
  obtain ⟨vs, t', Hs', h', T, hk⟩ := vcD_trace r s.t [s.h] s.h C.det h
  obtain ⟨Rs', g1, g2, g3, g4, g3R, g4R, g5, gk, g6⟩ := T.at 0 [s.h] rfl ⟨[], rfl⟩
  have hF : Facts P G r vs s.t Hs' Rs' := by
    intro i d hi
    have := g6 i d hi
    simpa only [Nat.zero_add, List.length_singleton, Nat.sub_self] using this
  have h0 : Rs'.getD 0 [] = s.h := by
    obtain ⟨Y, hY⟩ := g3R
    rw [← hY]
    simp [List.getD]
  have h0' : Hs'.getD 0 [] = s.h := by
    obtain ⟨Y, hY⟩ := g3
    rw [← hY]
    simp [List.getD]
  have hVR : ∀ k, k ≤ cntD r r.length → HV (Hs'.getD k []) (Rs'.getD k []) := fun k _ => by
    cases k with
    | zero => rw [h0, h0']; exact HV.refl _
    | succ k =>
      have := gk (k + 1) (by simp)
      simp only [List.getD, this]
      exact HV.refl _
  have hlast : Rs'.getD (cntD r r.length) [] = h' := by
    obtain ⟨X, hX⟩ := g5
    have : X.length = cntD r r.length := by rw [g4] at g4R; rw [hX] at g4R; simp at g4R; omega
    rw [hX, ← this]
    simp [List.getD]
  have hfalse : ∀ i, DL (Array.replicate ops.size false) i = false := fun i => by
    unfold DL
    rw [Array.getD_eq_getD_getElem?]
    by_cases h : i < ops.size
    · simp [Array.getElem?_replicate, h]
    · simp [Array.getElem?_replicate, h]
  refine wp_region_any hm (drawn_anyM (n := n) (e0 := e0) (w0 := w0) (H0 := e.H.size) C hl0 hco hal hnod hone hslot g1 hF hVR (fun e a w hr => hQ e a w _ _ hr ?_) ops.size _ 0 e a _ ?_ ⟨by simp, fun i hi => absurd ((hfalse i).symm.trans hi) (by decide), fun i x hx hh => ?_, Nat.zero_le _, ?_, ?_, ?_, ?_, ?_, ?_, ?_⟩)
  · rw [← g2, hlast]; exact hk
  · unfold left
    refine Nat.le_trans (List.length_filter_le _ _) (by simp)
  · rw [hfalse]; simp
  · have e1 : putD (DL (Array.replicate ops.size false)) 0 r vs s.t = s.t := putD_none 0 r vs s.t fun j _ => hfalse j
    rw [e1, h0]
    refine ⟨hr.r.h, hr.r.H, hr.r.hr, hr.r.gr, hr.r.tr, hr.r.df⟩
  · unfold EvW; rw [← hr.ev.pv]; exact hr.ev
  · exact ⟨hr.ws.os, hr.ws.tape, hr.ws.output⟩
  · exact hr.le
  · exact ⟨hr.ev.size, Nat.le_refl _⟩
  · intro x hx
    rw [← hr.ev.pv] at hx
    exact hr.r.hr.pvs x hx
  · refine ⟨fun _ => 0, 0, ⟨fun q m hq hp => ?_, fun q q' m m' hq hq' hp => ?_, fun x => ?_⟩, fun y hy hp => by have := hp.1; rw [hfalse] at this; cases this⟩
    · have := hp.1; rw [hfalse] at this; cases this
    · have := hp.1; rw [hfalse] at this; cases this
    · rw [← hr.ev.pv]
      constructor
      · exact fun h => .inl (.inl h)
      · rintro ((h | ⟨y, hy, hp, _⟩) | ⟨q, m, h1, h2, h3⟩)
        · exact h
        · have := hp.1; rw [hfalse] at this; cases this
        · have := h2.1; rw [hfalse] at this; cases this
end
end Go.Den

namespace Go.Den
open Go

/-- The same operation, its call one of more than one outcome. -/
def DOper.rel (o : DOper) : DOper := ⟨o.dst, o.op.rel, o.guard⟩

/-- As rel; []byte(text) is a slice of its own. -/
def DOper.relL (o : DOper) : DOper := ⟨o.dst, o.op.relL, o.guard⟩
/-- An operation, as the region wants it: b: []byte(text) is a slice of its own. -/
def DO.relV (b : Bool) (o : DO) : DO := if b = true then o.relL else o.rel
def DOper.relV (b : Bool) (o : DOper) : DOper := ⟨o.dst, o.op.relV b, o.guard⟩
@[simp] theorem DOper.relV_false : DOper.relV false = DOper.rel := rfl
@[simp] theorem DOper.relV_true : DOper.relV true = DOper.relL := rfl

/-- V: the regions before which a part of the memory may be hidden; plain regions in it: their []byte(text) are slices of their own. -/
def cCodeV (V : List Nat) (P : Program) : Code → Option DC
  | .skip => some .skip
  | .region id ops false => (cOps P ops ops.toList).map fun l => .rg (if V.contains id then l.map DOper.relL else l.map DOper.rel)
  | .region id ops true => match cDraw P ops with
    | some r => some (if V.contains id then .rgv r else .rgd r)
    | none => (cDrawM P ops).map fun x => .rgm x.1 x.2.1 x.2.2
  | .seq a b => match cCodeV V P a, cCodeV V P b with
    | some x, some y => some (.seq x y)
    | _, _ => none
  | .cond c a b => match cCodeV V P a, cCodeV V P b with
    | some x, some y => some (.cond (cOpd c) x y)
    | _, _ => none
  | .block id a => (cCodeV V P a).map (.block id)
  | .loop a => (cCodeV V P a).map .loop
  | .exit id => some (.exit id)
  | .ret => some .ret
  | .scope a => cCodeV V P a
  | .label _ => some .skip
  | .goto _ => some (.rg [⟨none, .stop, none⟩])
  | _ => none
abbrev cCode (P : Program) : Code → Option DC := cCodeV [] P

section
variable {P : Program} {G : Nat → DV} {D : List Deferred} {h0 : List Blk} {e0 : Env} {w0 : World}

theorem cOp_s2b {P : Program} {o : Oper} {y : Opd} (h : cOp P o = some (.s2b y)) : ∃ src dst x, o.op = .convert src dst x ∧ cConv P src dst x = some (.s2b y) := by
  unfold cOp at h
  split at h
  all_goals first
    | exact ⟨_, _, _, ‹_›, h⟩
    | (exfalso; simp at h; done)
    | (exfalso; (repeat' split at h) <;> first | (simp at h; done) | (simp [Option.map_eq_some_iff, Option.bind_eq_some_iff] at h; done) | (simp only [Option.map_eq_some_iff, Option.bind_eq_some_iff] at h; obtain ⟨_, _, h⟩ := h; (repeat' split at h) <;> first | (simp at h; done) | cases h) | (unfold cEq at h; (repeat' split at h) <;> first | (simp at h; done) | (simp only [Option.map_eq_some_iff, Option.bind_eq_some_iff] at h; obtain ⟨_, _, h⟩ := h; (repeat' split at h) <;> first | (simp at h; done) | cases h)) | (unfold cCall at h; (repeat' split at h) <;> first | (simp at h; done) | (simp only [Option.map_eq_some_iff, Option.bind_eq_some_iff] at h; obtain ⟨_, _, h⟩ := h; (repeat' split at h) <;> first | (simp at h; done) | cases h)))
    | skip
theorem sound_oprV {b : Bool} {e : Env} {w : World} {t : List DV} {a : Act} {K : DV → List Blk → Prop} {o : Oper} (hg : GR e G) (ht : TR e t a.tmps) (hH : e.H = w.heap) (hr : HR e) (h : vcO P G ((cOpS P o).relV b) (Opd.ev G t) e.h K) : Yields P (execOp a.eval o) w (After e w K) := by
  by_cases hs : b = true ∧ ∃ y, cOp P o = some (.s2b y)
  · obtain ⟨rfl, y, hc⟩ := hs
    obtain ⟨src, dst, x, ho, hcv⟩ := cOp_s2b hc
    have hS : cOpS P o = .s2b y := by unfold cOpS; rw [hc]; rfl
    rw [hS] at h
    have hx := vr_ev hg ht x
    unfold cConv at hcv
    split at hcv
    · cases hcv
    · rename_i el h1 h2
      split at hcv
      · rename_i hu
        cases hcv
        have h3 : P.underlying el = some (.int .u8) := by
          unfold isU8 at hu
          split at hu
          · assumption
          · cases hu
        simp only [DO.relV, if_true, DO.relL, vcO] at h
        split at h
        · rename_i s hs
          rw [hs] at hx
          obtain ⟨h4, _⟩ := vr_p hx
          have := y_s2bl (K := K) h1 h2 h3 hH hr h
          unfold execOp
          rw [ho]
          simp only [h4]
          exact this
        · exact h.elim
      · cases hcv
    · split at hcv <;> cases hcv
    · cases hcv
    · cases hcv
    · cases hcv
  · have e1 : (cOpS P o).relV b = (cOpS P o).rel := by
      cases b with
      | false => rfl
      | true =>
        unfold cOpS
        cases hc : cOp P o with
        | none => rfl
        | some d =>
          cases d with
          | s2b y => exact absurd ⟨rfl, y, hc⟩ hs
          | _ => rfl
    rw [e1] at h
    exact sound_oprS hg ht hH hr h

theorem vcL_soundT {b0 : Bool} {n : Nat} {ops : Array Oper} {Q : Exit → Act → World → Prop} {K : St → Prop} (tail : List Nat) : ∀ (l : List Oper) (dl : List DOper) (i : Nat), cOps P ops l = some dl → (∀ j, j < l.length → l[j]? = ops[i + j]?) → ∀ (e : Env) (s : St) (a : Act) (w : World), RelE G D n e0 w0 e s a w → vcL P G (dl.map (DOper.relV b0)) s K →
    (∀ e' s' a' w', RelE G D n e0 w0 e' s' a' w' → K s' → wpOps P ops Q tail a' w') → wpOps P ops Q (List.range' i l.length ++ tail) a w
  | [], dl, i, hc, hl, e, s, a, w, hr, h, hK => by
    simp only [cOps, Option.some.injEq] at hc
    subst hc
    exact hK e s a w hr h
  | o :: l, dl, i, hc, hl, e, s, a, w, hr, h, hK => by
    simp only [cOps] at hc
    cases hd : cOper P ops o with
    | none => rw [hd] at hc; cases hc
    | some d =>
    cases hrest : cOps P ops l with
    | none => rw [hd, hrest] at hc; cases hc
    | some dr =>
    rw [hd, hrest] at hc
    cases hc
    have ho : ops[i]? = some o := by simpa using (hl 0 (by simp)).symm
    have hl' : ∀ j, j < l.length → l[j]? = ops[i + 1 + j]? := fun j hj => by
      have := hl (j + 1) (by simp; omega)
      rw [show i + 1 + j = i + (j + 1) by omega]
      simpa using this
    simp only [List.length_cons, List.range'_succ, List.cons_append, wpOps, ho]
    unfold cOper at hd
    have next : ∀ (d' : DOper), d'.dst = o.dst → d'.op = cOpS P o → vcO P G (d'.op.relV b0) (Opd.ev G s.t) s.h (fun v h => vcL P G (dr.map (DOper.relV b0)) (s.put d'.dst v h) K) → o.wp P a w (wpOps P ops Q (List.range' (i + 1) l.length ++ tail)) Q := by
      intro d' h1 h2 hv
      have hy := sound_oprV (b := b0) (K := fun v h => vcL P G (dr.map (DOper.relV b0)) (s.put d'.dst v h) K) (e := e) (w := w) (o := o) hr.r.gr hr.r.tr hr.r.H hr.r.hr (by rw [hr.r.h, ← h2]; exact hv)
      refine hy.wp fun v w' ⟨e', dv, g1, g2, g3, g4, g5, g6⟩ => ?_
      have hs := hr.step g1 g2 g3 g4 g5 o.dst
      rw [h1] at g6
      exact vcL_soundT tail l dr (i + 1) hrest hl' e' _ _ w' hs g6 hK
    cases hgd : o.guard with
    | none =>
      rw [hgd] at hd
      cases hd
      simp only [Region.wanted, hgd, if_true]
      simp only [List.map_cons, DOper.relV, vcL] at h
      exact .inl (next ⟨o.dst, cOpS P o, none⟩ rfl rfl h)
    | some gp =>
      obtain ⟨j, want⟩ := gp
      rw [hgd] at hd
      simp only at hd
      cases hgj : (ops[j]?).bind (·.dst) with
      | none => rw [hgj] at hd; cases hd
      | some g =>
        rw [hgj] at hd
        cases hd
        simp only [List.map_cons, DOper.relV, vcL] at h
        split at h
        · rename_i b hb
          have hyd := guard_yielded hr.r.tr hgj hb
          simp only [Region.wanted, hgd, hyd]
          by_cases hbw : b = want
          · rw [if_pos hbw] at h
            rw [if_pos (by simp [hbw])]
            exact .inl (next ⟨o.dst, cOpS P o, none⟩ rfl rfl h)
          · rw [if_neg hbw] at h
            rw [if_neg (by simp [hbw])]
            have hs := hr.step hr.r.H (WS.refl w) hr.r.hr (Ev.refl e) (d := .tup []) (v := undef) vr_undef o.dst
            rw [hr.r.h] at hs
            exact vcL_soundT tail l dr (i + 1) hrest hl' e _ _ w hs h hK
        · rename_i hb
          have hyd := guard_none hr.r.tr hgj hb
          simp only [Region.wanted, hgd, hyd]
          rw [if_neg (by simp)]
          have hs := hr.step hr.r.H (WS.refl w) hr.r.hr (Ev.refl e) (d := .tup []) (v := undef) vr_undef o.dst
          rw [hr.r.h] at hs
          exact vcL_soundT tail l dr (i + 1) hrest hl' e _ _ w hs h hK
        · exact h.elim

theorem vcL_sound {b0 : Bool} {n : Nat} {ops : Array Oper} {Q : Exit → Act → World → Prop} {K : St → Prop} (l : List Oper) (dl : List DOper) (i : Nat) (hc : cOps P ops l = some dl) (hl : ∀ j, l[j]? = ops[i + j]?) (e : Env) (s : St) (a : Act) (w : World) (hr : RelE G D n e0 w0 e s a w) (h : vcL P G (dl.map (DOper.relV b0)) s K)
    (hK : ∀ e' s' a' w', RelE G D n e0 w0 e' s' a' w' → K s' → Q .normal a' w') : wpOps P ops Q (List.range' i l.length) a w := by
  have := vcL_soundT (Q := Q) [] l dl i hc (fun j _ => hl j) e s a w hr h hK
  simpa using this

/-- What the machine's exits are. -/
def QQ (G : Nat → DV) (D : List Deferred) (n : Nat) (e0 : Env) (w0 : World) (Q : DX → St → Prop) : Exit → Act → World → Prop
  | .normal, a, w => ∃ e s, RelE G D n e0 w0 e s a w ∧ Q .nrm s
  | .exit i, a, w => ∃ e s, RelE G D n e0 w0 e s a w ∧ Q (.ext i) s
  | .ret, a, w => ∃ e s, RelE G D n e0 w0 e s a w ∧ Q .ret s
  | _, _, _ => False

theorem QQ.mono {n : Nat} {Q Q' : DX → St → Prop} (h : ∀ x s, Q x s → Q' x s) : ∀ x a w, QQ G D n e0 w0 Q x a w → QQ G D n e0 w0 Q' x a w := by
  intro x a w hq
  cases x <;> first
    | exact hq.elim
    | exact (let ⟨e, s, hr, hq⟩ := hq; ⟨e, s, hr, h _ _ hq⟩)

theorem Wk.rel {n : Nat} (hn : n = h0.length) (hw : HWF h0) {s s' : St} (h : Wk G h0 s s') {e : Env} {a : Act} {w : World} (hr : RelE G D n e0 w0 e s a w) : ∃ e', RelE G D n e0 w0 e' s' a w := by
  obtain ⟨e', h1, h2⟩ := h hw _ e a w hr.r (by rw [← hn]; exact hr.ev.len)
  exact ⟨e', h1, hr.ev.trans (hn ▸ h2) (Nat.le_refl _), hr.ws, hr.le⟩

theorem vc_sound {V : List Nat} (hw : HWF h0) : ∀ (c : Code) (d : DC), cCodeV V P c = some d → ∀ (Q : DX → St → Prop) (e : Env) (s : St) (a : Act) (w : World), RelE G D h0.length e0 w0 e s a w → vc P G h0 d s Q → c.wp P (QQ G D h0.length e0 w0 Q) a w := by
  intro c
  induction c with
  | skip =>
    intro d hc Q e s a w hr h
    cases hc
    exact wp_skip ⟨e, s, hr, h⟩
  | region id ops draw =>
    intro d hc Q e s a w hr h
    cases draw with
    | true =>
      simp only [cCodeV] at hc
      cases ho : cDraw P ops with
      | none =>
        rw [ho] at hc
        simp only at hc
        cases hm : cDrawM P ops with
        | none => rw [hm] at hc; cases hc
        | some x =>
          obtain ⟨nb, sl, r⟩ := x
          rw [hm] at hc
          cases hc
          exact drawn_viewM hm hr h.1 h.2 (fun e' a' w' t' h' hr' hk => ⟨e', ⟨t', h'⟩, hr', hk⟩)
      | some r =>
        rw [ho] at hc
        simp only [Option.some.injEq] at hc
        split at hc
        · subst hc
          obtain ⟨hv, hvw, h⟩ := h
          exact drawn_view ho hr hvw h (fun e' a' w' t' h' hr' hk => ⟨e', ⟨t', h'⟩, hr', hk⟩)
        · subst hc
          exact drawn_sound ho hr h (fun e' a' w' t' h' hr' hk => ⟨e', ⟨t', h'⟩, hr', hk⟩)
    | false =>
      simp only [cCodeV] at hc
      cases ho : cOps P ops ops.toList with
      | none => rw [ho] at hc; cases hc
      | some dl =>
        rw [ho] at hc
        simp only [Option.map_some, Option.some.injEq] at hc
        subst hc
        refine wp_region ?_
        have h' : vcL P G (dl.map (DOper.relV (V.contains id))) s (Q .nrm) := by
          simp only [vc] at h
          cases hv : V.contains id with
          | true => rw [hv] at h; exact h
          | false => rw [hv] at h; exact h
        have := vcL_sound (Q := QQ G D h0.length e0 w0 Q) ops.toList dl 0 ho (fun j => by simp) e s a w hr h' (fun e' s' a' w' hr' hk => ⟨e', s', hr', hk⟩)
        simpa [List.range_eq_range'] using this
  | seq x y ihx ihy =>
    intro d hc Q e s a w hr h
    simp only [cCodeV] at hc
    split at hc
    · rename_i dx dy h1 h2
      cases hc
      refine wp_seq (wp_mono (ihx dx h1 _ e s a w hr h) fun ex a' w' hq => ?_)
      cases ex with
      | normal =>
        obtain ⟨e', s', hr', hq⟩ := hq
        exact ihy dy h2 Q e' s' a' w' hr' hq
      | exit i => exact hq
      | ret => exact hq
      | _ => exact hq.elim
    · cases hc
  | cond c x y ihx ihy =>
    intro d hc Q e s a w hr h
    simp only [cCodeV] at hc
    split at hc
    · rename_i dx dy h1 h2
      cases hc
      simp only [vc] at h
      split at h
      · rename_i b hb
        have hv := vr_ev hr.r.gr hr.r.tr c
        rw [hb] at hv
        cases b with
        | true => exact wp_cond_true (vr_p hv).1 (ihx dx h1 Q e s a w hr (by simpa using h))
        | false => exact wp_cond_false (vr_p hv).1 (ihy dy h2 Q e s a w hr (by simpa using h))
      · exact h.elim
    · cases hc
  | block id x ih =>
    intro d hc Q e s a w hr h
    simp only [cCodeV] at hc
    cases hx : cCodeV V P x with
    | none => rw [hx] at hc; cases hc
    | some dx =>
      rw [hx] at hc
      cases hc
      refine wp_block (wp_mono (ih dx hx _ e s a w hr h) fun ex a' w' hq => ?_)
      cases ex with
      | normal => exact hq
      | exit i =>
        obtain ⟨e', s', hr', hq⟩ := hq
        simp only [Exit.inBlock]
        by_cases hi : i = id
        · rw [if_pos hi]; simp only [hi, if_true] at hq; exact ⟨e', s', hr', hq⟩
        · rw [if_neg hi]; simp only [hi, if_false] at hq; exact ⟨e', s', hr', hq⟩
      | ret => exact hq
      | _ => exact hq.elim
  | loop x ih =>
    intro d hc Q e s a w hr h
    simp only [cCodeV] at hc
    cases hx : cCodeV V P x with
    | none => rw [hx] at hc; cases hc
    | some dx =>
      rw [hx] at hc
      cases hc
      obtain ⟨I, μ, ⟨s', hwk, hI⟩, hround⟩ := h
      obtain ⟨e', hr'⟩ := hwk.rel rfl hw hr
      intro b k cs
      have key : ∀ m (s : St) (e : Env) (a : Act) (w : World), μ s = m → I s → RelE G D h0.length e0 w0 e s a w →
          ∃ ex a' w', QQ G D h0.length e0 w0 Q ex a' w' ∧ Arrives P (lone (b.at a (.code x :: .inLoop x :: k)) cs w) b k cs ex a' w' := by
        intro m
        induction m using Nat.strongRecOn with
        | _ m ihm =>
          intro s e a w hm hI hr
          obtain ⟨ex, a1, w1, hq, harr⟩ := ih dx hx _ e s a w hr (hround s hI) b (.inLoop x :: k) cs
          cases ex with
          | normal =>
            obtain ⟨e1, s1, hr1, s2, hwk2, hI2, hlt⟩ := hq
            obtain ⟨e2, hr2⟩ := hwk2.rel rfl hw hr1
            obtain ⟨ex2, a2, w2, hq2, harr2⟩ := ihm (μ s2) (hm ▸ hlt) s2 e2 a1 w1 rfl hI2 hr2
            exact ⟨ex2, a2, w2, hq2, .of_steps (Steps.trans harr (.one step_inLoop)) harr2⟩
          | exit i =>
            obtain ⟨e1, s1, hr1, s2, hwk2, hq2⟩ := hq
            obtain ⟨e2, hr2⟩ := hwk2.rel rfl hw hr1
            exact ⟨.exit i, a1, w1, ⟨e2, s2, hr2, hq2⟩, .pass (x := .inLoop x) rfl (fun _ _ => .inl (by simp)) harr⟩
          | ret =>
            obtain ⟨e1, s1, hr1, hq1⟩ := hq
            exact ⟨.ret, a1, w1, ⟨e1, s1, hr1, hq1⟩, .pass (x := .inLoop x) rfl (fun _ _ => .inl (by simp)) harr⟩
          | _ => exact hq.elim
      obtain ⟨ex, a', w', hq, harr⟩ := key _ s' e' a w rfl hI hr'
      exact ⟨ex, a', w', hq, .of_steps (.one step_loop) harr⟩
  | exit id =>
    intro d hc Q e s a w hr h
    cases hc
    exact wp_exit ⟨e, s, hr, h⟩
  | ret =>
    intro d hc Q e s a w hr h
    cases hc
    exact wp_ret ⟨e, s, hr, h⟩
  | scope x ih =>
    intro d hc Q e s a w hr h
    refine wp_scope_straight (wp_mono (ih d hc Q e s a w hr h) fun ex a' w' hq => ?_)
    cases ex <;> exact hq
  | label l =>
    intro d hc Q e s a w hr h
    cases hc
    exact wp_label ⟨e, s, hr, h⟩
  | goto l =>
    intro d hc Q e s a w hr h
    cases hc
    exact h.elim
  | _ => intro d hc; cases hc

end
end Go.Den

namespace Go.Den
open Go

inductive DR where
  | tmp (t : Nat)
  | cell (a : Nat) (g : Bool) (sz : Nat)

def cRes (P : Program) : List ResultVar → Option (List DR)
  | [] => some []
  | .tmp t :: l => (cRes P l).map (.tmp t :: ·)
  | .cell a t :: l => match tyI P t, cRes P l with
    | some (g, sz), some r => if g = true ∨ sz = 1 then some (.cell a g sz :: r) else none
    | _, _ => none

def resD (h : List Blk) (t : List DV) : List DR → Option (List DV)
  | [] => some []
  | .tmp n :: l => (resD h t l).map (t.getD n .any :: ·)
  | .cell a g sz :: l => match t.getD a .any, resD h t l with
    | .ptr b i o x, some r => match h[b]? with
      | some (.cells bsz els) => if x = els.length ∧ o + sz ≤ bsz then some (sub (els.getD i .any) o sz g :: r) else none
      | _ => none
    | _, _ => none

def mkRes : List DV → DV
  | [d] => d
  | ds => .tup ds

section
variable {P : Program} {G : Nat → DV} {D : List Deferred}

theorem run_res {e : Env} {s : St} {a : Act} {w : World} (hr : RelS G D e s a w) : ∀ (l : List ResultVar) (rs : List DR) (ds : List DV), cRes P l = some rs → resD s.h s.t rs = some ds →
    ∃ vs : List Value, (l.mapM fun (r : ResultVar) => match r with
      | .tmp t => pure (a.tmps.getD t undef)
      | .cell ad t => do loadVar t (← asAddr (a.tmps.getD ad undef)) : Sem (List Value)).run P w = .ok vs w ∧ ds.length = vs.length ∧ ∀ i (hi : i < ds.length) (hi' : i < vs.length), VR e ds[i] vs[i] := by
  intro l
  induction l with
  | nil =>
    intro rs ds hc hd
    cases hc
    cases hd
    exact ⟨[], rfl, rfl, fun i hi => by simp at hi⟩
  | cons r l ih =>
    intro rs ds hc hd
    have tmpv : ∀ n, VR e (s.t.getD n .any) (a.tmps.getD n undef) := fun n => by
      have := vr_ev (G := G) (a := a) hr.gr hr.tr (.tmp n)
      simpa [cOpd, Opd.ev, Act.eval] using this
    have fin : ∀ (x : Sem Value) (v : Value) (d : DV) (rs' : List DR) (ds' : List DV), x.run P w = .ok v w → VR e d v → cRes P l = some rs' → resD s.h s.t rs' = some ds' → ds = d :: ds' →
        ∃ vs : List Value, (do let y ← x; let ys ← (l.mapM fun (r : ResultVar) => match r with
      | .tmp t => pure (a.tmps.getD t undef)
      | .cell ad t => do loadVar t (← asAddr (a.tmps.getD ad undef)) : Sem (List Value)); pure (y :: ys) : Sem (List Value)).run P w = .ok vs w ∧ ds.length = vs.length ∧ ∀ i (hi : i < ds.length) (hi' : i < vs.length), VR e ds[i] vs[i] := by
      intro x v d rs' ds' hx hv h1 h2 h3
      obtain ⟨vs, g1, g2, g3⟩ := ih rs' ds' h1 h2
      subst h3
      refine ⟨v :: vs, ?_, by simp [g2], fun i hi hi' => ?_⟩
      · simp only [Sem.run_bind, hx, Result.andThen_ok, g1, Sem.run_pure]
      · cases i with
        | zero => exact hv
        | succ i => exact g3 i _ _
    rw [List.mapM_cons]
    cases r with
    | tmp n =>
      simp only [cRes] at hc
      cases h1 : cRes P l with
      | none => rw [h1] at hc; cases hc
      | some rs' =>
        rw [h1] at hc
        cases hc
        simp only [resD] at hd
        cases h2 : resD s.h s.t rs' with
        | none => rw [h2] at hd; cases hd
        | some ds' =>
          rw [h2] at hd
          cases hd
          exact fin (pure (a.tmps.getD n undef)) _ _ rs' ds' rfl (tmpv n) h1 h2 rfl
    | cell ad t =>
      simp only [cRes] at hc
      split at hc
      · rename_i g sz rs' hty h1
        by_cases hg : g = true ∨ sz = 1
        · rw [if_pos hg] at hc
          cases hc
          simp only [resD] at hd
          split at hd
          · rename_i b i o x ds' h3 h2
            split at hd
            · rename_i bsz els hb
              by_cases hx : x = els.length ∧ o + sz ≤ bsz
              · rw [if_pos hx] at hd
                cases hd
                obtain ⟨rfl, hsz⟩ := hx
                have hv := tmpv ad
                rw [h3] at hv
                have hkey : e.key b = some (.c bsz els.length) := Env.key_of (by rw [hr.h]; exact hb)
                obtain ⟨hi, q, hq, hve⟩ := vr_ptr hv hkey
                obtain ⟨c, T, fr, vs, hh, hcs, hl, hf, hvs, hvsz, h1c, hcell⟩ := hr.hr.cells (by rw [hr.h]; exact hb) hq
                have hlen : (((vs i).cells.toList.drop o).take sz).length = sz := take_cells _ _ _ (by simp [hvsz i hi]; omega)
                have hload := run_loadVar (P := P) (tyI_spec hty) w q.1 (i * bsz + o) _ hlen (fun h => hg.resolve_left (by rw [h]; simp)) (fun k hk => by
                  have : cellAt w.heap q.1 (i * bsz + o + k) = ((((vs i).cells.toList.drop o).take sz))[k]? := by
                    simp only [cellAt, ← hr.H, hh]
                    rw [Nat.add_assoc, hcell i hi (o + k) (by omega)]
                    simp [show k < sz by omega]
                  rw [this, List.getElem?_eq_getElem hk])
                refine fin (do loadVar t (← asAddr (a.tmps.getD ad undef))) _ _ rs' ds' ?_ (vr_sub (hvs i hi) o sz g (fun h => hg.resolve_left (by rw [h]; simp)) (by rw [hvsz i hi]; exact hsz)) h1 h2 (by simp [List.getD, hi])
                rw [hve]
                simp only [asAddr, Sem.run_bind, Sem.run_pure, Result.andThen_ok]
                exact hload
              · rw [if_neg hx] at hd; cases hd
            · cases hd
          · cases hd
        · rw [if_neg hg] at hc; cases hc
      · cases hc

/-- What may be told instead of a value and the memory. -/
def WkV (h0 : List Blk) (d : DV) (h : List Blk) (d' : DV) (h' : List Blk) : Prop :=
  HWF h0 → ∀ e v, e.h = h → HR e → VR e d v → h0.length ≤ h.length → ∃ e', e'.h = h' ∧ e'.H = e.H ∧ HR e' ∧ VR e' d' v ∧ Ev h0.length e e'

theorem WkV.refl {h0 : List Blk} {d : DV} {h : List Blk} : WkV h0 d h d h := fun _ e v he hr hv hl => ⟨e, he, rfl, hr, hv, Ev.refl' e (by rw [he]; exact hl)⟩

theorem HR.hwf {e : Env} (hr : HR e) : HWF e.h := fun b k h => (hr.blk b k h).wf

/-- THE CONTRACT OF A FUNCTION out of what its code asks. -/
theorem wp_of_vc {V : List Nat} {fn : Func} {c : Code} {d : DC} {rs : List DR} (hc : cCodeV V P c = some d) (hrs : cRes P fn.results.toList = some rs) {args : List DV} {h : List Blk} {R : DV → List Blk → Prop} {n : Nat} (hn : fn.ntmps - args.length = n)
    (H : vc P G h d ⟨args ++ List.replicate n .any, h⟩ fun x s => match x with
      | .nrm | .ret => ∃ ds, resD s.h s.t rs = some ds ∧ ∃ v h', WkV h (mkRes ds) s.h v h' ∧ R v h'
      | _ => False) : ∀ (e : Env) (w : World) (vs : Array Value), e.h = h → e.H = w.heap → HR e → GR e G → TR e args vs →
    c.wp P (bodyPost P fn fun en w' => ∃ v' e' v h', en = .returned v' ∧ e'.H = w'.heap ∧ e'.h = h' ∧ WS w w' ∧ HR e' ∧ VR e' v v' ∧ Ev e.h.length e e' ∧ R v h') { tmps := vs ++ Array.replicate (fn.ntmps - vs.size) undef, defers := [] } w := by
  intro e w vs he hH hr hg ht
  subst hn
  have hw : HWF h := by rw [← he]; exact hr.hwf
  have hrel : RelE G [] h.length e w e ⟨args ++ List.replicate (fn.ntmps - args.length) .any, h⟩ { tmps := vs ++ Array.replicate (fn.ntmps - vs.size) undef, defers := [] } w := by
    refine ⟨⟨he, hH, hr, hg, ⟨by simp [ht.1], fun i hi hi' => ?_⟩, rfl⟩, by rw [← he]; exact Ev.refl e, WS.refl w, by rw [he]; exact Nat.le_refl _⟩
    by_cases hia : i < args.length
    · have := ht.2 i hia (ht.1 ▸ hia)
      simp only [List.getElem_append_left hia]
      rw [Array.getElem_append_left (ht.1 ▸ hia)]
      exact this
    · simp only [List.getElem_append_right (Nat.le_of_not_lt hia), List.getElem_replicate]
      exact .any
  refine wp_mono (vc_sound hw c d hc _ e _ _ w hrel H) fun ex a' w' hq => ?_
  have fin : ∀ e' s', RelE G [] h.length e w e' s' a' w' → (∃ ds, resD s'.h s'.t rs = some ds ∧ ∃ v h', WkV h (mkRes ds) s'.h v h' ∧ R v h') →
      a'.defers = [] ∧ ∃ u, (results fn a'.tmps).run P w' = .ok u w' ∧ ∃ v' e'' v h', Ending.returned u = .returned v' ∧ e''.H = w'.heap ∧ e''.h = h' ∧ WS w w' ∧ HR e'' ∧ VR e'' v v' ∧ Ev e.h.length e e'' ∧ R v h' := by
    rintro e' s' hr' ⟨ds, hds, v, h', hwk, hR⟩
    obtain ⟨us, h1, h2, h3⟩ := run_res (P := P) hr'.r fn.results.toList rs ds hrs hds
    have hres : (results fn a'.tmps).run P w' = .ok (if h : us.toArray.size = 1 then us.toArray[0] else .tuple us.toArray) w' := by
      unfold results
      rw [Array.mapM_eq_mapM_toList]
      rw [Sem.run_bind, Sem.run_map]
      erw [h1]
      rfl
    have hv : VR e' (mkRes ds) (if h : us.toArray.size = 1 then us.toArray[0] else .tuple us.toArray) := by
      match ds, us, h2, h3 with
      | [d], [u], _, h3 => simpa [mkRes] using h3 0 (by simp) (by simp)
      | [], [], _, _ => exact .tup (by simp) (fun i hi => by simp at hi)
      | d1 :: d2 :: dr, u1 :: u2 :: ur, h2, h3 =>
        rw [dif_neg (by simp)]
        exact .tup (by simpa using h2) (fun i hi hi' => by simpa using h3 i hi (by simpa using hi'))
    obtain ⟨e'', g1, g2, g3, g4, g5⟩ := hwk hw e' _ hr'.r.h hr'.r.hr hv (by rw [← hr'.r.h]; exact hr'.ev.len)
    refine ⟨hr'.r.df, _, hres, _, e'', v, h', rfl, by rw [g2]; exact hr'.r.H, g1, hr'.ws, g3, g4, ?_, hR⟩
    rw [he]
    exact hr'.ev.trans g5 (Nat.le_refl _)
  cases ex with
  | normal => obtain ⟨e', s', hr', hq⟩ := hq; exact fin e' s' hr' hq
  | ret => obtain ⟨e', s', hr', hq⟩ := hq; exact fin e' s' hr' hq
  | exit i => obtain ⟨e', s', hr', hq⟩ := hq; exact hq.elim
  | _ => exact hq.elim

theorem OkR_of_vc {V : List Nat} {f : FuncId} {fn : Func} {c : Code} {d : DC} {rs : List DR} (hf : P.funcs[f]? = some fn) (hb : fn.body = some c) (hc : cCodeV V P c = some d) (hrs : cRes P fn.results.toList = some rs) {args : List DV} {h : List Blk} {R : DV → List Blk → Prop} {n : Nat} (hn : fn.ntmps - args.length = n)
    (H : vc P G h d ⟨args ++ List.replicate n .any, h⟩ fun x s => match x with
      | .nrm | .ret => ∃ ds, resD s.h s.t rs = some ds ∧ ∃ v h', WkV h (mkRes ds) s.h v h' ∧ R v h'
      | _ => False) : OkR P G f args h R :=
  fun e w vs he hH hr hg ht => calls_of_wp hf hb (wp_of_vc hc hrs hn H e w vs he hH hr hg ht)

/-- The same of a call that was put off. -/
def OkD (P : Program) (G : Nat → DV) (f : FuncId) (args : List DV) (h : List Blk) (R : DV → List Blk → Prop) : Prop :=
  ∀ (e : Env) (w : World) (vs : Array Value), e.h = h → e.H = w.heap → HR e → GR e G → TR e args vs →
    CallsD P f vs .returning w fun en u' w' => u' = .returning ∧ ∃ v' e' v h', en = .returned v' ∧ e'.H = w'.heap ∧ e'.h = h' ∧ WS w w' ∧ HR e' ∧ VR e' v v' ∧ Ev e.h.length e e' ∧ R v h'
theorem OkD_of_code {V : List Nat} {f : FuncId} {fn : Func} {d : DC} {rs : List DR} (hf : P.funcs[f]? = some fn) (hc : fn.body.bind (cCodeV V P) = some d) (hrs : cRes P fn.results.toList = some rs) {args : List DV} {h : List Blk} {R : DV → List Blk → Prop} (n : Nat) (hn : fn.ntmps = args.length + n)
    (H : vc P G h d ⟨args ++ List.replicate n .any, h⟩ fun x s => match x with
      | .nrm | .ret => ∃ ds, resD s.h s.t rs = some ds ∧ ∃ v h', WkV h (mkRes ds) s.h v h' ∧ R v h'
      | _ => False) : OkD P G f args h R := by
  cases hb : fn.body with
  | none => rw [hb] at hc; cases hc
  | some c =>
    rw [hb] at hc
    exact fun e w vs he hH hr hg ht => callsD_of_wp hf hb (wp_of_vc hc hrs (n := n) (by omega) H e w vs he hH hr hg ht)

theorem OkR_of_code {V : List Nat} {f : FuncId} {fn : Func} {d : DC} {rs : List DR} (hf : P.funcs[f]? = some fn) (hc : fn.body.bind (cCodeV V P) = some d) (hrs : cRes P fn.results.toList = some rs) {args : List DV} {h : List Blk} {R : DV → List Blk → Prop} (n : Nat) (hn : fn.ntmps = args.length + n)
    (H : vc P G h d ⟨args ++ List.replicate n .any, h⟩ fun x s => match x with
      | .nrm | .ret => ∃ ds, resD s.h s.t rs = some ds ∧ ∃ v h', WkV h (mkRes ds) s.h v h' ∧ R v h'
      | _ => False) : OkR P G f args h R := by
  cases hb : fn.body with
  | none => rw [hb] at hc; cases hc
  | some c => rw [hb] at hc; exact OkR_of_vc hf hb hc hrs (n := n) (by omega) H

theorem OkR.toOk {f : FuncId} {args : List DV} {h : List Blk} {v : DV} {h' : List Blk} (hf : OkR P G f args h fun v1 h1 => v1 = v ∧ h1 = h') : Ok P G f args h v h' :=
  fun e w vs he hH hr hg ht => (hf e w vs he hH hr hg ht).mono fun en w' ⟨v', e', v1, h1, g1, g2, g3, g4, g5, g6, g7, g8, g9⟩ => ⟨v', e', g1, g2, by rw [g3, g9], g4, g5, by rw [← g8]; exact g6, g7⟩
theorem OkR.mono {f : FuncId} {args : List DV} {h : List Blk} {R R' : DV → List Blk → Prop} (hf : OkR P G f args h R) (hR : ∀ v h', R v h' → R' v h') : OkR P G f args h R' :=
  fun e w vs he hH hr hg ht => (hf e w vs he hH hr hg ht).mono fun en w' ⟨v', e', v1, h1, g1, g2, g3, g4, g5, g6, g7, g8⟩ => ⟨v', e', v1, h1, g1, g2, g3, g4, g5, g6, g7, hR _ _ g8⟩
theorem OkR.wf {f : FuncId} {args : List DV} {h : List Blk} {R : DV → List Blk → Prop} (hf : HWF h → OkR P G f args h R) : OkR P G f args h R :=
  fun e w vs he hH hr hg ht => hf (by rw [← he]; exact hr.hwf) e w vs he hH hr hg ht
theorem Ok.wf {f : FuncId} {args : List DV} {h : List Blk} {v : DV} {h' : List Blk} (hf : HWF h → Ok P G f args h v h') : Ok P G f args h v h' :=
  fun e w vs he hH hr hg ht => hf (by rw [← he]; exact hr.hwf) e w vs he hH hr hg ht
theorem Ok_of_code {V : List Nat} {f : FuncId} {fn : Func} {d : DC} {rs : List DR} (hf : P.funcs[f]? = some fn) (hc : fn.body.bind (cCodeV V P) = some d) (hrs : cRes P fn.results.toList = some rs) {args : List DV} {h : List Blk} {v : DV} {h' : List Blk} (n : Nat) (hn : fn.ntmps = args.length + n)
    (H : vc P G h d ⟨args ++ List.replicate n .any, h⟩ fun x s => match x with
      | .nrm | .ret => ∃ ds, resD s.h s.t rs = some ds ∧ WkV h (mkRes ds) s.h v h'
      | _ => False) : Ok P G f args h v h' := by
  refine (OkR_of_code hf hc hrs n hn ?_).toOk
  have : (fun (x : DX) (s : St) => match x with
      | .nrm | .ret => ∃ ds, resD s.h s.t rs = some ds ∧ WkV h (mkRes ds) s.h v h'
      | _ => False) = (fun (x : DX) (s : St) => match x with
      | .nrm | .ret => ∃ ds, resD s.h s.t rs = some ds ∧ ∃ v1 h1, WkV h (mkRes ds) s.h v1 h1 ∧ v1 = v ∧ h1 = h'
      | _ => False) := by
    funext x s
    cases x <;> simp
  rw [← this]
  exact H

end
end Go.Den

namespace Go.Den
open Go

/-- Only some of the blocks are spoken of any longer. -/
theorem WkV.trunc {h0 h h' : List Blk} {d : DV} (hn : h0.length ≤ h'.length) (hd : ∀ (b : Nat) (k : Blk), h'[b]? = some k → h[b]? = some k ∨ k = .dead) (hw : HWF h0 → HWF h') (hwd : WF (· < h'.length) d) : WkV h0 d h d h' := by
  intro h0w e v he hr hv hl
  subst he
  obtain ⟨ev, hh⟩ := env_drop hr h' hd
  exact ⟨⟨e.ρ, h', e.H, e.pv⟩, rfl, rfl, hh (hw h0w), hv.gen ev hwd, ⟨hn, Nat.le_refl _, ev.ro, fun b hb k' hk => ev.key b (Nat.lt_of_lt_of_le hb hn) k' hk, ev.pv, ev.pvH⟩⟩

/-- What the call made for itself is no longer spoken of. -/
theorem WkV.junk {h0 j : List Blk} {d : DV} (hwd : WF (· < h0.length) d) : WkV h0 d (h0 ++ j) d h0 :=
  WkV.trunc (Nat.le_refl _) (fun b k hb => .inl (by
    have : b < h0.length := by
      rcases Nat.lt_or_ge b h0.length with h | h
      · exact h
      · rw [List.getElem?_eq_none h] at hb; cases hb
    rw [List.getElem?_append_left this]; exact hb)) id hwd

theorem WkV.same {h0 : List Blk} {d : DV} : WkV h0 d h0 d h0 := WkV.refl

/-- The frame at a loop: slots that nobody reads again, blocks that nobody speaks of. -/
theorem Wk.of {G : Nat → DV} {h0 : List Blk} {s s' : St} (hlen : s'.t.length = s.t.length) (ht : ∀ i (hi : i < s'.t.length) (hi' : i < s.t.length), s'.t[i] = .any ∨ (s'.t[i] = s.t[i] ∧ WF (· < s'.h.length) s'.t[i]))
    (hn : h0.length ≤ s'.h.length) (hd : ∀ (b : Nat) (k : Blk), s'.h[b]? = some k → s.h[b]? = some k ∨ k = .dead) (hw : HWF h0 → HWF s'.h) (hG : ∀ g, WF (· < s'.h.length) (G g)) : Wk G h0 s s' := by
  intro h0w D e a w hr hl
  have hr1 := hr.hr
  obtain ⟨ev, hh⟩ := env_drop hr.hr s'.h (fun b k hb => by rw [hr.h]; exact hd b k hb)
  refine ⟨⟨e.ρ, s'.h, e.H, e.pv⟩, ⟨rfl, hr.H, hh (hw h0w), fun g => ⟨(hr.gr g).1.gen ev (hG g), GX.mono (hr.gr g).1 (hr.gr g).2 fun _ _ => rfl⟩, ⟨by rw [hlen]; exact hr.tr.1, fun i hi hi' => ?_⟩, hr.df⟩, ⟨hn, Nat.le_refl _, ev.ro, fun b hb k' hk => ev.key b (Nat.lt_of_lt_of_le hb hn) k' hk, ev.pv, ev.pvH⟩⟩
  rcases ht i hi (hlen ▸ hi) with h1 | ⟨h1, h2⟩
  · rw [h1]; exact .any
  · have := hr.tr.2 i (hlen ▸ hi) hi'
    rw [← h1] at this
    exact this.gen ev h2

theorem Wk.refl {G : Nat → DV} {h0 : List Blk} {s : St} : Wk G h0 s s := fun _ D e a w hr hl => ⟨e, hr, Ev.refl' e hl⟩

/-- Slots forgotten, the memory as it is. -/
def forget (keep : List Nat) : Nat → List DV → List DV
  | _, [] => []
  | i, d :: l => (if keep.contains i then d else .any) :: forget keep (i + 1) l

theorem forget_length (keep : List Nat) : ∀ (i : Nat) (l : List DV), (forget keep i l).length = l.length
  | _, [] => rfl
  | i, d :: l => by simp [forget, forget_length keep (i + 1) l]
theorem forget_get (keep : List Nat) : ∀ (i : Nat) (l : List DV) (j : Nat) (hj : j < (forget keep i l).length) (hj' : j < l.length), (forget keep i l)[j] = .any ∨ (forget keep i l)[j] = l[j]
  | _, [], j, hj, _ => by simp [forget] at hj
  | i, d :: l, 0, _, _ => by
    simp only [forget, List.getElem_cons_zero]
    split
    · exact .inr rfl
    · exact .inl rfl
  | i, d :: l, j + 1, hj, hj' => by
    simp only [forget, List.getElem_cons_succ]
    exact forget_get keep (i + 1) l j _ _

/-- At a loop's head: only the slots that live on, and the blocks h' at the front. -/
theorem Wk.forget {G : Nat → DV} {h0 : List Blk} {s : St} (keep : List Nat) : Wk G h0 s ⟨forget keep 0 s.t, s.h⟩ := by
  intro h0w D e a w hr hl
  refine ⟨e, ⟨hr.h, hr.H, hr.hr, hr.gr, ⟨by rw [forget_length]; exact hr.tr.1, fun i hi hi' => ?_⟩, hr.df⟩, Ev.refl' e hl⟩
  rw [forget_length] at hi
  rcases forget_get keep 0 s.t i (by rw [forget_length]; exact hi) hi with h | h
  · simp only [h]; exact .any
  · simp only [h]; exact hr.tr.2 i hi hi'

theorem Wk.trans {G : Nat → DV} {h0 : List Blk} {s s' s'' : St} (h : Wk G h0 s s') (h' : Wk G h0 s' s'') : Wk G h0 s s'' := by
  intro h0w D e a w hr hl
  obtain ⟨e', h1, h2⟩ := h h0w D e a w hr hl
  obtain ⟨e'', h3, h4⟩ := h' h0w D e' a w h1 h2.len
  exact ⟨e'', h3, h2.trans h4 (Nat.le_refl _)⟩

/-- WHAT A LAW'S CONTRACT SAYS OF THE MACHINE: nothing that was there has turned. -/
theorem Ok.law {P : Program} {f : FuncId} {args : List DV} {v : DV} (h : Ok P (fun _ => .any) f args [] v []) (w : World) (vs : Array Value) (ht : TR ⟨fun _ => none, [], w.heap, fun _ => False⟩ args vs) :
    Calls P f vs w fun en w' => (∃ v' e', en = .returned v' ∧ VR e' v v') ∧ Go.RowKit.Below w.heap.size w w' := by
  refine (h ⟨fun _ => none, [], w.heap, fun _ => False⟩ w vs rfl rfl ⟨fun b b' q q' _ _ hq => (by cases hq), fun b k hb => (by simp at hb), fun r h => h.elim, fun r h => h.elim⟩ (fun _ => ⟨.any, trivial⟩) ht).mono fun en w' ⟨v', e', h1, h2, h3, h4, h5, h6, h7⟩ => ⟨⟨v', e', h1, h6⟩, ?_⟩
  refine ⟨h4.os, h4.tape, h4.output, by rw [← h2]; exact h7.size, fun k hk => ?_⟩
  rw [← h2]
  exact (h7.ro k ⟨hk, fun b q _ hq => (by cases hq), id⟩).2

/-- A loop, not yet looked at. -/
def vcLoop (P : Program) (G : Nat → DV) (n : List Blk) (a : DC) (s : St) (Q : DX → St → Prop) : Prop :=
  ∃ (I : St → Prop) (μ : St → Nat), (∃ s', Wk G n s s' ∧ I s') ∧ ∀ s, I s → vc P G n a s fun x s1 => match x with | .nrm => ∃ s2, Wk G n s1 s2 ∧ I s2 ∧ μ s2 < μ s | .ext i => ∃ s2, Wk G n s1 s2 ∧ Q (.ext i) s2 | .ret => Q .ret s1

section
variable {P : Program} {G : Nat → DV} {n : List Blk} {Q : DX → St → Prop} {s s' : St}
theorem vc_skip : vc P G n .skip s Q = Q .nrm s := by simp only [vc]
theorem vc_rg {ops : List DOper} : vc P G n (.rg ops) s Q = vcL P G ops s (Q .nrm) := by simp only [vc]
theorem vc_rgv {ops : List DDOp} : vc P G n (.rgv ops) s Q = ∃ hv, HV hv s.h ∧ vcD P G ops s.t [hv] s.h (fun t h => Q .nrm ⟨t, h⟩) := by simp only [vc]
theorem vc_rgm {nb : Nat} {al : Option Nat} {ops : List DDOp} : vc P G n (.rgm nb al ops) s Q = (nb ≤ s.t.length ∧ vcD P G ops (putL s.t al .any) [s.h] s.h (fun t h => Q .nrm ⟨t, h⟩)) := by simp only [vc]
theorem vc_rgd {ops : List DDOp} : vc P G n (.rgd ops) s Q = vcD P G ops s.t [s.h] s.h (fun t h => Q .nrm ⟨t, h⟩) := by simp only [vc]
theorem vc_seq {a b : DC} : vc P G n (.seq a b) s Q = vc P G n a s (fun x s' => match x with | .nrm => vc P G n b s' Q | x => Q x s') := by rw [vc]; rfl
theorem vc_cond {c : Opd} {a b : DC} : vc P G n (.cond c a b) s Q = match c.ev G s.t with
    | .p (.bool t) => if t = true then vc P G n a s Q else vc P G n b s Q
    | _ => False := by simp only [vc]; rfl
theorem vc_block {id : Nat} {a : DC} : vc P G n (.block id a) s Q = vc P G n a s fun x s' => match x with | .ext i => if i = id then Q .nrm s' else Q (.ext i) s' | x => Q x s' := by rw [vc]; rfl
theorem vc_loop {a : DC} : vc P G n (.loop a) s Q = vcLoop P G n a s Q := by rw [vc, vcLoop]; rfl
theorem vc_exit {id : Nat} : vc P G n (.exit id) s Q = Q (.ext id) s := by simp only [vc]
theorem vc_ret : vc P G n .ret s Q = Q .ret s := by simp only [vc]
theorem vc_congr {a : DC} (h : s = s') : vc P G n a s Q = vc P G n a s' Q := by rw [h]
theorem vcLoop_congr {a : DC} (h : s = s') : vcLoop P G n a s Q = vcLoop P G n a s' Q := by rw [h]
theorem vcL_congr {l : List DOper} {K : St → Prop} (h : s = s') : vcL P G l s K = vcL P G l s' K := by rw [h]
theorem vcO_congr {o : DO} {ev ev' : Opd → DV} {h h' : List Blk} {K : DV → List Blk → Prop} (h1 : ev = ev') (h2 : h = h') : vcO P G o ev h K = vcO P G o ev' h' K := by rw [h1, h2]
theorem binK_congr {o : BinOp} {x x' y y' : Value} {K : Value → Prop} (h1 : x = x') (h2 : y = y') : binK o x y K = binK o x' y' K := by rw [h1, h2]
theorem unK_congr {o : UnOp} {x x' : Value} {K : Value → Prop} (h1 : x = x') : unK o x K = unK o x' K := by rw [h1]

theorem vcL_mono {K K' : St → Prop} (hK : ∀ s, K s → K' s) : ∀ (l : List DOper) (s : St), vcL P G l s K → vcL P G l s K'
  | [], s, H => by rw [vcL] at H ⊢; exact hK _ H
  | o :: l, s, H => by
    rw [vcL] at H ⊢
    split at H
    · exact vcO_mono (fun v h hv => vcL_mono hK l _ hv) H
    · rename_i g want _
      split at H
      · rename_i t _
        by_cases hc : t = want
        · rw [if_pos hc] at H ⊢
          exact vcO_mono (fun v h hv => vcL_mono hK l _ hv) H
        · rw [if_neg hc] at H ⊢
          exact vcL_mono hK l _ H
      · exact vcL_mono hK l _ H
      · exact H.elim
theorem stepD_mono {d : DDOp} {t : List DV} {Hs : List (List Blk)} {h : List Blk} {K K' : DV → List (List Blk) → List Blk → Prop} (hK : ∀ v Hs h, K v Hs h → K' v Hs h) : stepD P G d t Hs h K → stepD P G d t Hs h K' := by
  intro H
  unfold stepD at H ⊢
  split
  · rename_i hh
    rw [if_pos hh] at H
    exact vcO_mono (fun v h ⟨h1, h2⟩ => ⟨h1, hK _ _ _ h2⟩) H
  · rename_i hh
    rw [if_neg hh] at H
    exact vcO_mono (fun v h h1 => hK _ _ _ h1) H
theorem vcD_mono {K K' : List DV → List Blk → Prop} (hK : ∀ t h, K t h → K' t h) : ∀ (l : List DDOp) (t : List DV) (Hs : List (List Blk)) (h : List Blk), vcD P G l t Hs h K → vcD P G l t Hs h K'
  | [], t, Hs, h, H => by rw [vcD] at H ⊢; exact hK _ _ H
  | d :: l, t, Hs, h, H => by
    rw [vcD] at H ⊢
    split at H
    · exact stepD_mono (fun v Hs h hv => vcD_mono hK l _ _ _ hv) H
    · rename_i g want _
      split at H
      · rename_i t _
        by_cases hc : t = want
        · rw [if_pos hc] at H ⊢
          exact stepD_mono (fun v Hs h hv => vcD_mono hK l _ _ _ hv) H
        · rw [if_neg hc] at H ⊢
          exact vcD_mono hK l _ _ _ H
      · exact vcD_mono hK l _ _ _ H
      · exact H.elim
theorem vc_mono : ∀ (a : DC) {s : St} {Q Q' : DX → St → Prop}, (∀ x s, Q x s → Q' x s) → vc P G n a s Q → vc P G n a s Q'
  | .skip, s, Q, Q', hQ, H => by rw [vc_skip] at H ⊢; exact hQ _ _ H
  | .rg ops, s, Q, Q', hQ, H => by rw [vc_rg] at H ⊢; exact vcL_mono (hQ _) _ _ H
  | .rgv ops, s, Q, Q', hQ, H => by
    rw [vc_rgv] at H ⊢
    obtain ⟨hv, h1, h2⟩ := H
    exact ⟨hv, h1, vcD_mono (fun t h => hQ _ _) _ _ _ _ h2⟩
  | .rgm nb al ops, s, Q, Q', hQ, H => by rw [vc_rgm] at H ⊢; exact ⟨H.1, vcD_mono (fun t h => hQ _ _) _ _ _ _ H.2⟩
  | .rgd ops, s, Q, Q', hQ, H => by rw [vc_rgd] at H ⊢; exact vcD_mono (fun t h => hQ _ _) _ _ _ _ H
  | .seq a b, s, Q, Q', hQ, H => by
    rw [vc_seq] at H ⊢
    refine vc_mono a (fun x s hx => ?_) H
    cases x
    · exact vc_mono b hQ hx
    · exact hQ _ _ hx
    · exact hQ _ _ hx
  | .cond c a b, s, Q, Q', hQ, H => by
    rw [vc_cond] at H ⊢
    split at H
    · rename_i t _
      by_cases hc : t = true
      · rw [if_pos hc] at H ⊢
        exact vc_mono a hQ H
      · rw [if_neg hc] at H ⊢
        exact vc_mono b hQ H
    · exact H.elim
  | .block id a, s, Q, Q', hQ, H => by
    rw [vc_block] at H ⊢
    refine vc_mono a (fun x s hx => ?_) H
    cases x
    · exact hQ _ _ hx
    · rename_i i
      by_cases hc : i = id
      · simp only [if_pos hc] at hx ⊢
        exact hQ _ _ hx
      · simp only [if_neg hc] at hx ⊢
        exact hQ _ _ hx
    · exact hQ _ _ hx
  | .loop a, s, Q, Q', hQ, H => by
    rw [vc_loop, vcLoop] at H ⊢
    obtain ⟨I, μ, h0, h1⟩ := H
    refine ⟨I, μ, h0, fun s hs => vc_mono a (fun x s hx => ?_) (h1 s hs)⟩
    cases x
    · exact hx
    · obtain ⟨s2, hw, hx⟩ := hx
      exact ⟨s2, hw, hQ _ _ hx⟩
    · exact hQ _ _ hx
  | .exit id, s, Q, Q', hQ, H => by rw [vc_exit] at H ⊢; exact hQ _ _ H
  | .ret, s, Q, Q', hQ, H => by rw [vc_ret] at H ⊢; exact hQ _ _ H

/-- A cut: what holds behind the first piece. -/
theorem vc_cut {a : DC} (R : DX → St → Prop) (h1 : vc P G n a s R) (h2 : ∀ x s, R x s → Q x s) : vc P G n a s Q := vc_mono a h2 h1

end


theorem replicate_lit (n : Nat) (d : DV) : List.replicate (n + 1) d = d :: List.replicate n d := rfl

end Go.Den

namespace Go.Den
open Go

/-- A function that puts off a call: what comes ahead, the region up to the putting off, the call, the rest. -/
structure DfC where
  a : DC
  init : List DOper
  dst : Option Nat
  f : FuncId
  args : List Opd
  rest : DC

def cDefOp (P : Program) (o : Oper) : Option (FuncId × List Opd) :=
  match o.op, o.guard with
  | .defer c, none => match c.callee with
    | .value (.func f) => if cFunc P f = true then some (f, c.args.toList.map cOpd) else none
    | _ => none
  | _, _ => none
def cDef (P : Program) : Code → Option DfC
  | .seq a (.seq (.region _ ops false) rest) => match ops.toList.getLast? with
    | some o => match cDefOp P o, cCode P a, cOps P ops ops.toList.dropLast, cCode P rest with
      | some (f, args), some da, some dl, some dr => some ⟨da, dl.map DOper.rel, o.dst, f, args, dr⟩
      | _, _, _, _ => none
    | none => none
  | _ => none

section
variable {P : Program} {G : Nat → DV}

/-- THE CONTRACT OF A FUNCTION THAT PUTS OFF A CALL. -/
theorem OkR_of_defer {f : FuncId} {fn : Func} {d : DfC} {rs : List DR} (hf : P.funcs[f]? = some fn) (hc : fn.body.bind (cDef P) = some d) (hrs : cRes P fn.results.toList = some rs) {args : List DV} {h : List Blk} {R : DV → List Blk → Prop} (n : Nat) (hn : fn.ntmps = args.length + n)
    (H : vc P G h (.seq d.a (.rg d.init)) ⟨args ++ List.replicate n .any, h⟩ fun x s1 => match x with
      | .nrm => (∀ y, y ∈ d.args → WF (· < h.length) (y.ev G s1.t)) ∧ vc P G h d.rest (s1.put d.dst (.tup []) s1.h) fun x s2 => match x with
        | .nrm | .ret => ∃ R', OkD P G d.f (d.args.map (Opd.ev G s1.t)) s2.h R' ∧ ∀ v1 h2, R' v1 h2 → ∃ ds, resD h2 s2.t rs = some ds ∧ ∃ v h', WkV h (mkRes ds) h2 v h' ∧ R v h'
        | _ => False
      | _ => False) : OkR P G f args h R := by
  cases hb : fn.body with
  | none => rw [hb] at hc; cases hc
  | some c =>
  rw [hb] at hc
  simp only [Option.bind_some] at hc
  unfold cDef at hc
  split at hc
  case h_2 => cases hc
  rename_i ca id ops rest
  split at hc
  case h_2 => cases hc
  rename_i o hlast
  split at hc
  case h_2 => cases hc
  rename_i df dargs da dl dr hdo hca hcl hcr
  cases hc
  intro e w vs he hH hr hg ht
  refine calls_of_wp_defers hf hb ?_
  have hw : HWF h := by rw [← he]; exact hr.hwf
  obtain ⟨n', hn'⟩ : ∃ n', n' = fn.ntmps - vs.size := ⟨_, rfl⟩
  have hnn : n' = n := by rw [hn', ← ht.1, hn]; omega
  have hrel : RelE G [] h.length e w e ⟨args ++ List.replicate n .any, h⟩ { tmps := vs ++ Array.replicate (fn.ntmps - vs.size) undef, defers := [] } w := by
    refine ⟨⟨he, hH, hr, hg, ⟨by simp [ht.1, ← hn', hnn], fun i hi hi' => ?_⟩, rfl⟩, by rw [← he]; exact Ev.refl e, WS.refl w, by rw [he]; exact Nat.le_refl _⟩
    by_cases hia : i < args.length
    · have := ht.2 i hia (ht.1 ▸ hia)
      simp only [List.getElem_append_left hia]
      rw [Array.getElem_append_left (ht.1 ▸ hia)]
      exact this
    · simp only [List.getElem_append_right (Nat.le_of_not_lt hia), List.getElem_replicate]
      exact .any
  rw [vc_seq] at H
  -- what comes ahead
  refine wp_seq (wp_mono (vc_sound hw ca da hca _ e _ _ w hrel H) fun ex a1 w1 hq => ?_)
  cases ex with
  | exit i => obtain ⟨e1, s1, hr1, hq⟩ := hq; exact hq.elim
  | ret => obtain ⟨e1, s1, hr1, hq⟩ := hq; exact hq.elim
  | normal =>
    obtain ⟨e1, s1, hr1, hq⟩ := hq
    simp only [vc_rg] at hq
    have hne : ops.toList ≠ [] := fun h => by rw [h] at hlast; cases hlast
    have hsize : ops.size = ops.toList.dropLast.length + 1 := by
      have := List.length_pos_iff.2 hne
      simp at this ⊢
      omega
    have hsplit : ops.toList = ops.toList.dropLast ++ [o] := by
      have h1 := List.dropLast_concat_getLast hne
      rw [List.getLast?_eq_some_getLast hne] at hlast
      rw [← Option.some.inj hlast]
      exact h1.symm
    have hoi : ops[ops.toList.dropLast.length]? = some o := by
      have : ops.toList[ops.toList.dropLast.length]? = some o := by
        conv => lhs; rw [hsplit]
        simp
      simpa using this
    refine wp_seq (wp_region ?_)
    rw [List.range_eq_range', hsize, show List.range' 0 (ops.toList.dropLast.length + 1) = List.range' 0 ops.toList.dropLast.length ++ [ops.toList.dropLast.length] by rw [List.range'_concat]; simp]
    refine vcL_soundT (b0 := false) [ops.toList.dropLast.length] ops.toList.dropLast dl 0 hcl (fun j hj => ?_) e1 s1 a1 w1 hr1 hq fun e2 s2 a2 w2 hr2 hq2 => ?_
    · have : ops.toList[j]? = ops.toList.dropLast[j]? := by
        conv => lhs; rw [hsplit]
        rw [List.getElem?_append_left hj]
      rw [← this]
      simp
    · -- the putting off
      simp only [wpOps, hoi]
      unfold cDefOp at hdo
      split at hdo
      case h_2 => cases hdo
      rename_i cc hop hgd
      split at hdo
      case h_2 => cases hdo
      rename_i fd hcal
      split at hdo
      case isFalse => cases hdo
      rename_i hcf
      cases hdo
      rw [if_pos (by simp [Region.wanted, hgd])]
      left
      obtain ⟨callee, cargs, cats⟩ := cc
      simp only at hcal
      subst hcal
      have hex : (execOp a2.eval o).run P w2 = .ok (.defer ⟨.fn (.func df) #[], cargs.map a2.eval⟩) w2 := by
        simp only [execOp, hop, resolve, Act.eval, Deferred.ofValue, Sem.run_bind, Sem.run_pure, Result.andThen_ok]
        simp
      unfold Oper.wp
      rw [hex, Oper.upon_defer]
      obtain ⟨hwf, hrest⟩ := hq2
      have hdf := hr2.r.df
      have hr3 : RelE G [⟨.fn (.func df) #[], cargs.map a2.eval⟩] h.length e2 w2 e2 (s2.put o.dst (.tup []) s2.h) ({ a2 with defers := ⟨.fn (.func df) #[], cargs.map a2.eval⟩ :: a2.defers }.put o.dst undef) w2 := by
        refine ⟨⟨?_, hr2.r.H, hr2.r.hr, hr2.r.gr, ?_, ?_⟩, Ev.refl' e2 hr2.ev.len, WS.refl w2, hr2.ev.len⟩
        · rw [hr2.r.h]; cases o.dst <;> rfl
        · have := TR.put (s := s2) (a := { a2 with defers := ⟨.fn (.func df) #[], cargs.map a2.eval⟩ :: a2.defers }) hr2.r.tr o.dst vr_undef s2.h
          exact this
        · cases o.dst <;> simp [Act.put, hdf]
      have hdv : TR e2 ((cargs.toList.map cOpd).map (Opd.ev G s2.t)) (cargs.map a2.eval) := by
        have := tr_map hr2.r.gr hr2.r.tr cargs.toList
        simpa [← Array.toList_map] using this
      refine wp_mono (vc_sound hw rest dr hcr _ e2 _ _ w2 hr3 hrest) fun ex a4 w4 hq => ?_
      have fin : ∀ e4 s4, RelE G [⟨.fn (.func df) #[], cargs.map a2.eval⟩] h.length e2 w2 e4 s4 a4 w4 → (∃ R', OkD P G df ((cargs.toList.map cOpd).map (Opd.ev G s2.t)) s4.h R' ∧ ∀ v1 h2, R' v1 h2 → ∃ ds, resD h2 s4.t rs = some ds ∧ ∃ v h', WkV h (mkRes ds) h2 v h' ∧ R v h') →
          Leaves P fn a4.tmps (fun en w' => ∃ v' e' v h', en = .returned v' ∧ e'.H = w'.heap ∧ e'.h = h' ∧ WS w w' ∧ HR e' ∧ VR e' v v' ∧ Ev e.h.length e e' ∧ R v h') a4.defers .returning w4 := by
        rintro e4 s4 hr4 ⟨R', hok, hR'⟩
        rw [hr4.r.df]
        have hdv4 : TR e4 ((cargs.toList.map cOpd).map (Opd.ev G s2.t)) (cargs.map a2.eval) := by
          refine ⟨hdv.1, fun i hi hi' => ?_⟩
          refine (hdv.2 i hi hi').gen hr4.ev.toB ?_
          simp only [List.getElem_map]
          exact hwf _ (List.mem_map.2 ⟨_, List.getElem_mem _, rfl⟩)
        have hcall := hok e4 w4 (cargs.map a2.eval) hr4.r.h hr4.r.H hr4.r.hr hr4.r.gr hdv4
        have hinv : (invoke (.fn (.func df) #[]) (cargs.map a2.eval)).run P w4 = .ok (.enter df (cargs.map a2.eval)) w4 := by
          unfold cFunc at hcf
          split at hcf
          · rename_i fn2 hfn2
            simp only [Bool.and_eq_true, Bool.not_eq_true', beq_eq_false_iff_ne] at hcf
            simp only [invoke, callFunc, Sem.run_bind, Sem.run_pure, Result.andThen_ok, run_program, hfn2]
            have h2 : fn2.body.isNone = false := by simp [Option.isNone_iff_eq_none, ← Option.isSome_iff_ne_none, hcf.1]
            rw [if_neg (by simpa using hcf.2), if_neg (by rw [h2]; simp)]
            simp
          · cases hcf
        refine leaves_cons (by simp) hinv (hcall.mono ?_)
        rintro en u' w' ⟨rfl, v', e5, v1, h2, rfl, g1, g2, g3, g4, g5, g6, g7⟩
        obtain ⟨ds, hds, v, h', hwk, hR⟩ := hR' v1 h2 g7
        have hr5 : RelS G [⟨.fn (.func df) #[], cargs.map a2.eval⟩] e5 ⟨s4.t, h2⟩ a4 w' := ⟨g2, g1, g4, hr4.r.gr.mono g6, hr4.r.tr.mono g6, hr4.r.df⟩
        obtain ⟨us, k1, k2, k3⟩ := run_res (P := P) hr5 fn.results.toList rs ds hrs hds
        have hres : (results fn a4.tmps).run P w' = .ok (if h : us.toArray.size = 1 then us.toArray[0] else .tuple us.toArray) w' := by
          unfold results
          rw [Array.mapM_eq_mapM_toList]
          rw [Sem.run_bind, Sem.run_map]
          erw [k1]
          rfl
        have hv : VR e5 (mkRes ds) (if h : us.toArray.size = 1 then us.toArray[0] else .tuple us.toArray) := by
          match ds, us, k2, k3 with
          | [d], [u], _, h3 => simpa [mkRes] using h3 0 (by simp) (by simp)
          | [], [], _, _ => exact .tup (by simp) (fun i hi => by simp at hi)
          | d1 :: d2 :: dr, u1 :: u2 :: ur, h2, h3 =>
            rw [dif_neg (by simp)]
            exact .tup (by simpa using h2) (fun i hi hi' => by simpa using h3 i hi (by simpa using hi'))
        have ev05 : Ev h.length e e5 := (hr2.ev.trans hr4.ev (Nat.le_refl _)).trans g6 hr4.ev.len
        obtain ⟨e6, m1, m2, m3, m4, m5⟩ := hwk hw e5 _ g2 g4 hv (by rw [← g2]; exact ev05.len)
        refine ⟨_, hres, _, e6, v, h', rfl, by rw [m2]; exact g1, m1, (hr2.ws.trans hr4.ws).trans g3, m3, m4, ?_, hR⟩
        rw [he]
        exact ev05.trans m5 (Nat.le_refl _)
      cases ex with
      | normal => obtain ⟨e4, s4, hr4, hq4⟩ := hq; exact fin e4 s4 hr4 hq4
      | ret => obtain ⟨e4, s4, hr4, hq4⟩ := hq; exact fin e4 s4 hr4 hq4
      | exit i => obtain ⟨e4, s4, hr4, hq4⟩ := hq; exact hq4.elim
      | _ => exact hq.elim
  | _ => exact hq.elim
end
end Go.Den

namespace Go.Den
open Go

/-- Said with a proof, not by reckoning. -/
theorem nd {α : Sort _} {a b : α} (h : a = b) : a = b := h

/-- A slot, and a frame with another value in a slot. -/
def gS : List DV → Nat → DV
  | [], _ => .any
  | d :: _, 0 => d
  | _ :: l, n + 1 => gS l n
def sS : List DV → Nat → DV → List DV
  | [], _, _ => []
  | _ :: l, 0, v => v :: l
  | d :: l, n + 1, v => d :: sS l n v
theorem gS_eq : ∀ (l : List DV) (n : Nat), l.getD n .any = gS l n
  | [], _ => by simp [gS]
  | d :: _, 0 => rfl
  | _ :: l, n + 1 => by simpa [gS] using gS_eq l n
theorem sS_eq : ∀ (l : List DV) (n : Nat) (v : DV), l.set n v = sS l n v
  | [], _, _ => by simp [sS]
  | d :: _, 0, _ => rfl
  | d :: l, n + 1, v => by simp [sS, sS_eq l n v]
@[simp] theorem gS_0 {d : DV} {l : List DV} : gS (d :: l) 0 = d := nd rfl
@[simp] theorem gS_1 {d : DV} {l : List DV} {n : Nat} : gS (d :: l) (n + 1) = gS l n := nd rfl
@[simp] theorem sS_0 {d v : DV} {l : List DV} : sS (d :: l) 0 v = v :: l := nd rfl
@[simp] theorem sS_1 {d v : DV} {l : List DV} {n : Nat} : sS (d :: l) (n + 1) v = d :: sS l n v := nd rfl

/-- What is still to be done, as data. -/
inductive Fr where
  | seq (b : DC)
  | blk (id : Nat)

def kon0 (P : Program) (G : Nat → DV) (n : List Blk) : List Fr → (DX → St → Prop) → DX → St → Prop
  | [], Q, x, s => Q x s
  | .seq b :: st, Q, x, s => match x with | .nrm => vc P G n b s (kon0 P G n st Q) | x => kon0 P G n st Q x s
  | .blk id :: st, Q, x, s => match x with | .ext i => if i = id then kon0 P G n st Q .nrm s else kon0 P G n st Q (.ext i) s | x => kon0 P G n st Q x s

def VV0 (P : Program) (G : Nat → DV) (n : List Blk) (c : DC) (s : St) (st : List Fr) (Q : DX → St → Prop) : Prop := vc P G n c s (kon0 P G n st Q)
def LL0 (P : Program) (G : Nat → DV) (n : List Blk) (ops : List DOper) (t : List DV) (h : List Blk) (st : List Fr) (Q : DX → St → Prop) : Prop := vcL P G ops ⟨t, h⟩ (kon0 P G n st Q .nrm)
/-- One operation's value is there: on. -/
def KK0 (P : Program) (G : Nat → DV) (n : List Blk) (dst : Option Nat) (l : List DOper) (t : List DV) (st : List Fr) (Q : DX → St → Prop) (v : DV) (h : List Blk) : Prop :=
  vcL P G l (St.put ⟨t, []⟩ dst v h) (kon0 P G n st Q .nrm)
/-- A test, its value there. -/
def CC0 (P : Program) (G : Nat → DV) (n : List Blk) (d : DV) (a b : DC) (s : St) (st : List Fr) (Q : DX → St → Prop) : Prop :=
  match d with | .p (.bool t) => if t = true then VV0 P G n a s st Q else VV0 P G n b s st Q | _ => False
/-- A guard, its value there. -/
def GG0 (P : Program) (G : Nat → DV) (n : List Blk) (d : DV) (want : Bool) (dst : Option Nat) (op : DO) (l : List DOper) (t : List DV) (h : List Blk) (st : List Fr) (Q : DX → St → Prop) : Prop :=
  match d with | .p (.bool b) => if b = want then LL0 P G n (⟨dst, op, none⟩ :: l) t h st Q else KK0 P G n dst l t st Q (.tup []) h | .tup [] => KK0 P G n dst l t st Q (.tup []) h | _ => False
/-- One of two, the test's value there. -/
def PP0 (P : Program) (G : Nat → DV) (n : List Blk) (d a b : DV) (dst : Option Nat) (l : List DOper) (t : List DV) (h : List Blk) (st : List Fr) (Q : DX → St → Prop) : Prop :=
  match d with | .p (.bool c) => if c = true then KK0 P G n dst l t st Q a h else KK0 P G n dst l t st Q b h | _ => False
/-- A call, its arguments there. -/
def FF0 (P : Program) (G : Nat → DV) (n : List Blk) (f : FuncId) (args : List DV) (dst : Option Nat) (l : List DOper) (t : List DV) (h : List Blk) (st : List Fr) (Q : DX → St → Prop) : Prop :=
  ∃ R, OkR P G f args h R ∧ ∀ v h', R v h' → KK0 P G n dst l t st Q v h'

section
variable {P : Program} {G : Nat → DV} {n : List Blk} {Q : DX → St → Prop} {s s' : St} {st : List Fr} {l : List DOper} {t : List DV} {h : List Blk} {dst : Option Nat} {v : DV}

theorem kon0_nil {x : DX} : kon0 P G n [] Q x s = Q x s := nd rfl
theorem kon0_seq_nrm {b : DC} : kon0 P G n (.seq b :: st) Q .nrm s = VV0 P G n b s st Q := nd rfl
theorem kon0_seq_ret {b : DC} : kon0 P G n (.seq b :: st) Q .ret s = kon0 P G n st Q .ret s := nd rfl
theorem kon0_seq_ext {b : DC} {i : Nat} : kon0 P G n (.seq b :: st) Q (.ext i) s = kon0 P G n st Q (.ext i) s := nd rfl
theorem kon0_blk_nrm {i : Nat} : kon0 P G n (.blk i :: st) Q .nrm s = kon0 P G n st Q .nrm s := nd rfl
theorem kon0_blk_ret {i : Nat} : kon0 P G n (.blk i :: st) Q .ret s = kon0 P G n st Q .ret s := nd rfl
theorem kon0_blk_same {i : Nat} : kon0 P G n (.blk i :: st) Q (.ext i) s = kon0 P G n st Q .nrm s := by simp [kon0]
theorem kon0_blk_ext {i j : Nat} (hij : j ≠ i) : kon0 P G n (.blk i :: st) Q (.ext j) s = kon0 P G n st Q (.ext j) s := by simp [kon0, hij]

theorem VV0_skip : VV0 P G n .skip s st Q = kon0 P G n st Q .nrm s := by simp only [VV0, vc_skip]
theorem VV0_rg {ops : List DOper} : VV0 P G n (.rg ops) ⟨t, h⟩ st Q = LL0 P G n ops t h st Q := by simp only [VV0, vc_rg, LL0]
theorem VV0_seq {a b : DC} : VV0 P G n (.seq a b) s st Q = VV0 P G n a s (.seq b :: st) Q := by
  exact nd rfl
theorem VV0_cond {c : Opd} {a b : DC} : VV0 P G n (.cond c a b) ⟨t, h⟩ st Q = CC0 P G n (c.ev G t) a b ⟨t, h⟩ st Q := by first | (simp only [VV0, vc_cond, CC0]; rfl) | simp only [VV0, vc_cond, CC0]
theorem VV0_block {id : Nat} {a : DC} : VV0 P G n (.block id a) s st Q = VV0 P G n a s (.blk id :: st) Q := by
  exact nd rfl
theorem VV0_exit {id : Nat} : VV0 P G n (.exit id) s st Q = kon0 P G n st Q (.ext id) s := by simp only [VV0, vc_exit]
theorem VV0_ret : VV0 P G n .ret s st Q = kon0 P G n st Q .ret s := by simp only [VV0, vc_ret]

theorem CC0_true {a b : DC} : CC0 P G n (.p (.bool true)) a b s st Q = VV0 P G n a s st Q := nd rfl
theorem CC0_false {a b : DC} : CC0 P G n (.p (.bool false)) a b s st Q = VV0 P G n b s st Q := nd rfl
theorem CC0_by {x : Bool} {a b : DC} (h1 : x = true → VV0 P G n a s st Q) (h2 : x = false → VV0 P G n b s st Q) : CC0 P G n (.p (.bool x)) a b s st Q := by
  cases x
  · exact h2 rfl
  · exact h1 rfl

theorem KK0_none : KK0 P G n none l t st Q v h = LL0 P G n l t h st Q := nd rfl
theorem KK0_some {d : Nat} : KK0 P G n (some d) l t st Q v h = LL0 P G n l (sS t d v) h st Q := by rw [← sS_eq]; rfl

theorem GG0_pos {op : DO} {want : Bool} : GG0 P G n (.p (.bool want)) want dst op l t h st Q = LL0 P G n (⟨dst, op, none⟩ :: l) t h st Q := by simp [GG0]
theorem GG0_tf {op : DO} : GG0 P G n (.p (.bool true)) false dst op l t h st Q = KK0 P G n dst l t st Q (.tup []) h := by simp [GG0]
theorem GG0_ft {op : DO} : GG0 P G n (.p (.bool false)) true dst op l t h st Q = KK0 P G n dst l t st Q (.tup []) h := by simp [GG0]
theorem GG0_un {op : DO} {want : Bool} : GG0 P G n (.tup []) want dst op l t h st Q = KK0 P G n dst l t st Q (.tup []) h := by simp [GG0]
theorem GG0_by {x : Bool} {op : DO} {want : Bool} (h1 : x = true → GG0 P G n (.p (.bool true)) want dst op l t h st Q) (h2 : x = false → GG0 P G n (.p (.bool false)) want dst op l t h st Q) : GG0 P G n (.p (.bool x)) want dst op l t h st Q := by
  cases x
  · exact h2 rfl
  · exact h1 rfl
theorem PP0_true {a b : DV} : PP0 P G n (.p (.bool true)) a b dst l t h st Q = KK0 P G n dst l t st Q a h := by simp [PP0]
theorem PP0_false {a b : DV} : PP0 P G n (.p (.bool false)) a b dst l t h st Q = KK0 P G n dst l t st Q b h := by simp [PP0]
theorem FF0_by {f : FuncId} {args : List DV} {v : DV} {h' : List Blk} (hf : Ok P G f args h v h') (hk : KK0 P G n dst l t st Q v h') : FF0 P G n f args dst l t h st Q := ⟨_, hf.toR, by rintro v1 h1 ⟨rfl, rfl⟩; exact hk⟩

theorem LL0_nil : LL0 P G n [] t h st Q = kon0 P G n st Q .nrm ⟨t, h⟩ := nd rfl
theorem LL0_guard {g : Nat} {want : Bool} {op : DO} : LL0 P G n (⟨dst, op, some (g, want)⟩ :: l) t h st Q = GG0 P G n (gS t g) want dst op l t h st Q := by
  rw [← gS_eq]
  cases dst <;> simp [LL0, vcL, GG0, KK0, St.put] <;> rfl

theorem LL0_step {op : DO} : LL0 P G n (⟨dst, op, none⟩ :: l) t h st Q = vcO P G op (Opd.ev G t) h (KK0 P G n dst l t st Q) := by
  cases dst <;> rfl
theorem LL0_pick {c a b : Opd} : LL0 P G n (⟨dst, .pick c a b, none⟩ :: l) t h st Q = PP0 P G n (c.ev G t) (a.ev G t) (b.ev G t) dst l t h st Q := by
  rw [LL0_step]
  simp only [vcO, PP0]
  rfl
theorem LL0_call {f : FuncId} {args : List Opd} : LL0 P G n (⟨dst, .callr f args, none⟩ :: l) t h st Q = FF0 P G n f (args.map (Opd.ev G t)) dst l t h st Q := by
  rw [LL0_step, vcO, FF0]
theorem LL0_bin {uop ux uy} : LL0 P G n (⟨dst, .bin uop ux uy, none⟩ :: l) t h st Q = vcO P G (.bin uop ux uy) (Opd.ev G t) h (KK0 P G n dst l t st Q) := nd LL0_step
theorem LL0_eqb {uneg ux uy} : LL0 P G n (⟨dst, .eqb uneg ux uy, none⟩ :: l) t h st Q = vcO P G (.eqb uneg ux uy) (Opd.ev G t) h (KK0 P G n dst l t st Q) := nd LL0_step
theorem LL0_eqn {uneg uk ux} : LL0 P G n (⟨dst, .eqn uneg uk ux, none⟩ :: l) t h st Q = vcO P G (.eqn uneg uk ux) (Opd.ev G t) h (KK0 P G n dst l t st Q) := nd LL0_step
theorem LL0_eqp {uneg ux uy} : LL0 P G n (⟨dst, .eqp uneg ux uy, none⟩ :: l) t h st Q = vcO P G (.eqp uneg ux uy) (Opd.ev G t) h (KK0 P G n dst l t st Q) := nd LL0_step
theorem LL0_eqi {uneg ux uy} : LL0 P G n (⟨dst, .eqi uneg ux uy, none⟩ :: l) t h st Q = vcO P G (.eqi uneg ux uy) (Opd.ev G t) h (KK0 P G n dst l t st Q) := nd LL0_step
theorem LL0_eqs {uneg uks ux uy} : LL0 P G n (⟨dst, .eqs uneg uks ux uy, none⟩ :: l) t h st Q = vcO P G (.eqs uneg uks ux uy) (Opd.ev G t) h (KK0 P G n dst l t st Q) := nd LL0_step
theorem LL0_un {uop ux} : LL0 P G n (⟨dst, .un uop ux, none⟩ :: l) t h st Q = vcO P G (.un uop ux) (Opd.ev G t) h (KK0 P G n dst l t st Q) := nd LL0_step
theorem LL0_cint {uk ux} : LL0 P G n (⟨dst, .cint uk ux, none⟩ :: l) t h st Q = vcO P G (.cint uk ux) (Opd.ev G t) h (KK0 P G n dst l t st Q) := nd LL0_step
theorem LL0_cstr {ux} : LL0 P G n (⟨dst, .cstr ux, none⟩ :: l) t h st Q = vcO P G (.cstr ux) (Opd.ev G t) h (KK0 P G n dst l t st Q) := nd LL0_step
theorem LL0_b2s {ux} : LL0 P G n (⟨dst, .b2s ux, none⟩ :: l) t h st Q = vcO P G (.b2s ux) (Opd.ev G t) h (KK0 P G n dst l t st Q) := nd LL0_step
theorem LL0_s2b {ux} : LL0 P G n (⟨dst, .s2b ux, none⟩ :: l) t h st Q = vcO P G (.s2b ux) (Opd.ev G t) h (KK0 P G n dst l t st Q) := nd LL0_step
theorem LL0_s2bl {ux} : LL0 P G n (⟨dst, .s2bl ux, none⟩ :: l) t h st Q = vcO P G (.s2bl ux) (Opd.ev G t) h (KK0 P G n dst l t st Q) := nd LL0_step
theorem LL0_lens {ux} : LL0 P G n (⟨dst, .lens ux, none⟩ :: l) t h st Q = vcO P G (.lens ux) (Opd.ev G t) h (KK0 P G n dst l t st Q) := nd LL0_step
theorem LL0_lenl {ux} : LL0 P G n (⟨dst, .lenl ux, none⟩ :: l) t h st Q = vcO P G (.lenl ux) (Opd.ev G t) h (KK0 P G n dst l t st Q) := nd LL0_step
theorem LL0_lenm {ux} : LL0 P G n (⟨dst, .lenm ux, none⟩ :: l) t h st Q = vcO P G (.lenm ux) (Opd.ev G t) h (KK0 P G n dst l t st Q) := nd LL0_step
theorem LL0_mm {umx ux uy} : LL0 P G n (⟨dst, .mm umx ux uy, none⟩ :: l) t h st Q = vcO P G (.mm umx ux uy) (Opd.ev G t) h (KK0 P G n dst l t st Q) := nd LL0_step
theorem LL0_slcs {ux ulo uhi} : LL0 P G n (⟨dst, .slcs ux ulo uhi, none⟩ :: l) t h st Q = vcO P G (.slcs ux ulo uhi) (Opd.ev G t) h (KK0 P G n dst l t st Q) := nd LL0_step
theorem LL0_slcl {usz ux ulo uhi} : LL0 P G n (⟨dst, .slcl usz ux ulo uhi, none⟩ :: l) t h st Q = vcO P G (.slcl usz ux ulo uhi) (Opd.ev G t) h (KK0 P G n dst l t st Q) := nd LL0_step
theorem LL0_idxs {ux ui} : LL0 P G n (⟨dst, .idxs ux ui, none⟩ :: l) t h st Q = vcO P G (.idxs ux ui) (Opd.ev G t) h (KK0 P G n dst l t st Q) := nd LL0_step
theorem LL0_idxa {um usz ug ux ui} : LL0 P G n (⟨dst, .idxa um usz ug ux ui, none⟩ :: l) t h st Q = vcO P G (.idxa um usz ug ux ui) (Opd.ev G t) h (KK0 P G n dst l t st Q) := nd LL0_step
theorem LL0_fld {uo usz ug ux} : LL0 P G n (⟨dst, .fld uo usz ug ux, none⟩ :: l) t h st Q = vcO P G (.fld uo usz ug ux) (Opd.ev G t) h (KK0 P G n dst l t st Q) := nd LL0_step
theorem LL0_litz {usz uels} : LL0 P G n (⟨dst, .litz usz uels, none⟩ :: l) t h st Q = vcO P G (.litz usz uels) (Opd.ev G t) h (KK0 P G n dst l t st Q) := nd LL0_step
theorem LL0_bld {uzero uparts} : LL0 P G n (⟨dst, .bld uzero uparts, none⟩ :: l) t h st Q = vcO P G (.bld uzero uparts) (Opd.ev G t) h (KK0 P G n dst l t st Q) := nd LL0_step
theorem LL0_lit {usz uels} : LL0 P G n (⟨dst, .lit usz uels, none⟩ :: l) t h st Q = vcO P G (.lit usz uels) (Opd.ev G t) h (KK0 P G n dst l t st Q) := nd LL0_step
theorem LL0_alloc {usz uzero} : LL0 P G n (⟨dst, .alloc usz uzero, none⟩ :: l) t h st Q = vcO P G (.alloc usz uzero) (Opd.ev G t) h (KK0 P G n dst l t st Q) := nd LL0_step
theorem LL0_box {ux} : LL0 P G n (⟨dst, .box ux, none⟩ :: l) t h st Q = vcO P G (.box ux) (Opd.ev G t) h (KK0 P G n dst l t st Q) := nd LL0_step
theorem LL0_load {ug usz ua} : LL0 P G n (⟨dst, .load ug usz ua, none⟩ :: l) t h st Q = vcO P G (.load ug usz ua) (Opd.ev G t) h (KK0 P G n dst l t st Q) := nd LL0_step
theorem LL0_store {usz ua ux} : LL0 P G n (⟨dst, .store usz ua ux, none⟩ :: l) t h st Q = vcO P G (.store usz ua ux) (Opd.ev G t) h (KK0 P G n dst l t st Q) := nd LL0_step
theorem LL0_nilchk {uk ux} : LL0 P G n (⟨dst, .nilchk uk ux, none⟩ :: l) t h st Q = vcO P G (.nilchk uk ux) (Opd.ev G t) h (KK0 P G n dst l t st Q) := nd LL0_step
theorem LL0_faddr {ug uo usz ua} : LL0 P G n (⟨dst, .faddr ug uo usz ua, none⟩ :: l) t h st Q = vcO P G (.faddr ug uo usz ua) (Opd.ev G t) h (KK0 P G n dst l t st Q) := nd LL0_step
theorem LL0_iaddr {usz ux ui} : LL0 P G n (⟨dst, .iaddr usz ux ui, none⟩ :: l) t h st Q = vcO P G (.iaddr usz ux ui) (Opd.ev G t) h (KK0 P G n dst l t st Q) := nd LL0_step
theorem LL0_iaddra {um usz ug ux ui} : LL0 P G n (⟨dst, .iaddra um usz ug ux ui, none⟩ :: l) t h st Q = vcO P G (.iaddra um usz ug ux ui) (Opd.ev G t) h (KK0 P G n dst l t st Q) := nd LL0_step
theorem LL0_app {usz ubytes ux uy} : LL0 P G n (⟨dst, .app usz ubytes ux uy, none⟩ :: l) t h st Q = vcO P G (.app usz ubytes ux uy) (Opd.ev G t) h (KK0 P G n dst l t st Q) := nd LL0_step
theorem LL0_ext {ux ui} : LL0 P G n (⟨dst, .ext ux ui, none⟩ :: l) t h st Q = vcO P G (.ext ux ui) (Opd.ev G t) h (KK0 P G n dst l t st Q) := nd LL0_step
theorem LL0_ifc {ut ux} : LL0 P G n (⟨dst, .ifc ut ux, none⟩ :: l) t h st Q = vcO P G (.ifc ut ux) (Opd.ev G t) h (KK0 P G n dst l t st Q) := nd LL0_step
theorem LL0_mov {ux} : LL0 P G n (⟨dst, .mov ux, none⟩ :: l) t h st Q = vcO P G (.mov ux) (Opd.ev G t) h (KK0 P G n dst l t st Q) := nd LL0_step
theorem LL0_mkmapr {ux} : LL0 P G n (⟨dst, .mkmapr ux, none⟩ :: l) t h st Q = vcO P G (.mkmapr ux) (Opd.ev G t) h (KK0 P G n dst l t st Q) := nd LL0_step
theorem LL0_mkmap : LL0 P G n (⟨dst, .mkmap, none⟩ :: l) t h st Q = vcO P G .mkmap (Opd.ev G t) h (KK0 P G n dst l t st Q) := nd LL0_step
theorem LL0_rngs {ux} : LL0 P G n (⟨dst, .rngs ux, none⟩ :: l) t h st Q = vcO P G (.rngs ux) (Opd.ev G t) h (KK0 P G n dst l t st Q) := nd LL0_step
theorem LL0_nxts {ua} : LL0 P G n (⟨dst, .nxts ua, none⟩ :: l) t h st Q = vcO P G (.nxts ua) (Opd.ev G t) h (KK0 P G n dst l t st Q) := nd LL0_step
theorem LL0_rngm {ux} : LL0 P G n (⟨dst, .rngm ux, none⟩ :: l) t h st Q = vcO P G (.rngm ux) (Opd.ev G t) h (KK0 P G n dst l t st Q) := nd LL0_step
theorem LL0_nxtm {ua} : LL0 P G n (⟨dst, .nxtm ua, none⟩ :: l) t h st Q = vcO P G (.nxtm ua) (Opd.ev G t) h (KK0 P G n dst l t st Q) := nd LL0_step
theorem LL0_ent {ua} : LL0 P G n (⟨dst, .ent ua, none⟩ :: l) t h st Q = vcO P G (.ent ua) (Opd.ev G t) h (KK0 P G n dst l t st Q) := nd LL0_step
theorem LL0_mupd {uck um uk ux} : LL0 P G n (⟨dst, .mupd uck um uk ux, none⟩ :: l) t h st Q = vcO P G (.mupd uck um uk ux) (Opd.ev G t) h (KK0 P G n dst l t st Q) := nd LL0_step
theorem LL0_look {uck uzero uok um uk} : LL0 P G n (⟨dst, .look uck uzero uok um uk, none⟩ :: l) t h st Q = vcO P G (.look uck uzero uok um uk) (Opd.ev G t) h (KK0 P G n dst l t st Q) := nd LL0_step
theorem LL0_mdel {uck um uk} : LL0 P G n (⟨dst, .mdel uck um uk, none⟩ :: l) t h st Q = vcO P G (.mdel uck um uk) (Opd.ev G t) h (KK0 P G n dst l t st Q) := nd LL0_step
theorem LL0_clr {uz ux} : LL0 P G n (⟨dst, .clr uz ux, none⟩ :: l) t h st Q = vcO P G (.clr uz ux) (Opd.ev G t) h (KK0 P G n dst l t st Q) := nd LL0_step
@[simp ↓] theorem bi_shl {k k' : IntKind} {a b : Int} {K : Value → Prop} : binK .shl (.int k a) (.int k' b) K = (0 ≤ b ∧ K (.int k (ishl k a b))) := nd rfl
@[simp ↓] theorem bi_shr {k k' : IntKind} {a b : Int} {K : Value → Prop} : binK .shr (.int k a) (.int k' b) K = (0 ≤ b ∧ K (.int k (ishr k a b))) := nd rfl
@[simp ↓] theorem bi_add {k k' : IntKind} {a b : Int} {K : Value → Prop} : binK .add (.int k a) (.int k' b) K = (k = k' ∧ K (.int k (k.wrap (a + b)))) := nd rfl
@[simp ↓] theorem bi_sub {k k' : IntKind} {a b : Int} {K : Value → Prop} : binK .sub (.int k a) (.int k' b) K = (k = k' ∧ K (.int k (k.wrap (a - b)))) := nd rfl
@[simp ↓] theorem bi_mul {k k' : IntKind} {a b : Int} {K : Value → Prop} : binK .mul (.int k a) (.int k' b) K = (k = k' ∧ K (.int k (k.wrap (a * b)))) := nd rfl
@[simp ↓] theorem bi_quo {k k' : IntKind} {a b : Int} {K : Value → Prop} : binK .quo (.int k a) (.int k' b) K = (k = k' ∧ b ≠ 0 ∧ K (.int k (k.wrap (a.tdiv b)))) := nd rfl
@[simp ↓] theorem bi_rem {k k' : IntKind} {a b : Int} {K : Value → Prop} : binK .rem (.int k a) (.int k' b) K = (k = k' ∧ b ≠ 0 ∧ K (.int k (a.tmod b))) := nd rfl
@[simp ↓] theorem bi_and {k k' : IntKind} {a b : Int} {K : Value → Prop} : binK .and (.int k a) (.int k' b) K = (k = k' ∧ K (.int k (iand k a b))) := nd rfl
@[simp ↓] theorem bi_or {k k' : IntKind} {a b : Int} {K : Value → Prop} : binK .or (.int k a) (.int k' b) K = (k = k' ∧ K (.int k (ior k a b))) := nd rfl
@[simp ↓] theorem bi_xor {k k' : IntKind} {a b : Int} {K : Value → Prop} : binK .xor (.int k a) (.int k' b) K = (k = k' ∧ K (.int k (ixor k a b))) := nd rfl
@[simp ↓] theorem bi_andNot {k k' : IntKind} {a b : Int} {K : Value → Prop} : binK .andNot (.int k a) (.int k' b) K = (k = k' ∧ K (.int k (iandn k a b))) := nd rfl
@[simp ↓] theorem bi_eql {k k' : IntKind} {a b : Int} {K : Value → Prop} : binK .eql (.int k a) (.int k' b) K = (k = k' ∧ K (.bool (a == b))) := nd rfl
@[simp ↓] theorem bi_neq {k k' : IntKind} {a b : Int} {K : Value → Prop} : binK .neq (.int k a) (.int k' b) K = (k = k' ∧ K (.bool (a != b))) := nd rfl
@[simp ↓] theorem bi_lss {k k' : IntKind} {a b : Int} {K : Value → Prop} : binK .lss (.int k a) (.int k' b) K = (k = k' ∧ K (.bool (decide (a < b)))) := nd rfl
@[simp ↓] theorem bi_leq {k k' : IntKind} {a b : Int} {K : Value → Prop} : binK .leq (.int k a) (.int k' b) K = (k = k' ∧ K (.bool (decide (a ≤ b)))) := nd rfl
@[simp ↓] theorem bi_gtr {k k' : IntKind} {a b : Int} {K : Value → Prop} : binK .gtr (.int k a) (.int k' b) K = (k = k' ∧ K (.bool (decide (b < a)))) := nd rfl
@[simp ↓] theorem bi_geq {k k' : IntKind} {a b : Int} {K : Value → Prop} : binK .geq (.int k a) (.int k' b) K = (k = k' ∧ K (.bool (decide (b ≤ a)))) := nd rfl
@[simp ↓] theorem bf_add {k k' : FloatKind} {a b : Nat} {K : Value → Prop} : binK .add (.float k a) (.float k' b) K = (k = k' ∧ (k.format.add a b).isSome = true ∧ K (.float k ((k.format.add a b).getD 0))) := nd rfl
@[simp ↓] theorem bf_eql {k k' : FloatKind} {a b : Nat} {K : Value → Prop} : binK .eql (.float k a) (.float k' b) K = (k = k' ∧ K (.bool (k.format.order a b == some .eq))) := nd rfl
@[simp ↓] theorem bf_neq {k k' : FloatKind} {a b : Nat} {K : Value → Prop} : binK .neq (.float k a) (.float k' b) K = (k = k' ∧ K (.bool (k.format.order a b != some .eq))) := nd rfl
@[simp ↓] theorem bf_lss {k k' : FloatKind} {a b : Nat} {K : Value → Prop} : binK .lss (.float k a) (.float k' b) K = (k = k' ∧ K (.bool (k.format.order a b == some .lt))) := nd rfl
@[simp ↓] theorem bf_geq {k k' : FloatKind} {a b : Nat} {K : Value → Prop} : binK .geq (.float k a) (.float k' b) K = (k = k' ∧ K (.bool (k.format.order a b == some .gt || k.format.order a b == some .eq))) := nd rfl
@[simp ↓] theorem bs_add {a b : ByteArray} {K : Value → Prop} : binK .add (.string a) (.string b) K = (((a.size + b.size : Nat) : Int) ≤ 9223372036854775807 ∧ K (.string (a ++ b))) := nd rfl
@[simp ↓] theorem bs_eql {a b : ByteArray} {K : Value → Prop} : binK .eql (.string a) (.string b) K = (K (.bool (decide (a = b)))) := nd rfl
@[simp ↓] theorem bs_neq {a b : ByteArray} {K : Value → Prop} : binK .neq (.string a) (.string b) K = (K (.bool (!decide (a = b)))) := nd rfl
@[simp ↓] theorem bs_lss {a b : ByteArray} {K : Value → Prop} : binK .lss (.string a) (.string b) K = (K (.bool (Op.bytesLess a.data.toList b.data.toList))) := nd rfl
@[simp ↓] theorem bs_leq {a b : ByteArray} {K : Value → Prop} : binK .leq (.string a) (.string b) K = (K (.bool (Op.bytesLess a.data.toList b.data.toList || decide (a = b)))) := nd rfl
@[simp ↓] theorem bs_gtr {a b : ByteArray} {K : Value → Prop} : binK .gtr (.string a) (.string b) K = (K (.bool (!(Op.bytesLess a.data.toList b.data.toList || decide (a = b))))) := nd rfl
@[simp ↓] theorem bs_geq {a b : ByteArray} {K : Value → Prop} : binK .geq (.string a) (.string b) K = (K (.bool (!(Op.bytesLess a.data.toList b.data.toList)))) := nd rfl
@[simp ↓] theorem un_neg {k : IntKind} {a : Int} {K : Value → Prop} : unK .neg (.int k a) K = (K (.int k (k.wrap (0 - a)))) := nd rfl
@[simp ↓] theorem un_xor {k : IntKind} {a : Int} {K : Value → Prop} : unK .xor (.int k a) K = (K (.int k (inot k a))) := nd rfl
@[simp ↓] theorem un_not {a : Bool} {K : Value → Prop} : unK .not (.bool a) K = (K (.bool (!a))) := nd rfl
end

/-- A LOOP: what holds at its head; each exit goes on with what is still to be done. -/
theorem VV0_loop {P : Program} {G : Nat → DV} {n : List Blk} {Q : DX → St → Prop} {s : St} {st : List Fr} {a : DC} (I : St → Prop) (μ : St → Nat) (h0 : ∃ s', Wk G n s s' ∧ I s')
    (h1 : ∀ s, I s → ∀ B : DX → St → Prop, (∀ s1, (∃ s2, Wk G n s1 s2 ∧ I s2 ∧ μ s2 < μ s) → B .nrm s1) → (∀ i s1, (∃ s2, Wk G n s1 s2 ∧ kon0 P G n st Q (.ext i) s2) → B (.ext i) s1) → (∀ s1, kon0 P G n st Q .ret s1 → B .ret s1) → VV0 P G n a s [] B) :
    VV0 P G n (.loop a) s st Q := by
  rw [VV0, vc_loop]
  refine ⟨I, μ, h0, fun s hs => ?_⟩
  exact h1 s hs _ (fun s1 h => h) (fun i s1 h => h) (fun s1 h => h)

/-- The function's end. -/
def RR0 (h : List Blk) (rs : List DR) (v : DV) (h' : List Blk) (x : DX) (s : St) : Prop :=
  match x with
  | .nrm | .ret => ∃ ds, resD s.h s.t rs = some ds ∧ WkV h (mkRes ds) s.h v h'
  | _ => False
/-- The results are there. -/
def RE0 (h : List Blk) (ds : Option (List DV)) (h1 : List Blk) (v : DV) (h' : List Blk) : Prop := ∃ l, ds = some l ∧ WkV h (mkRes l) h1 v h'
theorem RR0_nrm {h : List Blk} {rs : List DR} {v : DV} {h' : List Blk} {t : List DV} {h1 : List Blk} : RR0 h rs v h' .nrm ⟨t, h1⟩ = RE0 h (resD h1 t rs) h1 v h' := nd rfl
theorem RR0_ret {h : List Blk} {rs : List DR} {v : DV} {h' : List Blk} {t : List DV} {h1 : List Blk} : RR0 h rs v h' .ret ⟨t, h1⟩ = RE0 h (resD h1 t rs) h1 v h' := nd rfl
theorem RE0_some {h : List Blk} {l : List DV} {h1 : List Blk} {v : DV} {h' : List Blk} : RE0 h (some l) h1 v h' = WkV h (mkRes l) h1 v h' := by simp [RE0]
theorem RE0_same {h : List Blk} {v : DV} : WkV h v h v h = True := eq_true WkV.refl

theorem Ok_by0 {V : List Nat} {P : Program} {G : Nat → DV} {f : FuncId} {fn : Func} {d : DC} {rs : List DR} (hf : P.funcs[f]? = some fn) (hc : fn.body.bind (cCodeV V P) = some d) (hrs : cRes P fn.results.toList = some rs) {args : List DV} {h : List Blk} {v : DV} {h' : List Blk} (n : Nat) (hn : fn.ntmps = args.length + n)
    (H : VV0 P G h d ⟨args ++ List.replicate n .any, h⟩ [] (RR0 h rs v h')) : Ok P G f args h v h' := by
  refine Ok_of_code hf hc hrs n hn (vc_mono d (fun x s hx => ?_) H)
  cases x <;> exact hx

@[simp] theorem ev_t {G : Nat → DV} {t : List DV} {n : Nat} : Opd.ev G t (.t n) = gS t n := gS_eq t n
@[simp] theorem ev_c {G : Nat → DV} {t : List DV} {v : DV} : Opd.ev G t (.c v) = v := nd rfl
@[simp] theorem ev_g {G : Nat → DV} {t : List DV} {n : Nat} : Opd.ev G t (.g n) = G n := nd rfl
@[simp] theorem resD_nil {h : List Blk} {t : List DV} : resD h t [] = some [] := nd rfl
@[simp] theorem resD_tmp {h : List Blk} {t : List DV} {n : Nat} {l : List DR} : resD h t (.tmp n :: l) = (resD h t l).map (gS t n :: ·) := by rw [← gS_eq]; rfl
@[simp] theorem resD_cell {h : List Blk} {t : List DV} {a : Nat} {g : Bool} {sz : Nat} {l : List DR} : resD h t (.cell a g sz :: l) = match gS t a, resD h t l with
    | .ptr b i o x, some r => match h[b]? with
      | some (.cells bsz els) => if x = els.length ∧ o + sz ≤ bsz then some (sub (els.getD i .any) o sz g :: r) else none
      | _ => none
    | _, _ => none := by rw [← gS_eq]; exact nd rfl

/-- The same, but for the kernel: nothing here unfolds. -/
structure KON (P : Program) (G : Nat → DV) (n : List Blk) (st : List Fr) (Q : DX → St → Prop) (x : DX) (s : St) : Prop where
  out : kon0 P G n st Q x s
structure VV (P : Program) (G : Nat → DV) (n : List Blk) (c : DC) (s : St) (st : List Fr) (Q : DX → St → Prop) : Prop where
  out : VV0 P G n c s st Q
structure LL (P : Program) (G : Nat → DV) (n : List Blk) (ops : List DOper) (t : List DV) (h : List Blk) (st : List Fr) (Q : DX → St → Prop) : Prop where
  out : LL0 P G n ops t h st Q
structure KK (P : Program) (G : Nat → DV) (n : List Blk) (dst : Option Nat) (l : List DOper) (t : List DV) (st : List Fr) (Q : DX → St → Prop) (v : DV) (h : List Blk) : Prop where
  out : KK0 P G n dst l t st Q v h
structure CC (P : Program) (G : Nat → DV) (n : List Blk) (d : DV) (a b : DC) (s : St) (st : List Fr) (Q : DX → St → Prop) : Prop where
  out : CC0 P G n d a b s st Q
structure GG (P : Program) (G : Nat → DV) (n : List Blk) (d : DV) (want : Bool) (dst : Option Nat) (op : DO) (l : List DOper) (t : List DV) (h : List Blk) (st : List Fr) (Q : DX → St → Prop) : Prop where
  out : GG0 P G n d want dst op l t h st Q
structure PP (P : Program) (G : Nat → DV) (n : List Blk) (d a b : DV) (dst : Option Nat) (l : List DOper) (t : List DV) (h : List Blk) (st : List Fr) (Q : DX → St → Prop) : Prop where
  out : PP0 P G n d a b dst l t h st Q
structure FF (P : Program) (G : Nat → DV) (n : List Blk) (f : FuncId) (args : List DV) (dst : Option Nat) (l : List DOper) (t : List DV) (h : List Blk) (st : List Fr) (Q : DX → St → Prop) : Prop where
  out : FF0 P G n f args dst l t h st Q
/-- An append, its slices there. -/
structure AA (P : Program) (G : Nat → DV) (n : List Blk) (sz bytes : Nat) (dx dy : DV) (dst : Option Nat) (l : List DOper) (t : List DV) (h : List Blk) (st : List Fr) (Q : DX → St → Prop) : Prop where
  out : vcO P G (.app sz bytes (.c dx) (.c dy)) (Opd.ev G []) h (KK P G n dst l t st Q)
/-- A new slice, its length and its capacity there. -/
structure MK (P : Program) (G : Nat → DV) (n : List Blk) (g : Bool) (sz bytes : Nat) (zero dx dy : DV) (dst : Option Nat) (l : List DOper) (t : List DV) (h : List Blk) (st : List Fr) (Q : DX → St → Prop) : Prop where
  out : vcO P G (.mks g sz bytes zero (.c dx) (.c dy)) (Opd.ev G []) h (KK P G n dst l t st Q)
/-- A call of a function's value. -/
structure CV (P : Program) (G : Nat → DV) (n : List Blk) (x : DV) (args : List DV) (dst : Option Nat) (l : List DOper) (t : List DV) (h : List Blk) (st : List Fr) (Q : DX → St → Prop) : Prop where
  out : match x with | .fn (.func f) first cap => cFunc P f = true ∧ FF0 P G n f (first ++ args ++ cap) dst l t h st Q | _ => False
/-- A call of a method. -/
structure IV (P : Program) (G : Nat → DV) (n : List Blk) (name : String) (x : DV) (args : List DV) (dst : Option Nat) (l : List DOper) (t : List DV) (h : List Blk) (st : List Fr) (Q : DX → St → Prop) : Prop where
  out : match x with | .iface ty d => (match methOf P ty name with | some f => cFunc P f = true ∧ FF0 P G n f (d :: args) dst l t h st Q | none => False) | _ => False
structure RR (h : List Blk) (rs : List DR) (v : DV) (h' : List Blk) (x : DX) (s : St) : Prop where
  out : RR0 h rs v h' x s
structure RE (h : List Blk) (ds : Option (List DV)) (h1 : List Blk) (v : DV) (h' : List Blk) : Prop where
  out : RE0 h ds h1 v h'
theorem KON_e : @KON = @kon0 := by
  funext P G n st Q x s
  exact propext ⟨fun x => x.out, fun x => ⟨x⟩⟩
theorem VV_e : @VV = @VV0 := by
  funext P G n c s st Q
  exact propext ⟨fun x => x.out, fun x => ⟨x⟩⟩
theorem LL_e : @LL = @LL0 := by
  funext P G n ops t h st Q
  exact propext ⟨fun x => x.out, fun x => ⟨x⟩⟩
theorem KK_e : @KK = @KK0 := by
  funext P G n dst l t st Q v h
  exact propext ⟨fun x => x.out, fun x => ⟨x⟩⟩
theorem CC_e : @CC = @CC0 := by
  funext P G n d a b s st Q
  exact propext ⟨fun x => x.out, fun x => ⟨x⟩⟩
theorem GG_e : @GG = @GG0 := by
  funext P G n d want dst op l t h st Q
  exact propext ⟨fun x => x.out, fun x => ⟨x⟩⟩
theorem PP_e : @PP = @PP0 := by
  funext P G n d a b dst l t h st Q
  exact propext ⟨fun x => x.out, fun x => ⟨x⟩⟩
theorem FF_e : @FF = @FF0 := by
  funext P G n f args dst l t h st Q
  exact propext ⟨fun x => x.out, fun x => ⟨x⟩⟩
theorem RR_e : @RR = @RR0 := by
  funext h rs v h1 x s
  exact propext ⟨fun x => x.out, fun x => ⟨x⟩⟩
theorem RE_e : @RE = @RE0 := by
  funext h ds h1 v h2
  exact propext ⟨fun x => x.out, fun x => ⟨x⟩⟩

section
variable {P : Program} {G : Nat → DV} {n : List Blk} {Q : DX → St → Prop} {s s' : St} {st : List Fr} {l : List DOper} {t : List DV} {h : List Blk} {dst : Option Nat} {v : DV}
@[simp] theorem KON_nil {x : DX} : KON P G n [] Q x s = Q x s := by
  simp only [KON_e, VV_e, LL_e, KK_e, CC_e, GG_e, PP_e, FF_e, RR_e, RE_e]
  exact kon0_nil
@[simp] theorem KON_seq_nrm {b : DC} : KON P G n (.seq b :: st) Q .nrm s = VV P G n b s st Q := by
  simp only [KON_e, VV_e, LL_e, KK_e, CC_e, GG_e, PP_e, FF_e, RR_e, RE_e]
  exact kon0_seq_nrm
@[simp] theorem KON_seq_ret {b : DC} : KON P G n (.seq b :: st) Q .ret s = KON P G n st Q .ret s := by
  simp only [KON_e, VV_e, LL_e, KK_e, CC_e, GG_e, PP_e, FF_e, RR_e, RE_e]
  exact kon0_seq_ret
@[simp] theorem KON_seq_ext {b : DC} {i : Nat} : KON P G n (.seq b :: st) Q (.ext i) s = KON P G n st Q (.ext i) s := by
  simp only [KON_e, VV_e, LL_e, KK_e, CC_e, GG_e, PP_e, FF_e, RR_e, RE_e]
  exact kon0_seq_ext
@[simp] theorem KON_blk_nrm {i : Nat} : KON P G n (.blk i :: st) Q .nrm s = KON P G n st Q .nrm s := by
  simp only [KON_e, VV_e, LL_e, KK_e, CC_e, GG_e, PP_e, FF_e, RR_e, RE_e]
  exact kon0_blk_nrm
@[simp] theorem KON_blk_ret {i : Nat} : KON P G n (.blk i :: st) Q .ret s = KON P G n st Q .ret s := by
  simp only [KON_e, VV_e, LL_e, KK_e, CC_e, GG_e, PP_e, FF_e, RR_e, RE_e]
  exact kon0_blk_ret
@[simp] theorem KON_blk_same {i : Nat} : KON P G n (.blk i :: st) Q (.ext i) s = KON P G n st Q .nrm s := by
  simp only [KON_e, VV_e, LL_e, KK_e, CC_e, GG_e, PP_e, FF_e, RR_e, RE_e]
  exact kon0_blk_same
theorem KON_blk_ext {i j : Nat} (hij : j ≠ i) : KON P G n (.blk i :: st) Q (.ext j) s = KON P G n st Q (.ext j) s := by
  simp only [KON_e, VV_e, LL_e, KK_e, CC_e, GG_e, PP_e, FF_e, RR_e, RE_e]
  exact kon0_blk_ext hij
@[simp] theorem VV_skip : VV P G n .skip s st Q = KON P G n st Q .nrm s := by
  simp only [KON_e, VV_e, LL_e, KK_e, CC_e, GG_e, PP_e, FF_e, RR_e, RE_e]
  exact VV0_skip
@[simp] theorem VV_rg {ops : List DOper} : VV P G n (.rg ops) ⟨t, h⟩ st Q = LL P G n ops t h st Q := by
  simp only [KON_e, VV_e, LL_e, KK_e, CC_e, GG_e, PP_e, FF_e, RR_e, RE_e]
  exact VV0_rg
@[simp] theorem VV_seq {a b : DC} : VV P G n (.seq a b) s st Q = VV P G n a s (.seq b :: st) Q := by
  simp only [KON_e, VV_e, LL_e, KK_e, CC_e, GG_e, PP_e, FF_e, RR_e, RE_e]
  exact VV0_seq
@[simp] theorem VV_cond {c : Opd} {a b : DC} : VV P G n (.cond c a b) ⟨t, h⟩ st Q = CC P G n (c.ev G t) a b ⟨t, h⟩ st Q := by
  simp only [KON_e, VV_e, LL_e, KK_e, CC_e, GG_e, PP_e, FF_e, RR_e, RE_e]
  exact VV0_cond
@[simp] theorem VV_block {id : Nat} {a : DC} : VV P G n (.block id a) s st Q = VV P G n a s (.blk id :: st) Q := by
  simp only [KON_e, VV_e, LL_e, KK_e, CC_e, GG_e, PP_e, FF_e, RR_e, RE_e]
  exact VV0_block
@[simp] theorem VV_exit {id : Nat} : VV P G n (.exit id) s st Q = KON P G n st Q (.ext id) s := by
  simp only [KON_e, VV_e, LL_e, KK_e, CC_e, GG_e, PP_e, FF_e, RR_e, RE_e]
  exact VV0_exit
@[simp] theorem VV_ret : VV P G n .ret s st Q = KON P G n st Q .ret s := by
  simp only [KON_e, VV_e, LL_e, KK_e, CC_e, GG_e, PP_e, FF_e, RR_e, RE_e]
  exact VV0_ret
@[simp] theorem CC_true {a b : DC} : CC P G n (.p (.bool true)) a b s st Q = VV P G n a s st Q := by
  simp only [KON_e, VV_e, LL_e, KK_e, CC_e, GG_e, PP_e, FF_e, RR_e, RE_e]
  exact CC0_true
@[simp] theorem CC_false {a b : DC} : CC P G n (.p (.bool false)) a b s st Q = VV P G n b s st Q := by
  simp only [KON_e, VV_e, LL_e, KK_e, CC_e, GG_e, PP_e, FF_e, RR_e, RE_e]
  exact CC0_false
@[simp] theorem KK_none : KK P G n none l t st Q v h = LL P G n l t h st Q := by
  simp only [KON_e, VV_e, LL_e, KK_e, CC_e, GG_e, PP_e, FF_e, RR_e, RE_e]
  exact KK0_none
@[simp] theorem KK_some {d : Nat} : KK P G n (some d) l t st Q v h = LL P G n l (sS t d v) h st Q := by
  simp only [KON_e, VV_e, LL_e, KK_e, CC_e, GG_e, PP_e, FF_e, RR_e, RE_e]
  exact KK0_some
@[simp] theorem GG_pos {op : DO} {want : Bool} : GG P G n (.p (.bool want)) want dst op l t h st Q = LL P G n (⟨dst, op, none⟩ :: l) t h st Q := by
  simp only [KON_e, VV_e, LL_e, KK_e, CC_e, GG_e, PP_e, FF_e, RR_e, RE_e]
  exact GG0_pos
@[simp] theorem GG_un {op : DO} {want : Bool} : GG P G n (.tup []) want dst op l t h st Q = KK P G n dst l t st Q (.tup []) h := by
  simp only [KON_e, VV_e, LL_e, KK_e, CC_e, GG_e, PP_e, FF_e, RR_e, RE_e]
  exact GG0_un
@[simp] theorem GG_tf {op : DO} : GG P G n (.p (.bool true)) false dst op l t h st Q = KK P G n dst l t st Q (.tup []) h := by
  simp only [KON_e, VV_e, LL_e, KK_e, CC_e, GG_e, PP_e, FF_e, RR_e, RE_e]
  exact GG0_tf
@[simp] theorem GG_ft {op : DO} : GG P G n (.p (.bool false)) true dst op l t h st Q = KK P G n dst l t st Q (.tup []) h := by
  simp only [KON_e, VV_e, LL_e, KK_e, CC_e, GG_e, PP_e, FF_e, RR_e, RE_e]
  exact GG0_ft
@[simp] theorem PP_true {a b : DV} : PP P G n (.p (.bool true)) a b dst l t h st Q = KK P G n dst l t st Q a h := by
  simp only [KON_e, VV_e, LL_e, KK_e, CC_e, GG_e, PP_e, FF_e, RR_e, RE_e]
  exact PP0_true
@[simp] theorem PP_false {a b : DV} : PP P G n (.p (.bool false)) a b dst l t h st Q = KK P G n dst l t st Q b h := by
  simp only [KON_e, VV_e, LL_e, KK_e, CC_e, GG_e, PP_e, FF_e, RR_e, RE_e]
  exact PP0_false
@[simp] theorem LL_nil : LL P G n [] t h st Q = KON P G n st Q .nrm ⟨t, h⟩ := by
  simp only [KON_e, VV_e, LL_e, KK_e, CC_e, GG_e, PP_e, FF_e, RR_e, RE_e]
  exact LL0_nil
@[simp] theorem LL_guard {g : Nat} {want : Bool} {op : DO} : LL P G n (⟨dst, op, some (g, want)⟩ :: l) t h st Q = GG P G n (gS t g) want dst op l t h st Q := by
  simp only [KON_e, VV_e, LL_e, KK_e, CC_e, GG_e, PP_e, FF_e, RR_e, RE_e]
  exact LL0_guard
theorem LL_step {op : DO} : LL P G n (⟨dst, op, none⟩ :: l) t h st Q = vcO P G op (Opd.ev G t) h (KK P G n dst l t st Q) := by
  simp only [KON_e, VV_e, LL_e, KK_e, CC_e, GG_e, PP_e, FF_e, RR_e, RE_e]
  exact LL0_step
@[simp] theorem LL_pick {c a b : Opd} : LL P G n (⟨dst, .pick c a b, none⟩ :: l) t h st Q = PP P G n (c.ev G t) (a.ev G t) (b.ev G t) dst l t h st Q := by
  simp only [KON_e, VV_e, LL_e, KK_e, CC_e, GG_e, PP_e, FF_e, RR_e, RE_e]
  exact LL0_pick
@[simp] theorem LL_call {f : FuncId} {args : List Opd} : LL P G n (⟨dst, .callr f args, none⟩ :: l) t h st Q = FF P G n f (args.map (Opd.ev G t)) dst l t h st Q := by
  simp only [KON_e, VV_e, LL_e, KK_e, CC_e, GG_e, PP_e, FF_e, RR_e, RE_e]
  exact LL0_call
@[simp] theorem LL_slca {um usz ug ux ulo uhi} : LL P G n (⟨dst, .slca um usz ug ux ulo uhi, none⟩ :: l) t h st Q = vcO P G (.slca um usz ug ux ulo uhi) (Opd.ev G t) h (KK P G n dst l t st Q) := LL_step
@[simp] theorem LL_stop : LL P G n (⟨dst, .stop, none⟩ :: l) t h st Q = False := LL_step
@[simp] theorem LL_bin {uop ux uy} : LL P G n (⟨dst, .bin uop ux uy, none⟩ :: l) t h st Q = vcO P G (.bin uop ux uy) (Opd.ev G t) h (KK P G n dst l t st Q) := by
  simp only [KON_e, VV_e, LL_e, KK_e, CC_e, GG_e, PP_e, FF_e, RR_e, RE_e]
  exact LL0_bin
@[simp] theorem LL_eqb {uneg ux uy} : LL P G n (⟨dst, .eqb uneg ux uy, none⟩ :: l) t h st Q = vcO P G (.eqb uneg ux uy) (Opd.ev G t) h (KK P G n dst l t st Q) := by
  simp only [KON_e, VV_e, LL_e, KK_e, CC_e, GG_e, PP_e, FF_e, RR_e, RE_e]
  exact LL0_eqb
@[simp] theorem LL_eqn {uneg uk ux} : LL P G n (⟨dst, .eqn uneg uk ux, none⟩ :: l) t h st Q = vcO P G (.eqn uneg uk ux) (Opd.ev G t) h (KK P G n dst l t st Q) := by
  simp only [KON_e, VV_e, LL_e, KK_e, CC_e, GG_e, PP_e, FF_e, RR_e, RE_e]
  exact LL0_eqn
@[simp] theorem LL_eqp {uneg ux uy} : LL P G n (⟨dst, .eqp uneg ux uy, none⟩ :: l) t h st Q = vcO P G (.eqp uneg ux uy) (Opd.ev G t) h (KK P G n dst l t st Q) := by
  simp only [KON_e, VV_e, LL_e, KK_e, CC_e, GG_e, PP_e, FF_e, RR_e, RE_e]
  exact LL0_eqp
@[simp] theorem LL_eqi {uneg ux uy} : LL P G n (⟨dst, .eqi uneg ux uy, none⟩ :: l) t h st Q = vcO P G (.eqi uneg ux uy) (Opd.ev G t) h (KK P G n dst l t st Q) := by
  simp only [KON_e, VV_e, LL_e, KK_e, CC_e, GG_e, PP_e, FF_e, RR_e, RE_e]
  exact LL0_eqi
@[simp] theorem LL_eqs {uneg uks ux uy} : LL P G n (⟨dst, .eqs uneg uks ux uy, none⟩ :: l) t h st Q = vcO P G (.eqs uneg uks ux uy) (Opd.ev G t) h (KK P G n dst l t st Q) := by
  simp only [KON_e, VV_e, LL_e, KK_e, CC_e, GG_e, PP_e, FF_e, RR_e, RE_e]
  exact LL0_eqs
@[simp] theorem LL_un {uop ux} : LL P G n (⟨dst, .un uop ux, none⟩ :: l) t h st Q = vcO P G (.un uop ux) (Opd.ev G t) h (KK P G n dst l t st Q) := by
  simp only [KON_e, VV_e, LL_e, KK_e, CC_e, GG_e, PP_e, FF_e, RR_e, RE_e]
  exact LL0_un
@[simp] theorem LL_cint {uk ux} : LL P G n (⟨dst, .cint uk ux, none⟩ :: l) t h st Q = vcO P G (.cint uk ux) (Opd.ev G t) h (KK P G n dst l t st Q) := by
  simp only [KON_e, VV_e, LL_e, KK_e, CC_e, GG_e, PP_e, FF_e, RR_e, RE_e]
  exact LL0_cint
@[simp] theorem LL_cstr {ux} : LL P G n (⟨dst, .cstr ux, none⟩ :: l) t h st Q = vcO P G (.cstr ux) (Opd.ev G t) h (KK P G n dst l t st Q) := by
  simp only [KON_e, VV_e, LL_e, KK_e, CC_e, GG_e, PP_e, FF_e, RR_e, RE_e]
  exact LL0_cstr
@[simp] theorem LL_b2s {ux} : LL P G n (⟨dst, .b2s ux, none⟩ :: l) t h st Q = vcO P G (.b2s ux) (Opd.ev G t) h (KK P G n dst l t st Q) := by
  simp only [KON_e, VV_e, LL_e, KK_e, CC_e, GG_e, PP_e, FF_e, RR_e, RE_e]
  exact LL0_b2s
@[simp] theorem LL_s2b {ux} : LL P G n (⟨dst, .s2b ux, none⟩ :: l) t h st Q = vcO P G (.s2b ux) (Opd.ev G t) h (KK P G n dst l t st Q) := by
  simp only [KON_e, VV_e, LL_e, KK_e, CC_e, GG_e, PP_e, FF_e, RR_e, RE_e]
  exact LL0_s2b
@[simp] theorem LL_s2bl {ux} : LL P G n (⟨dst, .s2bl ux, none⟩ :: l) t h st Q = vcO P G (.s2bl ux) (Opd.ev G t) h (KK P G n dst l t st Q) := by
  simp only [KON_e, VV_e, LL_e, KK_e, CC_e, GG_e, PP_e, FF_e, RR_e, RE_e]
  exact LL0_s2bl
@[simp] theorem LL_lens {ux} : LL P G n (⟨dst, .lens ux, none⟩ :: l) t h st Q = vcO P G (.lens ux) (Opd.ev G t) h (KK P G n dst l t st Q) := by
  simp only [KON_e, VV_e, LL_e, KK_e, CC_e, GG_e, PP_e, FF_e, RR_e, RE_e]
  exact LL0_lens
@[simp] theorem LL_lenl {ux} : LL P G n (⟨dst, .lenl ux, none⟩ :: l) t h st Q = vcO P G (.lenl ux) (Opd.ev G t) h (KK P G n dst l t st Q) := by
  simp only [KON_e, VV_e, LL_e, KK_e, CC_e, GG_e, PP_e, FF_e, RR_e, RE_e]
  exact LL0_lenl
@[simp] theorem LL_lenm {ux} : LL P G n (⟨dst, .lenm ux, none⟩ :: l) t h st Q = vcO P G (.lenm ux) (Opd.ev G t) h (KK P G n dst l t st Q) := by
  simp only [KON_e, VV_e, LL_e, KK_e, CC_e, GG_e, PP_e, FF_e, RR_e, RE_e]
  exact LL0_lenm
@[simp] theorem LL_mm {umx ux uy} : LL P G n (⟨dst, .mm umx ux uy, none⟩ :: l) t h st Q = vcO P G (.mm umx ux uy) (Opd.ev G t) h (KK P G n dst l t st Q) := by
  simp only [KON_e, VV_e, LL_e, KK_e, CC_e, GG_e, PP_e, FF_e, RR_e, RE_e]
  exact LL0_mm
@[simp] theorem LL_slcs {ux ulo uhi} : LL P G n (⟨dst, .slcs ux ulo uhi, none⟩ :: l) t h st Q = vcO P G (.slcs ux ulo uhi) (Opd.ev G t) h (KK P G n dst l t st Q) := by
  simp only [KON_e, VV_e, LL_e, KK_e, CC_e, GG_e, PP_e, FF_e, RR_e, RE_e]
  exact LL0_slcs
@[simp] theorem LL_slcl {usz ux ulo uhi} : LL P G n (⟨dst, .slcl usz ux ulo uhi, none⟩ :: l) t h st Q = vcO P G (.slcl usz ux ulo uhi) (Opd.ev G t) h (KK P G n dst l t st Q) := by
  simp only [KON_e, VV_e, LL_e, KK_e, CC_e, GG_e, PP_e, FF_e, RR_e, RE_e]
  exact LL0_slcl
@[simp] theorem LL_idxs {ux ui} : LL P G n (⟨dst, .idxs ux ui, none⟩ :: l) t h st Q = vcO P G (.idxs ux ui) (Opd.ev G t) h (KK P G n dst l t st Q) := by
  simp only [KON_e, VV_e, LL_e, KK_e, CC_e, GG_e, PP_e, FF_e, RR_e, RE_e]
  exact LL0_idxs
@[simp] theorem LL_idxa {um usz ug ux ui} : LL P G n (⟨dst, .idxa um usz ug ux ui, none⟩ :: l) t h st Q = vcO P G (.idxa um usz ug ux ui) (Opd.ev G t) h (KK P G n dst l t st Q) := by
  simp only [KON_e, VV_e, LL_e, KK_e, CC_e, GG_e, PP_e, FF_e, RR_e, RE_e]
  exact LL0_idxa
@[simp] theorem LL_fld {uo usz ug ux} : LL P G n (⟨dst, .fld uo usz ug ux, none⟩ :: l) t h st Q = vcO P G (.fld uo usz ug ux) (Opd.ev G t) h (KK P G n dst l t st Q) := by
  simp only [KON_e, VV_e, LL_e, KK_e, CC_e, GG_e, PP_e, FF_e, RR_e, RE_e]
  exact LL0_fld
@[simp] theorem LL_litz {usz uels} : LL P G n (⟨dst, .litz usz uels, none⟩ :: l) t h st Q = vcO P G (.litz usz uels) (Opd.ev G t) h (KK P G n dst l t st Q) := by
  simp only [KON_e, VV_e, LL_e, KK_e, CC_e, GG_e, PP_e, FF_e, RR_e, RE_e]
  exact LL0_litz
@[simp] theorem LL_bld {uzero uparts} : LL P G n (⟨dst, .bld uzero uparts, none⟩ :: l) t h st Q = vcO P G (.bld uzero uparts) (Opd.ev G t) h (KK P G n dst l t st Q) := by
  simp only [KON_e, VV_e, LL_e, KK_e, CC_e, GG_e, PP_e, FF_e, RR_e, RE_e]
  exact LL0_bld
@[simp] theorem LL_lit {usz uels} : LL P G n (⟨dst, .lit usz uels, none⟩ :: l) t h st Q = vcO P G (.lit usz uels) (Opd.ev G t) h (KK P G n dst l t st Q) := by
  simp only [KON_e, VV_e, LL_e, KK_e, CC_e, GG_e, PP_e, FF_e, RR_e, RE_e]
  exact LL0_lit
@[simp] theorem LL_alloc {usz uzero} : LL P G n (⟨dst, .alloc usz uzero, none⟩ :: l) t h st Q = vcO P G (.alloc usz uzero) (Opd.ev G t) h (KK P G n dst l t st Q) := by
  simp only [KON_e, VV_e, LL_e, KK_e, CC_e, GG_e, PP_e, FF_e, RR_e, RE_e]
  exact LL0_alloc
@[simp] theorem LL_box {ux} : LL P G n (⟨dst, .box ux, none⟩ :: l) t h st Q = vcO P G (.box ux) (Opd.ev G t) h (KK P G n dst l t st Q) := by
  simp only [KON_e, VV_e, LL_e, KK_e, CC_e, GG_e, PP_e, FF_e, RR_e, RE_e]
  exact LL0_box
@[simp] theorem LL_load {ug usz ua} : LL P G n (⟨dst, .load ug usz ua, none⟩ :: l) t h st Q = vcO P G (.load ug usz ua) (Opd.ev G t) h (KK P G n dst l t st Q) := by
  simp only [KON_e, VV_e, LL_e, KK_e, CC_e, GG_e, PP_e, FF_e, RR_e, RE_e]
  exact LL0_load
@[simp] theorem LL_store {usz ua ux} : LL P G n (⟨dst, .store usz ua ux, none⟩ :: l) t h st Q = vcO P G (.store usz ua ux) (Opd.ev G t) h (KK P G n dst l t st Q) := by
  simp only [KON_e, VV_e, LL_e, KK_e, CC_e, GG_e, PP_e, FF_e, RR_e, RE_e]
  exact LL0_store
@[simp] theorem LL_nilchk {uk ux} : LL P G n (⟨dst, .nilchk uk ux, none⟩ :: l) t h st Q = vcO P G (.nilchk uk ux) (Opd.ev G t) h (KK P G n dst l t st Q) := by
  simp only [KON_e, VV_e, LL_e, KK_e, CC_e, GG_e, PP_e, FF_e, RR_e, RE_e]
  exact LL0_nilchk
@[simp] theorem LL_faddr {ug uo usz ua} : LL P G n (⟨dst, .faddr ug uo usz ua, none⟩ :: l) t h st Q = vcO P G (.faddr ug uo usz ua) (Opd.ev G t) h (KK P G n dst l t st Q) := by
  simp only [KON_e, VV_e, LL_e, KK_e, CC_e, GG_e, PP_e, FF_e, RR_e, RE_e]
  exact LL0_faddr
@[simp] theorem LL_iaddr {usz ux ui} : LL P G n (⟨dst, .iaddr usz ux ui, none⟩ :: l) t h st Q = vcO P G (.iaddr usz ux ui) (Opd.ev G t) h (KK P G n dst l t st Q) := by
  simp only [KON_e, VV_e, LL_e, KK_e, CC_e, GG_e, PP_e, FF_e, RR_e, RE_e]
  exact LL0_iaddr
@[simp] theorem LL_iaddra {um usz ug ux ui} : LL P G n (⟨dst, .iaddra um usz ug ux ui, none⟩ :: l) t h st Q = vcO P G (.iaddra um usz ug ux ui) (Opd.ev G t) h (KK P G n dst l t st Q) := by
  simp only [KON_e, VV_e, LL_e, KK_e, CC_e, GG_e, PP_e, FF_e, RR_e, RE_e]
  exact LL0_iaddra
@[simp] theorem LL_app {sz bytes : Nat} {x y : Opd} : LL P G n (⟨dst, .app sz bytes x y, none⟩ :: l) t h st Q = AA P G n sz bytes (x.ev G t) (y.ev G t) dst l t h st Q := by
  have h1 : LL P G n (⟨dst, .app sz bytes x y, none⟩ :: l) t h st Q = vcO P G (.app sz bytes x y) (Opd.ev G t) h (KK P G n dst l t st Q) := LL_step
  rw [h1]
  exact propext ⟨fun h => ⟨h⟩, fun h => h.out⟩
@[simp] theorem LL_capl {ux} : LL P G n (⟨dst, .capl ux, none⟩ :: l) t h st Q = vcO P G (.capl ux) (Opd.ev G t) h (KK P G n dst l t st Q) := LL_step
@[simp] theorem LL_cpy {usz ux uy} : LL P G n (⟨dst, .cpy usz ux uy, none⟩ :: l) t h st Q = vcO P G (.cpy usz ux uy) (Opd.ev G t) h (KK P G n dst l t st Q) := LL_step
@[simp] theorem LL_tas {ut uz uo ux} : LL P G n (⟨dst, .tas ut uz uo ux, none⟩ :: l) t h st Q = vcO P G (.tas ut uz uo ux) (Opd.ev G t) h (KK P G n dst l t st Q) := LL_step
@[simp] theorem LL_tai {ut uo ux} : LL P G n (⟨dst, .tai ut uo ux, none⟩ :: l) t h st Q = vcO P G (.tai ut uo ux) (Opd.ev G t) h (KK P G n dst l t st Q) := LL_step
@[simp] theorem LL_mkf {uf ua ub} : LL P G n (⟨dst, .mkf uf ua ub, none⟩ :: l) t h st Q = vcO P G (.mkf uf ua ub) (Opd.ev G t) h (KK P G n dst l t st Q) := LL_step
@[simp] theorem LL_mks {g : Bool} {sz bytes : Nat} {zero : DV} {x y : Opd} : LL P G n (⟨dst, .mks g sz bytes zero x y, none⟩ :: l) t h st Q = MK P G n g sz bytes zero (x.ev G t) (y.ev G t) dst l t h st Q := by
  have h1 : LL P G n (⟨dst, .mks g sz bytes zero x y, none⟩ :: l) t h st Q = vcO P G (.mks g sz bytes zero x y) (Opd.ev G t) h (KK P G n dst l t st Q) := LL_step
  rw [h1]
  exact propext ⟨fun h => ⟨h⟩, fun h => h.out⟩
/-- A slice that can be appended to. -/
theorem MK_sl {g : Bool} {sz bytes : Nat} {zero : DV} {k k' : IntKind} {a b : Int} (h0 : 0 ≤ a) (h1 : a ≤ b) (h2 : b * bytes ≤ 140737488355328) (hk : KK P G n dst l t st Q (.sl h.length 0 a.toNat a.toNat) (h ++ [.cells sz (List.replicate a.toNat zero)])) : MK P G n g sz bytes zero (.p (.int k a)) (.p (.int k' b)) dst l t h st Q :=
  ⟨⟨h0, h1, h2, .inl hk⟩⟩
/-- A slice whose capacity stays. -/
theorem MK_sa {g : Bool} {sz bytes : Nat} {zero : DV} {k k' : IntKind} {a b : Int} (hg : g = true ∨ sz = 1) (h0 : 0 ≤ a) (h1 : a ≤ b) (h2 : b * bytes ≤ 140737488355328) (hk : KK P G n dst l t st Q (.sa g sz h.length 0 0 a.toNat b.toNat 1) (h ++ [.cells (b.toNat * sz) [.agg (List.replicate b.toNat zero.cells).flatten]])) : MK P G n g sz bytes zero (.p (.int k a)) (.p (.int k' b)) dst l t h st Q :=
  ⟨⟨h0, h1, h2, .inr ⟨hg, hk⟩⟩⟩
@[simp] theorem LL_callv {x : Opd} {args : List Opd} : LL P G n (⟨dst, .callv true x args, none⟩ :: l) t h st Q = CV P G n (x.ev G t) (args.map (Opd.ev G t)) dst l t h st Q := by
  have h1 : LL P G n (⟨dst, .callv true x args, none⟩ :: l) t h st Q = vcO P G (.callv true x args) (Opd.ev G t) h (KK P G n dst l t st Q) := LL_step
  rw [h1]
  refine propext ⟨fun h => ⟨?_⟩, fun h => ?_⟩
  · simp only [vcO] at h
    split at h
    · rename_i f first cap hv
      rw [hv]
      obtain ⟨h1, R, h2, h3⟩ := h
      exact ⟨h1, R, h2, fun v h' hr => (h3 v h' hr).out⟩
    · exact h.elim
  · have := h.out
    simp only [vcO]
    split at this
    · rename_i f first cap hv
      rw [hv]
      obtain ⟨h1, R, h2, h3⟩ := this
      exact ⟨h1, R, h2, fun v h' hr => ⟨h3 v h' hr⟩⟩
    · exact this.elim
theorem CV_by {f : FuncId} {first cap args : List DV} (hf : cFunc P f = true) (hk : FF P G n f (first ++ args ++ cap) dst l t h st Q) : CV P G n (.fn (.func f) first cap) args dst l t h st Q := ⟨⟨hf, hk.out⟩⟩
@[simp] theorem LL_inv {name : String} {x : Opd} {args : List Opd} : LL P G n (⟨dst, .inv true name x args, none⟩ :: l) t h st Q = IV P G n name (x.ev G t) (args.map (Opd.ev G t)) dst l t h st Q := by
  have h1 : LL P G n (⟨dst, .inv true name x args, none⟩ :: l) t h st Q = vcO P G (.inv true name x args) (Opd.ev G t) h (KK P G n dst l t st Q) := LL_step
  rw [h1]
  refine propext ⟨fun h => ⟨?_⟩, fun h => ?_⟩
  · simp only [vcO] at h
    split at h
    · rename_i ty d hv
      rw [hv]
      split at h
      · rename_i f hm
        obtain ⟨h1, R, h2, h3⟩ := h
        simp only
        rw [hm]
        exact ⟨h1, R, h2, fun v h' hr => (h3 v h' hr).out⟩
      · exact h.elim
    · exact h.elim
  · have := h.out
    simp only [vcO]
    split at this
    · rename_i ty d hv
      rw [hv]
      split at this
      · rename_i f hm
        obtain ⟨h1, R, h2, h3⟩ := this
        simp only
        rw [hm]
        exact ⟨h1, R, h2, fun v h' hr => ⟨h3 v h' hr⟩⟩
      · exact this.elim
    · exact this.elim
theorem IV_by {name : String} {ty : TypeId} {f : FuncId} {d : DV} {args : List DV} (hm : methOf P ty name = some f) (hf : cFunc P f = true) (hk : FF P G n f (d :: args) dst l t h st Q) : IV P G n name (.iface ty d) args dst l t h st Q := ⟨by simp only; rw [hm]; exact ⟨hf, hk.out⟩⟩
@[simp] theorem LL_ext {ux ui} : LL P G n (⟨dst, .ext ux ui, none⟩ :: l) t h st Q = vcO P G (.ext ux ui) (Opd.ev G t) h (KK P G n dst l t st Q) := by
  simp only [KON_e, VV_e, LL_e, KK_e, CC_e, GG_e, PP_e, FF_e, RR_e, RE_e]
  exact LL0_ext
@[simp] theorem LL_ifc {ut ux} : LL P G n (⟨dst, .ifc ut ux, none⟩ :: l) t h st Q = vcO P G (.ifc ut ux) (Opd.ev G t) h (KK P G n dst l t st Q) := by
  simp only [KON_e, VV_e, LL_e, KK_e, CC_e, GG_e, PP_e, FF_e, RR_e, RE_e]
  exact LL0_ifc
@[simp] theorem LL_mov {ux} : LL P G n (⟨dst, .mov ux, none⟩ :: l) t h st Q = vcO P G (.mov ux) (Opd.ev G t) h (KK P G n dst l t st Q) := by
  simp only [KON_e, VV_e, LL_e, KK_e, CC_e, GG_e, PP_e, FF_e, RR_e, RE_e]
  exact LL0_mov
@[simp] theorem LL_mkmapr {ux} : LL P G n (⟨dst, .mkmapr ux, none⟩ :: l) t h st Q = vcO P G (.mkmapr ux) (Opd.ev G t) h (KK P G n dst l t st Q) := by
  simp only [KON_e, VV_e, LL_e, KK_e, CC_e, GG_e, PP_e, FF_e, RR_e, RE_e]
  exact LL0_mkmapr
@[simp] theorem LL_mkmap : LL P G n (⟨dst, .mkmap, none⟩ :: l) t h st Q = vcO P G .mkmap (Opd.ev G t) h (KK P G n dst l t st Q) := by
  simp only [KON_e, VV_e, LL_e, KK_e, CC_e, GG_e, PP_e, FF_e, RR_e, RE_e]
  exact LL0_mkmap
@[simp] theorem LL_rngs {ux} : LL P G n (⟨dst, .rngs ux, none⟩ :: l) t h st Q = vcO P G (.rngs ux) (Opd.ev G t) h (KK P G n dst l t st Q) := by
  simp only [KON_e, VV_e, LL_e, KK_e, CC_e, GG_e, PP_e, FF_e, RR_e, RE_e]
  exact LL0_rngs
@[simp] theorem LL_nxts {ua} : LL P G n (⟨dst, .nxts ua, none⟩ :: l) t h st Q = vcO P G (.nxts ua) (Opd.ev G t) h (KK P G n dst l t st Q) := by
  simp only [KON_e, VV_e, LL_e, KK_e, CC_e, GG_e, PP_e, FF_e, RR_e, RE_e]
  exact LL0_nxts
@[simp] theorem LL_rngm {ux} : LL P G n (⟨dst, .rngm ux, none⟩ :: l) t h st Q = vcO P G (.rngm ux) (Opd.ev G t) h (KK P G n dst l t st Q) := by
  simp only [KON_e, VV_e, LL_e, KK_e, CC_e, GG_e, PP_e, FF_e, RR_e, RE_e]
  exact LL0_rngm
@[simp] theorem LL_nxtm {ua} : LL P G n (⟨dst, .nxtm ua, none⟩ :: l) t h st Q = vcO P G (.nxtm ua) (Opd.ev G t) h (KK P G n dst l t st Q) := by
  simp only [KON_e, VV_e, LL_e, KK_e, CC_e, GG_e, PP_e, FF_e, RR_e, RE_e]
  exact LL0_nxtm
@[simp] theorem LL_ent {ua} : LL P G n (⟨dst, .ent ua, none⟩ :: l) t h st Q = vcO P G (.ent ua) (Opd.ev G t) h (KK P G n dst l t st Q) := by
  simp only [KON_e, VV_e, LL_e, KK_e, CC_e, GG_e, PP_e, FF_e, RR_e, RE_e]
  exact LL0_ent
@[simp] theorem LL_mupd {uck um uk ux} : LL P G n (⟨dst, .mupd uck um uk ux, none⟩ :: l) t h st Q = vcO P G (.mupd uck um uk ux) (Opd.ev G t) h (KK P G n dst l t st Q) := by
  simp only [KON_e, VV_e, LL_e, KK_e, CC_e, GG_e, PP_e, FF_e, RR_e, RE_e]
  exact LL0_mupd
@[simp] theorem LL_look {uck uzero uok um uk} : LL P G n (⟨dst, .look uck uzero uok um uk, none⟩ :: l) t h st Q = vcO P G (.look uck uzero uok um uk) (Opd.ev G t) h (KK P G n dst l t st Q) := by
  simp only [KON_e, VV_e, LL_e, KK_e, CC_e, GG_e, PP_e, FF_e, RR_e, RE_e]
  exact LL0_look
@[simp] theorem LL_mdel {uck um uk} : LL P G n (⟨dst, .mdel uck um uk, none⟩ :: l) t h st Q = vcO P G (.mdel uck um uk) (Opd.ev G t) h (KK P G n dst l t st Q) := by
  simp only [KON_e, VV_e, LL_e, KK_e, CC_e, GG_e, PP_e, FF_e, RR_e, RE_e]
  exact LL0_mdel
@[simp] theorem LL_clr {uz ux} : LL P G n (⟨dst, .clr uz ux, none⟩ :: l) t h st Q = vcO P G (.clr uz ux) (Opd.ev G t) h (KK P G n dst l t st Q) := by
  simp only [KON_e, VV_e, LL_e, KK_e, CC_e, GG_e, PP_e, FF_e, RR_e, RE_e]
  exact LL0_clr
theorem CC_by {x : Bool} {a b : DC} (h1 : x = true → VV P G n a s st Q) (h2 : x = false → VV P G n b s st Q) : CC P G n (.p (.bool x)) a b s st Q := by
  cases x
  · rw [CC_false]; exact h2 rfl
  · rw [CC_true]; exact h1 rfl
theorem GG_by {x : Bool} {op : DO} {want : Bool} (h1 : x = true → GG P G n (.p (.bool true)) want dst op l t h st Q) (h2 : x = false → GG P G n (.p (.bool false)) want dst op l t h st Q) : GG P G n (.p (.bool x)) want dst op l t h st Q := by
  cases x
  · exact h2 rfl
  · exact h1 rfl
theorem PP_by {x : Bool} {a b : DV} (h1 : x = true → KK P G n dst l t st Q a h) (h2 : x = false → KK P G n dst l t st Q b h) : PP P G n (.p (.bool x)) a b dst l t h st Q := by
  cases x
  · rw [PP_false]; exact h2 rfl
  · rw [PP_true]; exact h1 rfl
theorem FF_by {f : FuncId} {args : List DV} {v : DV} {h' : List Blk} (hf : Ok P G f args h v h') (hk : KK P G n dst l t st Q v h') : FF P G n f args dst l t h st Q := ⟨_, hf.toR, by rintro v1 h1 ⟨rfl, rfl⟩; exact hk.out⟩
theorem FF_byR {f : FuncId} {args : List DV} {R : DV → List Blk → Prop} (hf : OkR P G f args h R) (hk : ∀ v h', R v h' → KK P G n dst l t st Q v h') : FF P G n f args dst l t h st Q := ⟨_, hf, fun v h' hr => (hk v h' hr).out⟩
@[simp] theorem RR_nrm {h : List Blk} {rs : List DR} {v : DV} {h' : List Blk} {t : List DV} {h1 : List Blk} : RR h rs v h' .nrm ⟨t, h1⟩ = RE h (resD h1 t rs) h1 v h' := by
  rw [RR_e, RE_e]; exact RR0_nrm
@[simp] theorem RR_ret {h : List Blk} {rs : List DR} {v : DV} {h' : List Blk} {t : List DV} {h1 : List Blk} : RR h rs v h' .ret ⟨t, h1⟩ = RE h (resD h1 t rs) h1 v h' := by
  rw [RR_e, RE_e]; exact RR0_ret
@[simp] theorem RE_some {h : List Blk} {l : List DV} {h1 : List Blk} {v : DV} {h' : List Blk} : RE h (some l) h1 v h' = WkV h (mkRes l) h1 v h' := by
  rw [RE_e]; exact RE0_some
@[simp] theorem WkV_same {h : List Blk} {v : DV} : WkV h v h v h = True := eq_true WkV.refl
end

/-- A LOOP: what holds at its head; each exit goes on with what is still to be done, from a state that may say less. -/
theorem VV_loopW {P : Program} {G : Nat → DV} {n : List Blk} {Q : DX → St → Prop} {s : St} {st : List Fr} {a : DC} (I : St → Prop) (μ : St → Nat) (h0 : ∃ s', Wk G n s s' ∧ I s')
    (h1 : ∀ s, I s → ∀ B : DX → St → Prop, (∀ s1, (∃ s2, Wk G n s1 s2 ∧ I s2 ∧ μ s2 < μ s) → B .nrm s1) → (∀ i s1 s2, Wk G n s1 s2 → KON P G n st Q (.ext i) s2 → B (.ext i) s1) → (∀ s1, KON P G n st Q .ret s1 → B .ret s1) → VV P G n a s [] B) :
    VV P G n (.loop a) s st Q :=
  ⟨VV0_loop I μ h0 fun s hs B h1' h2' h3' => (h1 s hs B h1' (fun i s1 s2 hw h => h2' i s1 ⟨s2, hw, h.out⟩) (fun s1 h => h3' s1 h.out)).out⟩
/-- A LOOP: what holds at its head; each exit goes on with what is still to be done. -/
theorem VV_loop {P : Program} {G : Nat → DV} {n : List Blk} {Q : DX → St → Prop} {s : St} {st : List Fr} {a : DC} (I : St → Prop) (μ : St → Nat) (h0 : ∃ s', Wk G n s s' ∧ I s')
    (h1 : ∀ s, I s → ∀ B : DX → St → Prop, (∀ s1, (∃ s2, Wk G n s1 s2 ∧ I s2 ∧ μ s2 < μ s) → B .nrm s1) → (∀ i s1, KON P G n st Q (.ext i) s1 → B (.ext i) s1) → (∀ s1, KON P G n st Q .ret s1 → B .ret s1) → VV P G n a s [] B) :
    VV P G n (.loop a) s st Q :=
  VV_loopW I μ h0 fun s hs B h1' h2' h3' => h1 s hs B h1' (fun i s1 h => h2' i s1 s1 Wk.refl h) h3'


/-! Regions that are drawn. -/
def gH : List (List Blk) → Nat → List Blk
  | [], _ => []
  | d :: _, 0 => d
  | _ :: l, n + 1 => gH l n
theorem gH_eq : ∀ (l : List (List Blk)) (n : Nat), l.getD n [] = gH l n
  | [], _ => by simp [gH]
  | d :: _, 0 => rfl
  | _ :: l, n + 1 => by simpa [gH] using gH_eq l n
@[simp] theorem gH_0 {d : List Blk} {l : List (List Blk)} : gH (d :: l) 0 = d := nd rfl
@[simp] theorem gH_1 {d : List Blk} {l : List (List Blk)} {n : Nat} : gH (d :: l) (n + 1) = gH l n := nd rfl
@[simp] theorem HPre_same {h : List Blk} : HPre h h = True := eq_true (HPre.refl h)
@[simp] theorem HV_same {h : List Blk} : HV h h = True := eq_true (HV.refl h)
@[simp] theorem HV_app {h x : List Blk} : HV h (h ++ x) = True := eq_true (HPre.append h x).toV
@[simp] theorem HV_pre {h h' : List Blk} (hp : HPre h h') : HV h h' = True := eq_true hp.toV
@[simp] theorem HPre_app {h x : List Blk} : HPre h (h ++ x) = True := eq_true (HPre.append h x)

def sP (t : List DV) (dst : Option Nat) (v : DV) : List DV :=
  match dst with
  | some d => sS t d v
  | none => t
@[simp] theorem sP_none {t : List DV} {v : DV} : sP t none v = t := nd rfl
@[simp] theorem sP_some {t : List DV} {d : Nat} {v : DV} : sP t (some d) v = sS t d v := nd rfl
theorem putL_eq (t : List DV) (dst : Option Nat) (v : DV) : putL t dst v = sP t dst v := by
  cases dst with
  | none => rfl
  | some d => exact sS_eq t d v

structure DD (P : Program) (G : Nat → DV) (n : List Blk) (ops : List DDOp) (t : List DV) (Hs : List (List Blk)) (h : List Blk) (st : List Fr) (Q : DX → St → Prop) : Prop where
  out : vcD P G ops t Hs h fun t h => KON P G n st Q .nrm ⟨t, h⟩
/-- A light one's value is there. -/
structure DK (P : Program) (G : Nat → DV) (n : List Blk) (dst : Option Nat) (l : List DDOp) (t : List DV) (Hs : List (List Blk)) (h : List Blk) (st : List Fr) (Q : DX → St → Prop) (v : DV) (h1 : List Blk) : Prop where
  out : DD P G n l (sP t dst v) Hs h st Q
/-- A heavy one's value is there. -/
structure DH (P : Program) (G : Nat → DV) (n : List Blk) (dst : Option Nat) (fr : List Nat) (l : List DDOp) (t : List DV) (Hs : List (List Blk)) (h : List Blk) (st : List Fr) (Q : DX → St → Prop) (v : DV) (h1 : List Blk) : Prop where
  out : (∀ m, m ∈ fr → HV (Hs.getD m []) h1) ∧ DD P G n l (sP t dst v) (Hs ++ [h1]) h1 st Q
/-- A guard. -/
structure DG (P : Program) (G : Nat → DV) (n : List Blk) (d : DV) (want : Bool) (dst : Option Nat) (op : DO) (a : Nat) (fr : List Nat) (l : List DDOp) (t : List DV) (Hs : List (List Blk)) (h : List Blk) (st : List Fr) (Q : DX → St → Prop) : Prop where
  out : match d with | .p (.bool b) => if b = want then DD P G n (⟨⟨dst, op, none⟩, a, fr⟩ :: l) t Hs h st Q else DD P G n l (sP t dst (.tup [])) (if op.heavy = true then Hs ++ [h] else Hs) h st Q | .tup [] => DD P G n l (sP t dst (.tup [])) (if op.heavy = true then Hs ++ [h] else Hs) h st Q | _ => False
/-- One of two. -/
structure DP (P : Program) (G : Nat → DV) (n : List Blk) (d a b : DV) (dst : Option Nat) (l : List DDOp) (t : List DV) (Hs : List (List Blk)) (h : List Blk) (st : List Fr) (Q : DX → St → Prop) : Prop where
  out : match d with | .p (.bool c) => if c = true then DD P G n l (sP t dst a) Hs h st Q else DD P G n l (sP t dst b) Hs h st Q | _ => False
/-- An append, its slices there. -/
structure DA (P : Program) (G : Nat → DV) (n : List Blk) (sz bytes : Nat) (dx dy : DV) (dst : Option Nat) (fr : List Nat) (l : List DDOp) (t : List DV) (Hs : List (List Blk)) (h : List Blk) (st : List Fr) (Q : DX → St → Prop) : Prop where
  out : vcO P G (.app sz bytes (.c dx) (.c dy)) (Opd.ev G []) h (DH P G n dst fr l t Hs h st Q)
/-- A call. -/
structure DF (P : Program) (G : Nat → DV) (n : List Blk) (f : FuncId) (args : List DV) (dst : Option Nat) (fr : List Nat) (l : List DDOp) (t : List DV) (Hs : List (List Blk)) (h : List Blk) (st : List Fr) (Q : DX → St → Prop) : Prop where
  out : ∃ v h', Ok P G f args h v h' ∧ DH P G n dst fr l t Hs h st Q v h'
/-- A new slice. -/
structure DM (P : Program) (G : Nat → DV) (n : List Blk) (g : Bool) (sz bytes : Nat) (zero dx dy : DV) (dst : Option Nat) (fr : List Nat) (l : List DDOp) (t : List DV) (Hs : List (List Blk)) (h : List Blk) (st : List Fr) (Q : DX → St → Prop) : Prop where
  out : vcO P G (.mks g sz bytes zero (.c dx) (.c dy)) (Opd.ev G []) h (DH P G n dst fr l t Hs h st Q)
/-- A call of a function's value, of a method. -/
structure DCV (P : Program) (G : Nat → DV) (n : List Blk) (x : DV) (args : List DV) (dst : Option Nat) (fr : List Nat) (l : List DDOp) (t : List DV) (Hs : List (List Blk)) (h : List Blk) (st : List Fr) (Q : DX → St → Prop) : Prop where
  out : match x with | .fn (.func f) first cap => cFunc P f = true ∧ DF P G n f (first ++ args ++ cap) dst fr l t Hs h st Q | _ => False
structure DIV (P : Program) (G : Nat → DV) (n : List Blk) (name : String) (x : DV) (args : List DV) (dst : Option Nat) (fr : List Nat) (l : List DDOp) (t : List DV) (Hs : List (List Blk)) (h : List Blk) (st : List Fr) (Q : DX → St → Prop) : Prop where
  out : match x with | .iface ty d => (match methOf P ty name with | some f => cFunc P f = true ∧ DF P G n f (d :: args) dst fr l t Hs h st Q | none => False) | _ => False

section
variable {P : Program} {G : Nat → DV} {n : List Blk} {Q : DX → St → Prop} {s s' : St} {st : List Fr} {l : List DDOp} {t : List DV} {h h1 : List Blk} {Hs : List (List Blk)} {dst : Option Nat} {v : DV} {a : Nat} {fr : List Nat}
theorem eqO {A B : Prop} (h : A → B) (h' : B → A) : A = B := propext ⟨h, h'⟩
@[simp] theorem VV_rgd {ops : List DDOp} : VV P G n (.rgd ops) ⟨t, h⟩ st Q = DD P G n ops t [h] h st Q := by
  refine eqO (fun x => ⟨?_⟩) (fun x => ⟨?_⟩)
  · have := x.out
    rw [VV0, vc_rgd] at this
    exact vcD_mono (fun t h hk => ⟨hk⟩) _ _ _ _ this
  · rw [VV0, vc_rgd]
    exact vcD_mono (fun t h hk => hk.out) _ _ _ _ x.out
@[simp] theorem VV_rgm {nb : Nat} {al : Option Nat} {ops : List DDOp} : VV P G n (.rgm nb al ops) ⟨t, h⟩ st Q = (nb ≤ t.length ∧ DD P G n ops (putL t al .any) [h] h st Q) := by
  refine eqO (fun x => ?_) (fun x => ⟨?_⟩)
  · have := x.out
    rw [VV0, vc_rgm] at this
    exact ⟨this.1, ⟨vcD_mono (fun t h hk => ⟨hk⟩) _ _ _ _ this.2⟩⟩
  · rw [VV0, vc_rgm]
    exact ⟨x.1, vcD_mono (fun t h hk => hk.out) _ _ _ _ x.2.out⟩
/-- A region before which a part of the memory is hidden: what its lighter operations look at stands in hv. -/
theorem VV_rgv {ops : List DDOp} (hv : List Blk) (hw : HV hv h) (H : DD P G n ops t [hv] h st Q) : VV P G n (.rgv ops) ⟨t, h⟩ st Q := by
  refine ⟨?_⟩
  rw [VV0, vc_rgv]
  exact ⟨hv, hw, vcD_mono (fun t h hk => hk.out) _ _ _ _ H.out⟩
@[simp] theorem DD_nil : DD P G n [] t Hs h st Q = KON P G n st Q .nrm ⟨t, h⟩ := eqO (fun x => by have := x.out; rwa [vcD] at this) (fun x => ⟨by rwa [vcD]⟩)
@[simp] theorem DK_on : DK P G n dst l t Hs h st Q v h1 = DD P G n l (sP t dst v) Hs h st Q := eqO (fun x => x.out) (fun x => ⟨x⟩)
@[simp] theorem DH_nil : DH P G n dst [] l t Hs h st Q v h1 = DD P G n l (sP t dst v) (Hs ++ [h1]) h1 st Q := eqO (fun x => x.out.2) (fun x => ⟨by simp, x⟩)
@[simp] theorem DH_cons {m : Nat} : DH P G n dst (m :: fr) l t Hs h st Q v h1 = (HV (gH Hs m) h1 ∧ DH P G n dst fr l t Hs h st Q v h1) :=
  eqO (fun x => ⟨by rw [← gH_eq]; exact x.out.1 m (by simp), ⟨fun k hk => x.out.1 k (by simp [hk]), x.out.2⟩⟩) (fun x => ⟨fun k hk => by
    rcases List.mem_cons.1 hk with rfl | hk
    · rw [gH_eq]; exact x.1
    · exact x.2.out.1 k hk, x.2.out.2⟩)
theorem DH_iff : DH P G n dst fr l t Hs h st Q v h1 = ((∀ m, m ∈ fr → HV (Hs.getD m []) h1) ∧ DD P G n l (sP t dst v) (Hs ++ [h1]) h1 st Q) := eqO (fun x => x.out) (fun x => ⟨x⟩)
theorem vcO_iff {o : DO} {ev : Opd → DV} {K K' : DV → List Blk → Prop} (hK : ∀ v h, K v h ↔ K' v h) : vcO P G o ev h K = vcO P G o ev h K' := eqO (vcO_mono fun v h => (hK v h).1) (vcO_mono fun v h => (hK v h).2)
theorem DD_out {ops : List DDOp} : DD P G n ops t Hs h st Q = vcD P G ops t Hs h fun t h => KON P G n st Q .nrm ⟨t, h⟩ := eqO (fun x => x.out) (fun x => ⟨x⟩)
theorem DD_light {op : DO} (hh : op.heavy = false) : DD P G n (⟨⟨dst, op, none⟩, a, fr⟩ :: l) t Hs h st Q = vcO P G op (Opd.ev G t) (gH Hs a) (DK P G n dst l t Hs h st Q) := by
  rw [DD_out, vcD]
  simp only [stepD, hh, if_neg (show ¬ false = true by decide), gH_eq]
  exact vcO_iff fun v h1 => by rw [DK_on, DD_out, putL_eq]
theorem DD_heavy {op : DO} (hh : op.heavy = true) : DD P G n (⟨⟨dst, op, none⟩, a, fr⟩ :: l) t Hs h st Q = vcO P G op (Opd.ev G t) h (DH P G n dst fr l t Hs h st Q) := by
  rw [DD_out, vcD]
  simp only [stepD, hh, if_pos]
  exact vcO_iff fun v h1 => by
    rw [DH_iff, DD_out, putL_eq]
@[simp] theorem DD_guard {g : Nat} {want : Bool} {op : DO} : DD P G n (⟨⟨dst, op, some (g, want)⟩, a, fr⟩ :: l) t Hs h st Q = DG P G n (gS t g) want dst op a fr l t Hs h st Q := by
  rw [DD_out, vcD]
  simp only [gS_eq]
  refine eqO (fun x => ⟨?_⟩) (fun x => ?_)
  · split at x
    · rename_i b hb
      rw [hb]
      simp only
      by_cases hc : b = want
      · rw [if_pos hc] at x ⊢
        rw [DD_out, vcD]
        exact x
      · rw [if_neg hc] at x ⊢
        rw [DD_out, ← putL_eq]
        exact x
    · rename_i hb
      rw [hb]
      simp only
      rw [DD_out, ← putL_eq]
      exact x
    · exact x.elim
  · have y := x.out
    split at y
    · rename_i b hb
      rw [hb]
      simp only
      by_cases hc : b = want
      · rw [if_pos hc] at y ⊢
        rw [DD_out, vcD] at y
        exact y
      · rw [if_neg hc] at y ⊢
        rw [DD_out, ← putL_eq] at y
        exact y
    · rename_i hb
      rw [hb]
      simp only
      rw [DD_out, ← putL_eq] at y
      exact y
    · exact y.elim
@[simp] theorem DG_pos {op : DO} {want : Bool} : DG P G n (.p (.bool want)) want dst op a fr l t Hs h st Q = DD P G n (⟨⟨dst, op, none⟩, a, fr⟩ :: l) t Hs h st Q := eqO (fun x => by simpa only [if_pos] using x.out) (fun x => ⟨by simpa only [if_pos] using x⟩)
@[simp] theorem DG_un {op : DO} {want : Bool} : DG P G n (.tup []) want dst op a fr l t Hs h st Q = DD P G n l (sP t dst (.tup [])) (if op.heavy = true then Hs ++ [h] else Hs) h st Q := eqO (fun x => x.out) (fun x => ⟨x⟩)
@[simp] theorem DG_tf {op : DO} : DG P G n (.p (.bool true)) false dst op a fr l t Hs h st Q = DD P G n l (sP t dst (.tup [])) (if op.heavy = true then Hs ++ [h] else Hs) h st Q := eqO (fun x => x.out) (fun x => ⟨x⟩)
@[simp] theorem DG_ft {op : DO} : DG P G n (.p (.bool false)) true dst op a fr l t Hs h st Q = DD P G n l (sP t dst (.tup [])) (if op.heavy = true then Hs ++ [h] else Hs) h st Q := eqO (fun x => x.out) (fun x => ⟨x⟩)
@[simp] theorem DD_pick {c x y : Opd} : DD P G n (⟨⟨dst, .pick c x y, none⟩, a, fr⟩ :: l) t Hs h st Q = DP P G n (c.ev G t) (x.ev G t) (y.ev G t) dst l t Hs h st Q := by
  rw [DD_light rfl]
  refine eqO (fun z => ⟨?_⟩) (fun z => ?_)
  · simp only [vcO, DK_on] at z
    exact z
  · simp only [vcO, DK_on]
    exact z.out
@[simp] theorem DP_true {x y : DV} : DP P G n (.p (.bool true)) x y dst l t Hs h st Q = DD P G n l (sP t dst x) Hs h st Q := eqO (fun x => x.out) (fun x => ⟨x⟩)
@[simp] theorem DP_false {x y : DV} : DP P G n (.p (.bool false)) x y dst l t Hs h st Q = DD P G n l (sP t dst y) Hs h st Q := eqO (fun x => x.out) (fun x => ⟨x⟩)
@[simp] theorem DD_call {f : FuncId} {args : List Opd} : DD P G n (⟨⟨dst, .call f args, none⟩, a, fr⟩ :: l) t Hs h st Q = DF P G n f (args.map (Opd.ev G t)) dst fr l t Hs h st Q := by
  rw [DD_heavy rfl]
  exact eqO (fun x => ⟨x⟩) (fun x => x.out)
/-- A call that leaves the memory as it is; h0: what stands there for certain. -/
structure DPC (P : Program) (G : Nat → DV) (n : List Blk) (f : FuncId) (args : List DV) (h0 : List Blk) (dst : Option Nat) (l : List DDOp) (t : List DV) (Hs : List (List Blk)) (h : List Blk) (st : List Fr) (Q : DX → St → Prop) : Prop where
  out : ∃ v, (∀ h', HV h0 h' → Ok P G f args h' v h') ∧ ∀ h1, DK P G n dst l t Hs h st Q v h1
@[simp] theorem DD_pcall {f : FuncId} {args : List Opd} : DD P G n (⟨⟨dst, .pcall f args, none⟩, a, fr⟩ :: l) t Hs h st Q = DPC P G n f (args.map (Opd.ev G t)) (gH Hs a) dst l t Hs h st Q := by
  rw [DD_light rfl]
  refine propext ⟨fun ⟨v, h1, h2⟩ => ⟨v, h1, fun _ => ⟨h2.out⟩⟩, fun ⟨v, h1, h2⟩ => ⟨v, h1, h2 _⟩⟩
theorem DPC_by {f : FuncId} {args : List DV} {h0 : List Blk} {v : DV} (hf : ∀ h', HV h0 h' → Ok P G f args h' v h') (hk : ∀ h1, DK P G n dst l t Hs h st Q v h1) : DPC P G n f args h0 dst l t Hs h st Q := ⟨⟨v, hf, hk⟩⟩
theorem DF_by {f : FuncId} {args : List DV} {v : DV} {h' : List Blk} (hf : Ok P G f args h v h') (hk : DH P G n dst fr l t Hs h st Q v h') : DF P G n f args dst fr l t Hs h st Q := ⟨v, h', hf, hk⟩
@[simp] theorem DD_stop : DD P G n (⟨⟨dst, .stop, none⟩, a, fr⟩ :: l) t Hs h st Q = False := DD_heavy rfl
@[simp] theorem DD_bin {uop ux uy} : DD P G n (⟨⟨dst, .bin uop ux uy, none⟩, a, fr⟩ :: l) t Hs h st Q = vcO P G (.bin uop ux uy) (Opd.ev G t) (gH Hs a) (DK P G n dst l t Hs h st Q) := nd (DD_light rfl)
@[simp] theorem DD_eqb {uneg ux uy} : DD P G n (⟨⟨dst, .eqb uneg ux uy, none⟩, a, fr⟩ :: l) t Hs h st Q = vcO P G (.eqb uneg ux uy) (Opd.ev G t) (gH Hs a) (DK P G n dst l t Hs h st Q) := nd (DD_light rfl)
@[simp] theorem DD_eqn {uneg uk ux} : DD P G n (⟨⟨dst, .eqn uneg uk ux, none⟩, a, fr⟩ :: l) t Hs h st Q = vcO P G (.eqn uneg uk ux) (Opd.ev G t) (gH Hs a) (DK P G n dst l t Hs h st Q) := nd (DD_light rfl)
@[simp] theorem DD_eqp {uneg ux uy} : DD P G n (⟨⟨dst, .eqp uneg ux uy, none⟩, a, fr⟩ :: l) t Hs h st Q = vcO P G (.eqp uneg ux uy) (Opd.ev G t) (gH Hs a) (DK P G n dst l t Hs h st Q) := nd (DD_light rfl)
@[simp] theorem DD_eqi {uneg ux uy} : DD P G n (⟨⟨dst, .eqi uneg ux uy, none⟩, a, fr⟩ :: l) t Hs h st Q = vcO P G (.eqi uneg ux uy) (Opd.ev G t) (gH Hs a) (DK P G n dst l t Hs h st Q) := nd (DD_light rfl)
@[simp] theorem DD_eqs {uneg uks ux uy} : DD P G n (⟨⟨dst, .eqs uneg uks ux uy, none⟩, a, fr⟩ :: l) t Hs h st Q = vcO P G (.eqs uneg uks ux uy) (Opd.ev G t) (gH Hs a) (DK P G n dst l t Hs h st Q) := nd (DD_light rfl)
@[simp] theorem DD_un {uop ux} : DD P G n (⟨⟨dst, .un uop ux, none⟩, a, fr⟩ :: l) t Hs h st Q = vcO P G (.un uop ux) (Opd.ev G t) (gH Hs a) (DK P G n dst l t Hs h st Q) := nd (DD_light rfl)
@[simp] theorem DD_cint {uk ux} : DD P G n (⟨⟨dst, .cint uk ux, none⟩, a, fr⟩ :: l) t Hs h st Q = vcO P G (.cint uk ux) (Opd.ev G t) (gH Hs a) (DK P G n dst l t Hs h st Q) := nd (DD_light rfl)
@[simp] theorem DD_cstr {ux} : DD P G n (⟨⟨dst, .cstr ux, none⟩, a, fr⟩ :: l) t Hs h st Q = vcO P G (.cstr ux) (Opd.ev G t) (gH Hs a) (DK P G n dst l t Hs h st Q) := nd (DD_light rfl)
@[simp] theorem DD_b2s {ux} : DD P G n (⟨⟨dst, .b2s ux, none⟩, a, fr⟩ :: l) t Hs h st Q = vcO P G (.b2s ux) (Opd.ev G t) (gH Hs a) (DK P G n dst l t Hs h st Q) := nd (DD_light rfl)
@[simp] theorem DD_lens {ux} : DD P G n (⟨⟨dst, .lens ux, none⟩, a, fr⟩ :: l) t Hs h st Q = vcO P G (.lens ux) (Opd.ev G t) (gH Hs a) (DK P G n dst l t Hs h st Q) := nd (DD_light rfl)
@[simp] theorem DD_lenl {ux} : DD P G n (⟨⟨dst, .lenl ux, none⟩, a, fr⟩ :: l) t Hs h st Q = vcO P G (.lenl ux) (Opd.ev G t) (gH Hs a) (DK P G n dst l t Hs h st Q) := nd (DD_light rfl)
@[simp] theorem DD_lenm {ux} : DD P G n (⟨⟨dst, .lenm ux, none⟩, a, fr⟩ :: l) t Hs h st Q = vcO P G (.lenm ux) (Opd.ev G t) (gH Hs a) (DK P G n dst l t Hs h st Q) := nd (DD_light rfl)
@[simp] theorem DD_mm {umx ux uy} : DD P G n (⟨⟨dst, .mm umx ux uy, none⟩, a, fr⟩ :: l) t Hs h st Q = vcO P G (.mm umx ux uy) (Opd.ev G t) (gH Hs a) (DK P G n dst l t Hs h st Q) := nd (DD_light rfl)
@[simp] theorem DD_slcs {ux ulo uhi} : DD P G n (⟨⟨dst, .slcs ux ulo uhi, none⟩, a, fr⟩ :: l) t Hs h st Q = vcO P G (.slcs ux ulo uhi) (Opd.ev G t) (gH Hs a) (DK P G n dst l t Hs h st Q) := nd (DD_light rfl)
@[simp] theorem DD_slcl {usz ux ulo uhi} : DD P G n (⟨⟨dst, .slcl usz ux ulo uhi, none⟩, a, fr⟩ :: l) t Hs h st Q = vcO P G (.slcl usz ux ulo uhi) (Opd.ev G t) (gH Hs a) (DK P G n dst l t Hs h st Q) := nd (DD_light rfl)
@[simp] theorem DD_idxs {ux ui} : DD P G n (⟨⟨dst, .idxs ux ui, none⟩, a, fr⟩ :: l) t Hs h st Q = vcO P G (.idxs ux ui) (Opd.ev G t) (gH Hs a) (DK P G n dst l t Hs h st Q) := nd (DD_light rfl)
@[simp] theorem DD_idxa {um usz ug ux ui} : DD P G n (⟨⟨dst, .idxa um usz ug ux ui, none⟩, a, fr⟩ :: l) t Hs h st Q = vcO P G (.idxa um usz ug ux ui) (Opd.ev G t) (gH Hs a) (DK P G n dst l t Hs h st Q) := nd (DD_light rfl)
@[simp] theorem DD_fld {uo usz ug ux} : DD P G n (⟨⟨dst, .fld uo usz ug ux, none⟩, a, fr⟩ :: l) t Hs h st Q = vcO P G (.fld uo usz ug ux) (Opd.ev G t) (gH Hs a) (DK P G n dst l t Hs h st Q) := nd (DD_light rfl)
@[simp] theorem DD_litz {usz uels} : DD P G n (⟨⟨dst, .litz usz uels, none⟩, a, fr⟩ :: l) t Hs h st Q = vcO P G (.litz usz uels) (Opd.ev G t) (gH Hs a) (DK P G n dst l t Hs h st Q) := nd (DD_light rfl)
@[simp] theorem DD_bld {uzero uparts} : DD P G n (⟨⟨dst, .bld uzero uparts, none⟩, a, fr⟩ :: l) t Hs h st Q = vcO P G (.bld uzero uparts) (Opd.ev G t) (gH Hs a) (DK P G n dst l t Hs h st Q) := nd (DD_light rfl)
@[simp] theorem DD_load {ug usz ua} : DD P G n (⟨⟨dst, .load ug usz ua, none⟩, a, fr⟩ :: l) t Hs h st Q = vcO P G (.load ug usz ua) (Opd.ev G t) (gH Hs a) (DK P G n dst l t Hs h st Q) := nd (DD_light rfl)
@[simp] theorem DD_nilchk {uk ux} : DD P G n (⟨⟨dst, .nilchk uk ux, none⟩, a, fr⟩ :: l) t Hs h st Q = vcO P G (.nilchk uk ux) (Opd.ev G t) (gH Hs a) (DK P G n dst l t Hs h st Q) := nd (DD_light rfl)
@[simp] theorem DD_faddr {ug uo usz ua} : DD P G n (⟨⟨dst, .faddr ug uo usz ua, none⟩, a, fr⟩ :: l) t Hs h st Q = vcO P G (.faddr ug uo usz ua) (Opd.ev G t) (gH Hs a) (DK P G n dst l t Hs h st Q) := nd (DD_light rfl)
@[simp] theorem DD_iaddr {usz ux ui} : DD P G n (⟨⟨dst, .iaddr usz ux ui, none⟩, a, fr⟩ :: l) t Hs h st Q = vcO P G (.iaddr usz ux ui) (Opd.ev G t) (gH Hs a) (DK P G n dst l t Hs h st Q) := nd (DD_light rfl)
@[simp] theorem DD_iaddra {um usz ug ux ui} : DD P G n (⟨⟨dst, .iaddra um usz ug ux ui, none⟩, a, fr⟩ :: l) t Hs h st Q = vcO P G (.iaddra um usz ug ux ui) (Opd.ev G t) (gH Hs a) (DK P G n dst l t Hs h st Q) := nd (DD_light rfl)
@[simp] theorem DD_ext {ux ui} : DD P G n (⟨⟨dst, .ext ux ui, none⟩, a, fr⟩ :: l) t Hs h st Q = vcO P G (.ext ux ui) (Opd.ev G t) (gH Hs a) (DK P G n dst l t Hs h st Q) := nd (DD_light rfl)
@[simp] theorem DD_ifc {ut ux} : DD P G n (⟨⟨dst, .ifc ut ux, none⟩, a, fr⟩ :: l) t Hs h st Q = vcO P G (.ifc ut ux) (Opd.ev G t) (gH Hs a) (DK P G n dst l t Hs h st Q) := nd (DD_light rfl)
@[simp] theorem DD_mov {ux} : DD P G n (⟨⟨dst, .mov ux, none⟩, a, fr⟩ :: l) t Hs h st Q = vcO P G (.mov ux) (Opd.ev G t) (gH Hs a) (DK P G n dst l t Hs h st Q) := nd (DD_light rfl)
@[simp] theorem DD_mkmapr {ux} : DD P G n (⟨⟨dst, .mkmapr ux, none⟩, a, fr⟩ :: l) t Hs h st Q = vcO P G (.mkmapr ux) (Opd.ev G t) h (DH P G n dst fr l t Hs h st Q) := nd (DD_heavy rfl)
@[simp] theorem DD_mkmap : DD P G n (⟨⟨dst, .mkmap, none⟩, a, fr⟩ :: l) t Hs h st Q = vcO P G .mkmap (Opd.ev G t) h (DH P G n dst fr l t Hs h st Q) := nd (DD_heavy rfl)
@[simp] theorem DD_rngs {ux} : DD P G n (⟨⟨dst, .rngs ux, none⟩, a, fr⟩ :: l) t Hs h st Q = vcO P G (.rngs ux) (Opd.ev G t) h (DH P G n dst fr l t Hs h st Q) := nd (DD_heavy rfl)
@[simp] theorem DD_nxts {ua} : DD P G n (⟨⟨dst, .nxts ua, none⟩, a, fr⟩ :: l) t Hs h st Q = vcO P G (.nxts ua) (Opd.ev G t) h (DH P G n dst fr l t Hs h st Q) := nd (DD_heavy rfl)
@[simp] theorem DD_rngm {ux} : DD P G n (⟨⟨dst, .rngm ux, none⟩, a, fr⟩ :: l) t Hs h st Q = vcO P G (.rngm ux) (Opd.ev G t) h (DH P G n dst fr l t Hs h st Q) := nd (DD_heavy rfl)
@[simp] theorem DD_nxtm {ua} : DD P G n (⟨⟨dst, .nxtm ua, none⟩, a, fr⟩ :: l) t Hs h st Q = vcO P G (.nxtm ua) (Opd.ev G t) h (DH P G n dst fr l t Hs h st Q) := nd (DD_heavy rfl)
@[simp] theorem DD_ent {ua} : DD P G n (⟨⟨dst, .ent ua, none⟩, a, fr⟩ :: l) t Hs h st Q = vcO P G (.ent ua) (Opd.ev G t) (gH Hs a) (DK P G n dst l t Hs h st Q) := nd (DD_light rfl)
@[simp] theorem DD_mupd {uck um uk ux} : DD P G n (⟨⟨dst, .mupd uck um uk ux, none⟩, a, fr⟩ :: l) t Hs h st Q = vcO P G (.mupd uck um uk ux) (Opd.ev G t) h (DH P G n dst fr l t Hs h st Q) := nd (DD_heavy rfl)
@[simp] theorem DD_look {uck uzero uok um uk} : DD P G n (⟨⟨dst, .look uck uzero uok um uk, none⟩, a, fr⟩ :: l) t Hs h st Q = vcO P G (.look uck uzero uok um uk) (Opd.ev G t) (gH Hs a) (DK P G n dst l t Hs h st Q) := nd (DD_light rfl)
@[simp] theorem DD_mdel {uck um uk} : DD P G n (⟨⟨dst, .mdel uck um uk, none⟩, a, fr⟩ :: l) t Hs h st Q = vcO P G (.mdel uck um uk) (Opd.ev G t) h (DH P G n dst fr l t Hs h st Q) := nd (DD_heavy rfl)
@[simp] theorem DD_clr {uz ux} : DD P G n (⟨⟨dst, .clr uz ux, none⟩, a, fr⟩ :: l) t Hs h st Q = vcO P G (.clr uz ux) (Opd.ev G t) h (DH P G n dst fr l t Hs h st Q) := nd (DD_heavy rfl)
@[simp] theorem DD_capl {ux} : DD P G n (⟨⟨dst, .capl ux, none⟩, a, fr⟩ :: l) t Hs h st Q = vcO P G (.capl ux) (Opd.ev G t) (gH Hs a) (DK P G n dst l t Hs h st Q) := nd (DD_light rfl)
@[simp] theorem DD_tas {ut uz uo ux} : DD P G n (⟨⟨dst, .tas ut uz uo ux, none⟩, a, fr⟩ :: l) t Hs h st Q = vcO P G (.tas ut uz uo ux) (Opd.ev G t) (gH Hs a) (DK P G n dst l t Hs h st Q) := nd (DD_light rfl)
@[simp] theorem DD_tai {ut uo ux} : DD P G n (⟨⟨dst, .tai ut uo ux, none⟩, a, fr⟩ :: l) t Hs h st Q = vcO P G (.tai ut uo ux) (Opd.ev G t) (gH Hs a) (DK P G n dst l t Hs h st Q) := nd (DD_light rfl)
@[simp] theorem DD_lmk : DD P G n (⟨⟨dst, .lmk, none⟩, a, fr⟩ :: l) t Hs h st Q = vcO P G .lmk (Opd.ev G t) (gH Hs a) (DK P G n dst l t Hs h st Q) := nd (DD_light rfl)
@[simp] theorem DD_lin : DD P G n (⟨⟨dst, .lin, none⟩, a, fr⟩ :: l) t Hs h st Q = vcO P G .lin (Opd.ev G t) (gH Hs a) (DK P G n dst l t Hs h st Q) := nd (DD_light rfl)
@[simp] theorem DD_lpb {uc uk ux} : DD P G n (⟨⟨dst, .lpb uc uk ux, none⟩, a, fr⟩ :: l) t Hs h st Q = vcO P G (.lpb uc uk ux) (Opd.ev G t) (gH Hs a) (DK P G n dst l t Hs h st Q) := nd (DD_light rfl)
@[simp] theorem DD_mkf {uf ua ub} : DD P G n (⟨⟨dst, .mkf uf ua ub, none⟩, a, fr⟩ :: l) t Hs h st Q = vcO P G (.mkf uf ua ub) (Opd.ev G t) (gH Hs a) (DK P G n dst l t Hs h st Q) := nd (DD_light rfl)
@[simp] theorem DD_slca {um usz ug ux ulo uhi} : DD P G n (⟨⟨dst, .slca um usz ug ux ulo uhi, none⟩, a, fr⟩ :: l) t Hs h st Q = vcO P G (.slca um usz ug ux ulo uhi) (Opd.ev G t) (gH Hs a) (DK P G n dst l t Hs h st Q) := nd (DD_light rfl)
@[simp] theorem DD_cpy {usz ux uy} : DD P G n (⟨⟨dst, .cpy usz ux uy, none⟩, a, fr⟩ :: l) t Hs h st Q = vcO P G (.cpy usz ux uy) (Opd.ev G t) h (DH P G n dst fr l t Hs h st Q) := nd (DD_heavy rfl)
@[simp] theorem DD_mks {g : Bool} {sz bytes : Nat} {zero : DV} {x y : Opd} : DD P G n (⟨⟨dst, .mks g sz bytes zero x y, none⟩, a, fr⟩ :: l) t Hs h st Q = DM P G n g sz bytes zero (x.ev G t) (y.ev G t) dst fr l t Hs h st Q := by
  rw [DD_heavy rfl]
  exact propext ⟨fun h => ⟨h⟩, fun h => h.out⟩
theorem DM_sl {g : Bool} {sz bytes : Nat} {zero : DV} {k k' : IntKind} {x y : Int} (h0 : 0 ≤ x) (h1 : x ≤ y) (h2 : y * bytes ≤ 140737488355328) (hk : DH P G n dst fr l t Hs h st Q (.sl h.length 0 x.toNat x.toNat) (h ++ [.cells sz (List.replicate x.toNat zero)])) : DM P G n g sz bytes zero (.p (.int k x)) (.p (.int k' y)) dst fr l t Hs h st Q :=
  ⟨⟨h0, h1, h2, .inl hk⟩⟩
@[simp] theorem DD_callv {x : Opd} {args : List Opd} : DD P G n (⟨⟨dst, .callv false x args, none⟩, a, fr⟩ :: l) t Hs h st Q = DCV P G n (x.ev G t) (args.map (Opd.ev G t)) dst fr l t Hs h st Q := by
  rw [DD_heavy rfl]
  refine propext ⟨fun h => ⟨?_⟩, fun h => ?_⟩
  · simp only [vcO, Bool.false_eq_true, if_false] at h
    split at h
    · rename_i f first cap hv
      rw [hv]
      exact ⟨h.1, ⟨h.2⟩⟩
    · exact h.elim
  · have := h.out
    simp only [vcO, Bool.false_eq_true, if_false]
    split at this
    · rename_i f first cap hv
      rw [hv]
      exact ⟨this.1, this.2.out⟩
    · exact this.elim
theorem DCV_by {f : FuncId} {first cap args : List DV} (hf : cFunc P f = true) (hk : DF P G n f (first ++ args ++ cap) dst fr l t Hs h st Q) : DCV P G n (.fn (.func f) first cap) args dst fr l t Hs h st Q := ⟨⟨hf, hk⟩⟩
@[simp] theorem DD_inv {name : String} {x : Opd} {args : List Opd} : DD P G n (⟨⟨dst, .inv false name x args, none⟩, a, fr⟩ :: l) t Hs h st Q = DIV P G n name (x.ev G t) (args.map (Opd.ev G t)) dst fr l t Hs h st Q := by
  rw [DD_heavy rfl]
  refine propext ⟨fun h => ⟨?_⟩, fun h => ?_⟩
  · simp only [vcO, Bool.false_eq_true, if_false] at h
    split at h
    · rename_i ty d hv
      rw [hv]
      split at h
      · rename_i f hm
        simp only
        rw [hm]
        exact ⟨h.1, ⟨h.2⟩⟩
      · exact h.elim
    · exact h.elim
  · have := h.out
    simp only [vcO, Bool.false_eq_true, if_false]
    split at this
    · rename_i ty d hv
      rw [hv]
      split at this
      · rename_i f hm
        simp only
        rw [hm]
        exact ⟨this.1, this.2.out⟩
      · exact this.elim
    · exact this.elim
theorem DIV_by {name : String} {ty : TypeId} {f : FuncId} {d : DV} {args : List DV} (hm : methOf P ty name = some f) (hf : cFunc P f = true) (hk : DF P G n f (d :: args) dst fr l t Hs h st Q) : DIV P G n name (.iface ty d) args dst fr l t Hs h st Q := ⟨by simp only; rw [hm]; exact ⟨hf, hk⟩⟩
@[simp] theorem DD_s2b {ux} : DD P G n (⟨⟨dst, .s2b ux, none⟩, a, fr⟩ :: l) t Hs h st Q = vcO P G (.s2b ux) (Opd.ev G t) h (DH P G n dst fr l t Hs h st Q) := nd (DD_heavy rfl)
@[simp] theorem DD_s2bl {ux} : DD P G n (⟨⟨dst, .s2bl ux, none⟩, a, fr⟩ :: l) t Hs h st Q = vcO P G (.s2bl ux) (Opd.ev G t) h (DH P G n dst fr l t Hs h st Q) := nd (DD_heavy rfl)
@[simp] theorem DD_lit {usz uels} : DD P G n (⟨⟨dst, .lit usz uels, none⟩, a, fr⟩ :: l) t Hs h st Q = vcO P G (.lit usz uels) (Opd.ev G t) h (DH P G n dst fr l t Hs h st Q) := nd (DD_heavy rfl)
@[simp] theorem DD_alloc {usz uzero} : DD P G n (⟨⟨dst, .alloc usz uzero, none⟩, a, fr⟩ :: l) t Hs h st Q = vcO P G (.alloc usz uzero) (Opd.ev G t) h (DH P G n dst fr l t Hs h st Q) := nd (DD_heavy rfl)
@[simp] theorem DD_boxn {un ux} : DD P G n (⟨⟨dst, .boxn un ux, none⟩, a, fr⟩ :: l) t Hs h st Q = vcO P G (.boxn un ux) (Opd.ev G t) h (DH P G n dst fr l t Hs h st Q) := nd (DD_heavy rfl)
@[simp] theorem DD_box {ux} : DD P G n (⟨⟨dst, .box ux, none⟩, a, fr⟩ :: l) t Hs h st Q = vcO P G (.box ux) (Opd.ev G t) h (DH P G n dst fr l t Hs h st Q) := nd (DD_heavy rfl)
@[simp] theorem DD_store {usz ua ux} : DD P G n (⟨⟨dst, .store usz ua ux, none⟩, a, fr⟩ :: l) t Hs h st Q = vcO P G (.store usz ua ux) (Opd.ev G t) h (DH P G n dst fr l t Hs h st Q) := nd (DD_heavy rfl)
@[simp] theorem DD_app {sz bytes : Nat} {x y : Opd} : DD P G n (⟨⟨dst, .app sz bytes x y, none⟩, a, fr⟩ :: l) t Hs h st Q = DA P G n sz bytes (x.ev G t) (y.ev G t) dst fr l t Hs h st Q := by
  rw [DD_heavy rfl]
  exact propext ⟨fun h => ⟨h⟩, fun h => h.out⟩
theorem DA_raw {sz bytes : Nat} {dx dy : DV} : DA P G n sz bytes dx dy dst fr l t Hs h st Q = vcO P G (.app sz bytes (.c dx) (.c dy)) (Opd.ev G []) h (DH P G n dst fr l t Hs h st Q) := propext ⟨fun h => h.out, fun h => ⟨h⟩⟩
end
attribute [simp] DO.heavy

theorem least_of {p : Nat → Prop} : ∀ (n : Nat), p n → ∃ m, p m ∧ ∀ k, p k → m ≤ k := by
  intro n
  induction n using Nat.strongRecOn with
  | _ n ih =>
    intro hn
    by_cases h : ∃ m, m < n ∧ p m
    · obtain ⟨m, h1, h2⟩ := h
      exact ih m h1 h2
    · exact ⟨n, hn, fun k hk => Nat.le_of_not_lt fun hlt => h ⟨k, hlt, hk⟩⟩

/-- A loop by a family of states: what it was entered with, and one round; at an exit the state may say less. -/
theorem VV_famW {P : Program} {G : Nat → DV} {n : List Blk} {Q : DX → St → Prop} {s : St} {st : List Fr} {a : DC} {α : Type} (F : α → St) (ok : α → Prop) (m : α → Nat) (a0 : α) (hok : ok a0) (h0 : Wk G n s (F a0))
    (h1 : ∀ x, ok x → ∀ B : DX → St → Prop, (∀ s1 x', Wk G n s1 (F x') → ok x' → m x' < m x → B .nrm s1) → (∀ i s1 s2, Wk G n s1 s2 → KON P G n st Q (.ext i) s2 → B (.ext i) s1) → (∀ s1, KON P G n st Q .ret s1 → B .ret s1) → VV P G n a (F x) [] B) :
    VV P G n (.loop a) s st Q := by
  let p : St → Nat → Prop := fun s k => ∃ x, ok x ∧ F x = s ∧ m x = k
  have key : ∀ s, ∃ k, (∃ k, p s k) → p s k ∧ ∀ j, p s j → k ≤ j := fun s => by
    by_cases h : ∃ k, p s k
    · obtain ⟨k, hk⟩ := h
      obtain ⟨j, hj⟩ := least_of k hk
      exact ⟨j, fun _ => hj⟩
    · exact ⟨0, fun h' => (h h').elim⟩
  let μ : St → Nat := fun s => Classical.choose (key s)
  have hμ : ∀ s, (∃ k, p s k) → p s (μ s) ∧ ∀ j, p s j → μ s ≤ j := fun s => Classical.choose_spec (key s)
  refine VV_loopW (fun s => ∃ x, ok x ∧ F x = s) μ ⟨F a0, h0, a0, hok, rfl⟩ ?_
  rintro s1 ⟨y, hy, rfl⟩ B hb he hr
  obtain ⟨⟨x, hx, hF, hm⟩, _⟩ := hμ (F y) ⟨m y, y, hy, rfl, rfl⟩
  rw [← hF]
  refine h1 x hx B (fun s1 x' hw hx' hlt => hb s1 ⟨F x', hw, ⟨x', hx', rfl⟩, ?_⟩) he hr
  have := (hμ (F x') ⟨m x', x', hx', rfl, rfl⟩).2 (m x') ⟨x', hx', rfl, rfl⟩
  omega
/-- A loop by a family of states: what it was entered with, and one round. -/
theorem VV_fam {P : Program} {G : Nat → DV} {n : List Blk} {Q : DX → St → Prop} {s : St} {st : List Fr} {a : DC} {α : Type} (F : α → St) (ok : α → Prop) (m : α → Nat) (a0 : α) (hok : ok a0) (h0 : Wk G n s (F a0))
    (h1 : ∀ x, ok x → ∀ B : DX → St → Prop, (∀ s1 x', Wk G n s1 (F x') → ok x' → m x' < m x → B .nrm s1) → (∀ i s1, KON P G n st Q (.ext i) s1 → B (.ext i) s1) → (∀ s1, KON P G n st Q .ret s1 → B .ret s1) → VV P G n a (F x) [] B) :
    VV P G n (.loop a) s st Q := VV_famW F ok m a0 hok h0 fun x hx B hb he hr => h1 x hx B hb (fun i s1 h => he i s1 s1 Wk.refl h) hr

/-- The slots that live on are those of the loop's frame; all else is forgotten there. -/
def fits : List DV → List DV → Bool → Prop
  | [], [], _ => True
  | d :: l, d' :: l', b => (d' = .any ∨ d' = d) ∧ fits l l' b
  | _, _, _ => False
theorem fits_length : ∀ (l l' : List DV) (b : Bool), fits l l' b → l'.length = l.length
  | [], [], _, _ => rfl
  | _ :: l, _ :: l', b, h => by simp [fits_length l l' b h.2]
  | [], _ :: _, _, h => h.elim
  | _ :: _, [], _, h => h.elim
theorem fits_get : ∀ (l l' : List DV) (b : Bool), fits l l' b → ∀ i (hi : i < l'.length) (hi' : i < l.length), l'[i] = .any ∨ l'[i] = l[i]
  | [], [], _, _, i, hi, _ => by simp at hi
  | d :: l, d' :: l', b, h, 0, _, _ => by simpa using h.1
  | d :: l, d' :: l', b, h, i + 1, hi, hi' => by
    simp only [List.getElem_cons_succ]
    exact fits_get l l' b h.2 i _ _
  | [], _ :: _, _, h, _, _, _ => h.elim
  | _ :: _, [], _, h, _, _, _ => h.elim

/-- At a loop's head or behind its round: the memory as it is, the slots the frame's. -/
theorem Wk.fits {G : Nat → DV} {h0 h : List Blk} {t t' : List DV} (hf : fits t t' true) : Wk G h0 ⟨t, h⟩ ⟨t', h⟩ := by
  intro h0w D e a w hr hl
  have hlen := fits_length t t' true hf
  refine ⟨e, ⟨hr.h, hr.H, hr.hr, hr.gr, ⟨by rw [hlen]; exact hr.tr.1, fun i hi hi' => ?_⟩, hr.df⟩, Ev.refl' e hl⟩
  have hi2 : i < t.length := by simpa [hlen] using hi
  rcases fits_get t t' true hf i hi hi2 with h | h
  · simp only [h]; exact .any
  · simp only [h]; exact hr.tr.2 i hi2 hi'
attribute [simp] fits

theorem Ok_by {V : List Nat} {P : Program} {G : Nat → DV} {f : FuncId} {fn : Func} {d : DC} {rs : List DR} (hf : P.funcs[f]? = some fn) (hc : fn.body.bind (cCodeV V P) = some d) (hrs : cRes P fn.results.toList = some rs) {args : List DV} {h : List Blk} {v : DV} {h' : List Blk} (n : Nat) (hn : fn.ntmps = args.length + n)
    (H : VV P G h d ⟨args ++ List.replicate n .any, h⟩ [] (RR h rs v h')) : Ok P G f args h v h' :=
  Ok_by0 hf hc hrs n hn (by have := H.out; rw [RR_e] at this; exact this)

/-- The same, where more than one outcome is possible. -/
structure RRr (h : List Blk) (rs : List DR) (R : DV → List Blk → Prop) (x : DX) (s : St) : Prop where
  out : match x with
    | .nrm | .ret => ∃ ds, resD s.h s.t rs = some ds ∧ ∃ v h', WkV h (mkRes ds) s.h v h' ∧ R v h'
    | _ => False
structure REr (h : List Blk) (ds : Option (List DV)) (h1 : List Blk) (R : DV → List Blk → Prop) : Prop where
  out : ∃ l, ds = some l ∧ ∃ v h', WkV h (mkRes l) h1 v h' ∧ R v h'
@[simp] theorem RRr_nrm {h : List Blk} {rs : List DR} {R : DV → List Blk → Prop} {t : List DV} {h1 : List Blk} : RRr h rs R .nrm ⟨t, h1⟩ = REr h (resD h1 t rs) h1 R := propext ⟨fun x => ⟨x.out⟩, fun x => ⟨x.out⟩⟩
@[simp] theorem RRr_ret {h : List Blk} {rs : List DR} {R : DV → List Blk → Prop} {t : List DV} {h1 : List Blk} : RRr h rs R .ret ⟨t, h1⟩ = REr h (resD h1 t rs) h1 R := propext ⟨fun x => ⟨x.out⟩, fun x => ⟨x.out⟩⟩
theorem REr_by {h : List Blk} {l : List DV} {h1 : List Blk} {R : DV → List Blk → Prop} (v : DV) (h' : List Blk) (hw : WkV h (mkRes l) h1 v h') (hR : R v h') : REr h (some l) h1 R := ⟨l, rfl, v, h', hw, hR⟩
theorem OkR_by {V : List Nat} {P : Program} {G : Nat → DV} {f : FuncId} {fn : Func} {d : DC} {rs : List DR} (hf : P.funcs[f]? = some fn) (hc : fn.body.bind (cCodeV V P) = some d) (hrs : cRes P fn.results.toList = some rs) {args : List DV} {h : List Blk} {R : DV → List Blk → Prop} (n : Nat) (hn : fn.ntmps = args.length + n)
    (H : VV P G h d ⟨args ++ List.replicate n .any, h⟩ [] (RRr h rs R)) : OkR P G f args h R := by
  refine OkR_of_code hf hc hrs n hn (vc_mono d (fun x s hx => ?_) H.out)
  have := hx.out
  cases x <;> exact this

/-- A function that puts off a call. -/
def WFs (B : Nat → Prop) : List DV → Prop
  | [] => True
  | d :: l => WF B d ∧ WFs B l
theorem WFs_spec {B : Nat → Prop} : ∀ {l : List DV}, WFs B l → ∀ d, d ∈ l → WF B d
  | [], _, d, hd => by simp at hd
  | x :: l, h, d, hd => by
    rcases List.mem_cons.1 hd with rfl | hd
    · exact h.1
    · exact WFs_spec h.2 d hd
@[simp] theorem WFs_nil {B : Nat → Prop} : WFs B [] = True := rfl
@[simp] theorem WFs_cons {B : Nat → Prop} {d : DV} {l : List DV} : WFs B (d :: l) = (WF B d ∧ WFs B l) := rfl
structure RDE (P : Program) (G : Nat → DV) (h : List Blk) (rs : List DR) (R : DV → List Blk → Prop) (f : FuncId) (args : List DV) (t : List DV) (h1 : List Blk) : Prop where
  out : ∃ R', OkD P G f args h1 R' ∧ ∀ v1 h2, R' v1 h2 → REr h (resD h2 t rs) h2 R
structure RRD (P : Program) (G : Nat → DV) (h : List Blk) (rs : List DR) (R : DV → List Blk → Prop) (f : FuncId) (args : List DV) (x : DX) (s : St) : Prop where
  out : match x with | .nrm | .ret => RDE P G h rs R f args s.t s.h | _ => False
structure RD1 (P : Program) (G : Nat → DV) (h : List Blk) (rs : List DR) (R : DV → List Blk → Prop) (f : FuncId) (args : List Opd) (dst : Option Nat) (rest : DC) (x : DX) (s : St) : Prop where
  out : match x with | .nrm => WFs (· < h.length) (args.map (Opd.ev G s.t)) ∧ VV P G h rest ⟨sP s.t dst (.tup []), s.h⟩ [] (RRD P G h rs R f (args.map (Opd.ev G s.t))) | _ => False
section
variable {P : Program} {G : Nat → DV} {h h1 : List Blk} {rs : List DR} {R : DV → List Blk → Prop} {f : FuncId} {t : List DV}
@[simp] theorem RRD_nrm {args : List DV} : RRD P G h rs R f args .nrm ⟨t, h1⟩ = RDE P G h rs R f args t h1 := propext ⟨fun x => x.out, fun x => ⟨x⟩⟩
@[simp] theorem RRD_ret {args : List DV} : RRD P G h rs R f args .ret ⟨t, h1⟩ = RDE P G h rs R f args t h1 := propext ⟨fun x => x.out, fun x => ⟨x⟩⟩
@[simp] theorem RD1_nrm {args : List Opd} {dst : Option Nat} {rest : DC} : RD1 P G h rs R f args dst rest .nrm ⟨t, h1⟩ = (WFs (· < h.length) (args.map (Opd.ev G t)) ∧ VV P G h rest ⟨sP t dst (.tup []), h1⟩ [] (RRD P G h rs R f (args.map (Opd.ev G t)))) := propext ⟨fun x => x.out, fun x => ⟨x⟩⟩
theorem RDE_by {args : List DV} {R' : DV → List Blk → Prop} (hf : OkD P G f args h1 R') (hk : ∀ v1 h2, R' v1 h2 → REr h (resD h2 t rs) h2 R) : RDE P G h rs R f args t h1 := ⟨R', hf, hk⟩
theorem OkR_by_defer {f : FuncId} {fn : Func} {d : DfC} {rs : List DR} (hf : P.funcs[f]? = some fn) (hc : fn.body.bind (cDef P) = some d) (hrs : cRes P fn.results.toList = some rs) {args : List DV} {h : List Blk} {R : DV → List Blk → Prop} (n : Nat) (hn : fn.ntmps = args.length + n)
    (H : VV P G h (.seq d.a (.rg d.init)) ⟨args ++ List.replicate n .any, h⟩ [] (RD1 P G h rs R d.f d.args d.dst d.rest)) : OkR P G f args h R := by
  refine OkR_of_defer hf hc hrs n hn (vc_mono _ (fun x s hx => ?_) H.out)
  have := hx.out
  cases x with
  | nrm =>
    obtain ⟨h1, h2⟩ := this
    refine ⟨fun y hy => WFs_spec h1 _ (List.mem_map_of_mem hy), ?_⟩
    have h3 := h2.out
    unfold VV0 at h3
    have hs : s.put d.dst (.tup []) s.h = ⟨sP s.t d.dst (.tup []), s.h⟩ := by
      rw [← putL_eq]
      cases d.dst <;> rfl
    rw [hs]
    refine vc_mono _ (fun x s2 hx2 => ?_) h3
    have h4 := hx2.out
    cases x with
    | nrm => exact ⟨h4.out.choose, h4.out.choose_spec.1, fun v1 h2 hr => (h4.out.choose_spec.2 v1 h2 hr).out⟩
    | ret => exact ⟨h4.out.choose, h4.out.choose_spec.1, fun v1 h2 hr => (h4.out.choose_spec.2 v1 h2 hr).out⟩
    | ext i => exact h4.elim
  | ret => exact this.elim
  | ext i => exact this.elim
theorem OkD_by {V : List Nat} {f : FuncId} {fn : Func} {d : DC} {rs : List DR} (hf : P.funcs[f]? = some fn) (hc : fn.body.bind (cCodeV V P) = some d) (hrs : cRes P fn.results.toList = some rs) {args : List DV} {h : List Blk} {R : DV → List Blk → Prop} (n : Nat) (hn : fn.ntmps = args.length + n)
    (H : VV P G h d ⟨args ++ List.replicate n .any, h⟩ [] (RRr h rs R)) : OkD P G f args h R := by
  refine OkD_of_code hf hc hrs n hn (vc_mono d (fun x s hx => ?_) H.out)
  have := hx.out
  cases x <;> exact this
end

attribute [simp] List.replicate mres vcO mkRes DV.size DV.storable DV.cells sub Den.put isNilD cellEq cellsEq
@[simp] theorem elemsOf_nil {h : List Blk} {sz : Nat} : elemsOf h sz (.p (.slice none 0 0)) = some [] := rfl
@[simp] theorem elemsOf_str {h : List Blk} {sz : Nat} {s : ByteArray} : elemsOf h sz (.p (.string s)) = if sz = 1 then some (bytesD s) else none := rfl
@[simp] theorem elemsOf_fz {h : List Blk} {sz sz' : Nat} {l : List DV} : elemsOf h sz (.fz sz' l) = if sz' = sz then some l else none := rfl
@[simp] theorem elemsOf_sl {h : List Blk} {sz b i n x : Nat} : elemsOf h sz (.sl b i n x) = match h[b]? with
    | some (.cells bsz els) => if x = els.length ∧ bsz = sz then some ((els.drop i).take n) else none
    | _ => none := rfl
@[simp] theorem elemsOf_sa {h : List Blk} {sz : Nat} {g : Bool} {z b i o n c x : Nat} : elemsOf h sz (.sa g z b i o n c x) = match h[b]? with
    | some (.cells bsz els) => if x = els.length ∧ z = sz then some ((List.range n).map fun j => Den.sub (els.getD i .any) (o + j * z) z g) else none
    | _ => none := rfl
@[simp] theorem sliceOf_sa {h : List Blk} {sz : Nat} {g : Bool} {z b i o n c x : Nat} : sliceOf h sz (.sa g z b i o n c x) = match h[b]? with
    | some (.cells bsz els) => if x = els.length ∧ z = sz then some ((List.range n).map fun j => Den.sub (els.getD i .any) (o + j * z) z g) else none
    | _ => none := rfl
@[simp] theorem sliceOf_nil {h : List Blk} {sz : Nat} : sliceOf h sz (.p (.slice none 0 0)) = some [] := rfl
@[simp] theorem sliceOf_fz {h : List Blk} {sz sz' : Nat} {l : List DV} : sliceOf h sz (.fz sz' l) = if sz' = sz then some l else none := rfl
@[simp] theorem sliceOf_sl {h : List Blk} {sz b i n x : Nat} : sliceOf h sz (.sl b i n x) = match h[b]? with
    | some (.cells bsz els) => if x = els.length ∧ bsz = sz then some ((els.drop i).take n) else none
    | _ => none := rfl
end Go.Den
