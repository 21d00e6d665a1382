/- The library: contracts of functions over denoted values (LibD). -/
import Derived.Test.YthkgekkpnldbmaaLibC
import Derived.Test.YthkgekkpnldbmaaLibA
import Derived.Defers
import Derived.Below
set_option linter.unusedVariables false
set_option linter.unusedSimpArgs false
set_option linter.unusedSectionVars false
set_option linter.unnecessarySimpa false
namespace Go.Den
open Go

section
variable {P : Program} {G : Nat → DV} {e : Env} {w : World} {K : DV → List Blk → Prop} {t : List DV} {a : Act}

theorem lit_only {o : Oper} {sz : Nat} {els : List Opd} (hc : cOp P o = some (.lit sz els)) : ∃ ty n parts, o.op = .buildSlice ty n parts := by
  obtain ⟨dst, op, type, pos, after, guard⟩ := o
  cases op
  case buildSlice ty n parts => exact ⟨ty, n, parts, rfl⟩
  case binOp op ty x y z =>
    exfalso
    cases op <;> simp only [cOp, cEq] at hc <;> (repeat' split at hc) <;> simp_all [Option.bind_eq_some_iff]
  case slice t x lo hi mx =>
    exfalso
    cases mx <;> simp only [cOp] at hc <;> (repeat' split at hc) <;> first | (simp only [Option.bind_eq_some_iff] at hc; obtain ⟨g, _, hc⟩ := hc; split at hc <;> cases hc) | simp_all [Option.map_eq_some_iff]
  case makeMap ty r =>
    exfalso
    cases r <;> simp only [cOp] at hc <;> (repeat' split at hc) <;> simp_all
  case call c =>
    exfalso
    simp only [cOp, cCall] at hc
    repeat' split at hc
    all_goals simp_all
  all_goals
    exfalso
    simp only [cOp, cConv] at hc
    repeat' split at hc
    all_goals simp_all [Option.map_eq_some_iff, Option.bind_eq_some_iff]

theorem sound_litz {o : Oper} {sz : Nat} {els : List Opd} (hc : cOp P o = some (.lit sz els)) (hg : GR e G) (ht : TR e t a.tmps) (hH : e.H = w.heap) (hr : HR e) (h : vcO P G (DO.litz sz els) (Opd.ev G t) e.h K) : Yields P (execOp a.eval o) w (After e w K) := by
  obtain ⟨ty, n, parts, ho⟩ := lit_only hc
  obtain ⟨dst, op, type, pos, after, guard⟩ := o
  simp only at ho
  subst ho
  simp only [cOp] at hc
  split at hc
  · rename_i el hu
    split at hc
    · rename_i i hi
      by_cases hcond : i.zero.isSome = true ∧ n * i.size ≤ 16777216 ∧ consec 0 parts.toList = true ∧ parts.size = n
      · rw [if_pos hcond] at hc
        cases hc
        obtain ⟨h1, h2, h3, h4⟩ := hcond
        simp only [vcO] at h
        exact y_litz hu ⟨i, hi, rfl, h1⟩ h2 (ev := Opd.ev G t) (fun x => vr_ev hg ht x) parts h3 h4 hH hr h
      · rw [if_neg hcond] at hc; cases hc
    · cases hc
  · cases hc
end
end Go.Den

namespace Go.Den
open Go

/-- An operation made small; what isn't covered must not be reached. -/
def cOpS (P : Program) (o : Oper) : DO := (cOp P o).getD .stop
def cOper (P : Program) (ops : Array Oper) (o : Oper) : Option DOper :=
  match o.guard with
  | none => some ⟨o.dst, cOpS P o, none⟩
  | some (j, want) => match (ops[j]?).bind (·.dst) with
    | some g => some ⟨o.dst, cOpS P o, some (g, want)⟩
    | none => none

def cOps (P : Program) (ops : Array Oper) : List Oper → Option (List DOper)
  | [] => some []
  | o :: l => match cOper P ops o, cOps P ops l with
    | some d, some r => some (d :: r)
    | _, _ => none

/-- What comes ahead of an operation for certain: the edges that always bind. -/
def depsOf (o : Oper) : List Nat := (o.after.toList.filter (Region.binds .any ·)).map (·.on)
/-- All that comes ahead, as bits. -/
def maskOf (m : List Nat) (o : Oper) : Nat := (depsOf o).foldl (fun s d => s ||| (2 ^ d ||| m.getD d 0)) 0
def masksFrom (m : List Nat) : List Oper → List Nat
  | [] => m
  | o :: l => masksFrom (m ++ [maskOf m o]) l
def looks (d : DOper) : List Nat := d.op.opds.filterMap (fun | .t n => some n | _ => none) ++ (match d.guard with | some (g, _) => [g] | none => [])
def isHeavy (d : DOper) : Bool := d.op.heavy
/-- How many of the first i are heavy. -/
def cnt (l : List DOper) (i : Nat) : Nat := (l.take i).countP isHeavy
def aOf (l : List DOper) (m : Nat) : Nat → Nat
  | 0 => 0
  | i + 1 => if m.testBit i && ((l[i]?).map isHeavy).getD false then cnt l i + 1 else aOf l m i
def frOf (l : List DOper) (M : List Nat) (i : Nat) : List Nat :=
  (((List.range l.length).filter fun j => ((l[j]?).map fun d => !isHeavy d && !d.op.plain).getD false && !(M.getD i 0).testBit j && !(M.getD j 0).testBit i && decide (aOf l (M.getD j 0) l.length ≤ cnt l i)).map fun j => aOf l (M.getD j 0) l.length).eraseDups
def annot (l : List DOper) (M : List Nat) : List DDOp :=
  (List.range l.length).map fun i => ⟨l.getD i default, aOf l (M.getD i 0) l.length, frOf l M i⟩

/-- What must hold of a region that is drawn, so that its text's order stands for all. -/
structure Chk (ops : List Oper) (l : List DDOp) (M : List Nat) : Prop where
  len : l.length = ops.length
  det : ∀ x, x ∈ l → x.o.op.det = true
  deps : ∀ i, i < ops.length → ∀ o, ops[i]? = some o → ∀ d, d ∈ depsOf o → d < i
  mask : ∀ i, i < ops.length → ∀ o, ops[i]? = some o → M.getD i 0 = maskOf M o
  dst : ∀ i, i < l.length → ∀ j, j < l.length → ∀ x y, l[i]? = some x → l[j]? = some y → ∀ s, x.o.dst = some s → (i ≠ j → y.o.dst ≠ some s) ∧ (s ∈ looks y.o → i = j ∨ (M.getD j 0).testBit i = true ∨ (M.getD i 0).testBit j = true)
  heavy : ∀ i, i < l.length → ∀ j, j < l.length → ∀ x y, l[i]? = some x → l[j]? = some y → i < j → isHeavy x.o = true → isHeavy y.o = true → (M.getD j 0).testBit i = true
  light : ∀ j, j < l.length → ∀ y, l[j]? = some y → isHeavy y.o = false → y.a = 0 ∨ ∃ i, i < l.length ∧ ∃ x, l[i]? = some x ∧ isHeavy x.o = true ∧ (M.getD j 0).testBit i = true ∧ cnt (l.map (·.o)) i + 1 = y.a
  free : ∀ i, i < l.length → ∀ j, j < l.length → ∀ x y, l[i]? = some x → l[j]? = some y → isHeavy x.o = true → isHeavy y.o = false → y.o.op.plain = true ∨ y.a ∈ x.fr ∨ (M.getD i 0).testBit j = true ∨ cnt (l.map (·.o)) i < y.a

def allP (n : Nat) (f : Nat → Bool) : Bool := (List.range n).all f
theorem allP_iff {n : Nat} {f : Nat → Bool} (h : allP n f = true) : ∀ i, i < n → f i = true := fun i hi => by
  have := List.all_eq_true.1 h i (List.mem_range.2 hi)
  exact this

def chk (ops : List Oper) (l : List DDOp) (M : List Nat) : Bool :=
  (l.length == ops.length && l.all (fun x => x.o.op.det)) &&
  allP ops.length (fun i => ((ops[i]?).map fun o => (depsOf o).all (· < i)).getD true) &&
  allP ops.length (fun i => ((ops[i]?).map fun o => M.getD i 0 == maskOf M o).getD true) &&
  allP l.length (fun i => ((l[i]?).map fun x => match x.o.dst with
    | none => true
    | some s => allP l.length fun j => ((l[j]?).map fun y => (i == j || y.o.dst != some s) && (!(looks y.o).contains s || i == j || (M.getD j 0).testBit i || (M.getD i 0).testBit j)).getD true).getD true) &&
  allP l.length (fun i => ((l[i]?).map fun x => !isHeavy x.o || allP l.length fun j => ((l[j]?).map fun y => !(decide (i < j)) || !isHeavy y.o || (M.getD j 0).testBit i).getD true).getD true) &&
  allP l.length (fun j => ((l[j]?).map fun y => isHeavy y.o || y.a == 0 || (List.range l.length).any fun i => ((l[i]?).map fun x => isHeavy x.o && (M.getD j 0).testBit i && cnt (l.map (·.o)) i + 1 == y.a).getD false).getD true) &&
  allP l.length (fun i => ((l[i]?).map fun x => !isHeavy x.o || allP l.length fun j => ((l[j]?).map fun y => isHeavy y.o || y.o.op.plain || x.fr.contains y.a || (M.getD i 0).testBit j || decide (cnt (l.map (·.o)) i < y.a)).getD true).getD true)

theorem chk_sound {ops : List Oper} {l : List DDOp} {M : List Nat} (h : chk ops l M = true) : Chk ops l M := by
  simp only [chk, Bool.and_eq_true] at h
  obtain ⟨⟨⟨⟨⟨⟨h1, h2⟩, h3⟩, h4⟩, h5⟩, h6⟩, h7⟩ := h
  refine ⟨by simpa using h1.1, List.all_eq_true.1 h1.2, fun i hi o ho d hd => ?_, fun i hi o ho => ?_, fun i hi j hj x y hx hy s hs => ?_, fun i hi j hj x y hx hy hij hhx hhy => ?_, fun j hj y hy hhy => ?_, fun i hi j hj x y hx hy hhx hhy => ?_⟩
  · have := allP_iff h2 i hi
    simp only [ho, Option.map_some, Option.getD_some, List.all_eq_true, decide_eq_true_eq] at this
    exact this d hd
  · have := allP_iff h3 i hi
    simpa [ho] using this
  · have := allP_iff h4 i hi
    simp only [hx, hs, Option.map_some, Option.getD_some] at this
    have := allP_iff this j hj
    simp only [hy, Option.map_some, Option.getD_some, Bool.and_eq_true, Bool.or_eq_true, beq_iff_eq, bne_iff_ne, Bool.not_eq_true', List.contains_eq_mem, decide_eq_false_iff_not] at this
    refine ⟨fun hij => this.1.resolve_left hij, fun hl => ?_⟩
    rcases this.2 with ((h | h) | h) | h
    · exact (h hl).elim
    · exact .inl h
    · exact .inr (.inl h)
    · exact .inr (.inr h)
  · have := allP_iff h5 i hi
    simp only [hx, hhx, Option.map_some, Option.getD_some, Bool.not_true, Bool.false_or] at this
    have := allP_iff this j hj
    simpa [hy, hhy, hij] using this
  · have := allP_iff h6 j hj
    simp only [hy, hhy, Option.map_some, Option.getD_some, Bool.false_or, Bool.or_eq_true, beq_iff_eq, List.any_eq_true] at this
    rcases this with h | ⟨i, hi, h⟩
    · exact .inl h
    · cases hx : l[i]? with
      | none => rw [hx] at h; simp at h
      | some x =>
        rw [hx] at h
        simp only [Option.map_some, Option.getD_some, Bool.and_eq_true, beq_iff_eq] at h
        exact .inr ⟨i, List.mem_range.1 hi, x, hx, h.1.1, h.1.2, h.2⟩
  · have := allP_iff h7 i hi
    simp only [hx, hhx, Option.map_some, Option.getD_some, Bool.not_true, Bool.false_or] at this
    have := allP_iff this j hj
    simp only [hy, hhy, Option.map_some, Option.getD_some, Bool.false_or, Bool.or_eq_true, decide_eq_true_eq, List.contains_eq_mem] at this
    rcases this with ((h | h) | h) | h
    · exact .inl h
    · exact .inr (.inl h)
    · exact .inr (.inr (.inl h))
    · exact .inr (.inr (.inr h))

def frzO (d : DOper) : DOper := ⟨d.dst, d.op.frz, d.guard⟩
def purO (d : DOper) : DOper := ⟨d.dst, d.op.pur, d.guard⟩

/-- A region that is drawn, made small: only where its text's order stands for all (the literal slices living, else frozen). -/
def cDraw (P : Program) (ops : Array Oper) : Option (List DDOp) :=
  match cOps P ops ops.toList with
  | none => none
  | some l =>
    let M := masksFrom [] ops.toList
    let r := annot l M
    let r' := annot (l.map frzO) M
    if chk ops.toList r M && P.follows .mixedOrders then some r
    else if chk ops.toList r' M && P.follows .mixedOrders then some r'
    else
      let r2 := annot (l.map purO) M
      if chk ops.toList r2 M && P.follows .mixedOrders then some r2 else none

/-- The small operations of a region: as they are, or their literals frozen. -/
def Comp (P : Program) (ops : Array Oper) (dl : List DOper) : Prop := ∃ l, cOps P ops ops.toList = some l ∧ (dl = l ∨ dl = l.map frzO ∨ dl = l.map purO)

theorem annot_map (l : List DOper) (M : List Nat) : (annot l M).map (·.o) = l := by
  refine List.ext_getElem (by simp [annot]) fun i h1 h2 => ?_
  simp [annot, List.getD, h2]

theorem cDraw_spec {P : Program} {ops : Array Oper} {r : List DDOp} (h : cDraw P ops = some r) : Comp P ops (r.map (·.o)) ∧ Chk ops.toList r (masksFrom [] ops.toList) ∧ P.follows .mixedOrders = true := by
  unfold cDraw at h
  split at h
  · cases h
  · rename_i l hl
    simp only at h
    split at h
    · rename_i hc
      cases h
      simp only [Bool.and_eq_true] at hc
      rw [annot_map]
      exact ⟨⟨l, hl, .inl rfl⟩, chk_sound hc.1, hc.2⟩
    · split at h
      · rename_i hc
        cases h
        simp only [Bool.and_eq_true] at hc
        rw [annot_map]
        exact ⟨⟨l, hl, .inr (.inl rfl)⟩, chk_sound hc.1, hc.2⟩
      · split at h
        · rename_i hc
          cases h
          simp only [Bool.and_eq_true] at hc
          rw [annot_map]
          exact ⟨⟨l, hl, .inr (.inr rfl)⟩, chk_sound hc.1, hc.2⟩
        · cases h

section
variable {P : Program} {G : Nat → DV}

/-- What one operation did, in the text's order. -/
def DoF (P : Program) (G : Nat → DV) (d : DDOp) (t : List DV) (Hs : List (List Blk)) (h : List Blk) (v : DV) (h1 : List Blk) : Prop :=
  (isHeavy d.o = true → vcO P G d.o.op (Opd.ev G t) h (fun v1 h2 => v1 = v ∧ h2 = h1) ∧ (∀ m, m ∈ d.fr → HV (Hs.getD m []) h1)) ∧
  (isHeavy d.o = false → vcO P G d.o.op (Opd.ev G t) (Hs.getD d.a []) (fun v1 _ => v1 = v))
def StepF (P : Program) (G : Nat → DV) (d : DDOp) (t : List DV) (Hs : List (List Blk)) (h : List Blk) (v : DV) (Hs1 : List (List Blk)) (h1 : List Blk) : Prop :=
  (isHeavy d.o = true → Hs1 = Hs ++ [h1]) ∧ (isHeavy d.o = false → Hs1 = Hs ∧ h1 = h) ∧
  match d.o.guard with
  | none => DoF P G d t Hs h v h1
  | some (g, want) => (∃ b, t.getD g .any = .p (.bool b) ∧ (b = want → DoF P G d t Hs h v h1) ∧ (b ≠ want → v = .tup [] ∧ h1 = h)) ∨ (t.getD g .any = .tup [] ∧ v = .tup [] ∧ h1 = h)

inductive Trc (P : Program) (G : Nat → DV) : List DDOp → List DV → List (List Blk) → List Blk → List DV → List DV → List (List Blk) → List Blk → Prop
  | nil {t Hs h} : Trc P G [] t Hs h [] t Hs h
  | cons {d l t Hs h v Hs1 h1 vs t' Hs' h'} : StepF P G d t Hs h v Hs1 h1 → Trc P G l (putL t d.o.dst v) Hs1 h1 vs t' Hs' h' → Trc P G (d :: l) t Hs h (v :: vs) t' Hs' h'

theorem stepD_det {d : DDOp} (hdet : d.o.op.det = true) {t : List DV} {Hs : List (List Blk)} {h : List Blk} {K : DV → List (List Blk) → List Blk → Prop} (H : stepD P G d t Hs h K) :
    ∃ v Hs1 h1, (isHeavy d.o = true → Hs1 = Hs ++ [h1]) ∧ (isHeavy d.o = false → Hs1 = Hs ∧ h1 = h) ∧ DoF P G d t Hs h v h1 ∧ K v Hs1 h1 := by
  unfold stepD at H
  split at H
  · rename_i hh
    obtain ⟨v, h', h1, h2, h3⟩ := vcO_det hdet H
    have hh' : isHeavy d.o = true := hh
    exact ⟨v, _, h', fun _ => rfl, fun h => absurd (hh'.symm.trans h) (by decide), ⟨fun _ => ⟨h1, h2⟩, fun h => absurd (hh'.symm.trans h) (by decide)⟩, h3⟩
  · rename_i hh
    obtain ⟨v, h', h1, h3⟩ := vcO_det hdet H
    have hh' : isHeavy d.o = false := by simpa [isHeavy] using hh
    exact ⟨v, _, h, fun h => absurd (hh'.symm.trans h) (by decide), fun _ => ⟨rfl, rfl⟩, ⟨fun h => absurd (hh'.symm.trans h) (by decide), fun _ => vcO_mono (fun v1 h1 hv => hv.1) h1⟩, h3⟩

theorem vcD_trace {K : List DV → List Blk → Prop} : ∀ (l : List DDOp) (t : List DV) (Hs : List (List Blk)) (h : List Blk), (∀ x, x ∈ l → x.o.op.det = true) → vcD P G l t Hs h K → ∃ vs t' Hs' h', Trc P G l t Hs h vs t' Hs' h' ∧ K t' h'
  | [], t, Hs, h, hdet, H => ⟨[], t, Hs, h, .nil, by rw [vcD] at H; exact H⟩
  | d :: l, t, Hs, h, hdet, H => by
    rw [vcD] at H
    have hdl : ∀ x, x ∈ l → x.o.op.det = true := fun x hx => hdet x (List.mem_cons_of_mem _ hx)
    have hd0 := hdet d List.mem_cons_self
    split at H
    · rename_i hg
      obtain ⟨v, Hs1, h1, g1, g2, g3, g4⟩ := stepD_det hd0 H
      obtain ⟨vs, t', Hs', h', g5, g6⟩ := vcD_trace l _ _ _ hdl g4
      exact ⟨v :: vs, t', Hs', h', .cons ⟨g1, g2, by rw [hg]; exact g3⟩ g5, g6⟩
    · rename_i g want hg
      split at H
      · rename_i b hb
        by_cases hbw : b = want
        · rw [if_pos hbw] at H
          obtain ⟨v, Hs1, h1, g1, g2, g3, g4⟩ := stepD_det hd0 H
          obtain ⟨vs, t', Hs', h', g5, g6⟩ := vcD_trace l _ _ _ hdl g4
          exact ⟨v :: vs, t', Hs', h', .cons ⟨g1, g2, by rw [hg]; exact .inl ⟨b, hb, fun _ => g3, fun h => (h hbw).elim⟩⟩ g5, g6⟩
        · rw [if_neg hbw] at H
          obtain ⟨vs, t', Hs', h', g5, g6⟩ := vcD_trace l _ _ _ hdl H
          refine ⟨.tup [] :: vs, t', Hs', h', .cons (Hs1 := if d.o.op.heavy = true then Hs ++ [h] else Hs) (h1 := h) ⟨fun hh => ?_, fun hh => ?_, by rw [hg]; exact .inl ⟨b, hb, fun h => (hbw h).elim, fun _ => ⟨rfl, rfl⟩⟩⟩ g5, g6⟩
          · have : d.o.op.heavy = true := hh
            rw [if_pos this]
          · have : d.o.op.heavy = false := hh
            rw [if_neg (by rw [this]; decide)]
            exact ⟨rfl, rfl⟩
      · rename_i hb
        obtain ⟨vs, t', Hs', h', g5, g6⟩ := vcD_trace l _ _ _ hdl H
        refine ⟨.tup [] :: vs, t', Hs', h', .cons (Hs1 := if d.o.op.heavy = true then Hs ++ [h] else Hs) (h1 := h) ⟨fun hh => ?_, fun hh => ?_, by rw [hg]; exact .inr ⟨hb, rfl, rfl⟩⟩ g5, g6⟩
        · have : d.o.op.heavy = true := hh
          rw [if_pos this]
        · have : d.o.op.heavy = false := hh
          rw [if_neg (by rw [this]; decide)]
          exact ⟨rfl, rfl⟩
      · exact H.elim

/-- The slots, where some of the operations were run. -/
def putD (D : Nat → Bool) : Nat → List DDOp → List DV → List DV → List DV
  | i, d :: l, v :: vs, t => putD D (i + 1) l vs (if D i = true then putL t d.o.dst v else t)
  | _, _, _, t => t

theorem putL_length (t : List DV) (dst : Option Nat) (v : DV) : (putL t dst v).length = t.length := by cases dst <;> simp [putL]
theorem putD_length (D : Nat → Bool) : ∀ (i : Nat) (l : List DDOp) (vs t : List DV), (putD D i l vs t).length = t.length
  | i, d :: l, v :: vs, t => by rw [putD, putD_length D]; split <;> simp [putL_length]
  | _, [], _, _ => by simp [putD]
  | _, _ :: _, [], _ => by simp [putD]
theorem putL_get {t : List DV} {dst : Option Nat} {v : DV} {x : Nat} (hx : dst ≠ some x) : (putL t dst v).getD x .any = t.getD x .any := by
  cases dst with
  | none => rfl
  | some d =>
    have : d ≠ x := fun h => hx (by rw [h])
    simp [putL, List.getD, List.getElem?_set_ne this]
theorem putL_same {t : List DV} {v : DV} {x : Nat} (hx : x < t.length) : (putL t (some x) v).getD x .any = v := by
  simp [putL, List.getD, hx]

theorem putD_other (D : Nat → Bool) (x : Nat) : ∀ (i : Nat) (l : List DDOp) (vs t : List DV), (∀ j d, l[j]? = some d → d.o.dst = some x → D (i + j) = false) → (putD D i l vs t).getD x .any = t.getD x .any
  | i, d :: l, v :: vs, t, h => by
    rw [putD, putD_other D x (i + 1) l vs _ (fun j d' hd hx => by rw [show i + 1 + j = i + (j + 1) by omega]; exact h (j + 1) d' (by simpa using hd) hx)]
    split
    · rename_i hD
      refine putL_get fun hx => ?_
      have := h 0 d rfl hx
      rw [Nat.add_zero] at this
      rw [this] at hD; cases hD
    · rfl
  | _, [], _, _, _ => by simp [putD]
  | _, _ :: _, [], _, _ => by simp [putD]

theorem putD_one (D : Nat → Bool) (x : Nat) : ∀ (i : Nat) (l : List DDOp) (vs t : List DV), vs.length = l.length → x < t.length → ∀ j d, l[j]? = some d → d.o.dst = some x → D (i + j) = true → (∀ j' d', l[j']? = some d' → d'.o.dst = some x → j' = j) → (putD D i l vs t).getD x .any = vs.getD j .any
  | i, d :: l, v :: vs, t, hl, hx, 0, d0, hd, hdx, hD, hu => by
    simp only [List.getElem?_cons_zero, Option.some.injEq] at hd
    subst hd
    rw [Nat.add_zero] at hD
    rw [putD, if_pos hD, putD_other D x (i + 1) l vs _ (fun j d' hd' hx' => by have := hu (j + 1) d' (by simpa using hd') hx'; omega), hdx, putL_same hx]
    rfl
  | i, d :: l, v :: vs, t, hl, hx, j + 1, d0, hd, hdx, hD, hu => by
    rw [putD, putD_one D x (i + 1) l vs _ (by simpa using hl) (by split <;> simpa [putL_length] using hx) j d0 (by simpa using hd) hdx (by rw [show i + 1 + j = i + (j + 1) by omega]; exact hD) (fun j' d' hd' hx' => by have := hu (j' + 1) d' (by simpa using hd') hx'; omega)]
    simp [List.getD]
  | _, [], _, _, _, _, j, _, hd, _, _, _ => by simp at hd
  | _, _ :: _, [], _, hl, _, _, _, _, _, _, _ => by simp at hl

theorem putD_none {D : Nat → Bool} : ∀ (i : Nat) (l : List DDOp) (vs t : List DV), (∀ j, i ≤ j → D j = false) → putD D i l vs t = t
  | i, d :: l, v :: vs, t, h => by rw [putD, if_neg (by rw [h i (Nat.le_refl _)]; decide)]; exact putD_none (i + 1) l vs t fun j hj => h j (by omega)
  | _, [], _, _, _ => by simp [putD]
  | _, _ :: _, [], _, _ => by simp [putD]

def cntD (l : List DDOp) (i : Nat) : Nat := cnt (l.map (·.o)) i
theorem cntD_zero (l : List DDOp) : cntD l 0 = 0 := by simp [cntD, cnt]
theorem cntD_succ (d : DDOp) (l : List DDOp) (i : Nat) : cntD (d :: l) (i + 1) = (if isHeavy d.o = true then 1 else 0) + cntD l i := by
  simp only [cntD, cnt, List.map_cons, List.take_succ_cons, List.countP_cons]
  omega

theorem Trc.at {l : List DDOp} {t : List DV} {Hs : List (List Blk)} {h : List Blk} {vs t' : List DV} {Hs' : List (List Blk)} {h' : List Blk} (H : Trc P G l t Hs h vs t' Hs' h') : ∀ (i0 : Nat) (Rs : List (List Blk)), Rs.length = Hs.length → (∃ X, Rs = X ++ [h]) → ∃ Rs',
    vs.length = l.length ∧ t' = putD (fun _ => true) i0 l vs t ∧ Hs <+: Hs' ∧ Hs'.length = Hs.length + cntD l l.length ∧ Rs <+: Rs' ∧ Rs'.length = Hs'.length ∧ (∃ X, Rs' = X ++ [h']) ∧ (∀ k, Hs.length ≤ k → Rs'[k]? = Hs'[k]?) ∧
    ∀ i d, l[i]? = some d → StepF P G d (putD (fun j => decide (j < i0 + i)) i0 l vs t) (Hs'.take (Hs.length + cntD l i)) (Rs'.getD (Hs.length - 1 + cntD l i) []) (vs.getD i .any) (Hs'.take (Hs.length + cntD l (i + 1))) (Rs'.getD (Hs.length - 1 + cntD l (i + 1)) []) := by
  induction H with
  | nil =>
    intro i0 Rs hlR hX
    exact ⟨Rs, rfl, by simp [putD], List.prefix_refl _, by simp [cntD, cnt], List.prefix_refl _, hlR, hX, fun k hk => by rw [List.getElem?_eq_none (by omega), List.getElem?_eq_none hk], fun i d hi => by simp at hi⟩
  | @cons d l t Hs h v Hs1 h1 vs t' Hs' h' hs ht ih =>
    intro i0 Rs hlR hX
    have hX1 : ∃ X, (if isHeavy d.o = true then Rs ++ [h1] else Rs) = X ++ [h1] := by
      cases hh : isHeavy d.o with
      | true => exact ⟨Rs, by simp⟩
      | false => obtain ⟨g1, g2⟩ := hs.2.1 hh; rw [g2]; simpa using hX
    have hl1 : Hs1.length = Hs.length + (if isHeavy d.o = true then 1 else 0) := by
      cases hh : isHeavy d.o with
      | true => rw [hs.1 hh]; simp
      | false => rw [(hs.2.1 hh).1]; simp
    have hlR1 : (if isHeavy d.o = true then Rs ++ [h1] else Rs).length = Hs1.length := by
      rw [hl1]
      split <;> simp [hlR]
    have hp1 : Hs <+: Hs1 := by
      cases hh : isHeavy d.o with
      | true => rw [hs.1 hh]; exact List.prefix_append _ _
      | false => rw [(hs.2.1 hh).1]; exact List.prefix_refl _
    have hpR1 : Rs <+: (if isHeavy d.o = true then Rs ++ [h1] else Rs) := by
      split
      · exact List.prefix_append _ _
      · exact List.prefix_refl _
    obtain ⟨Rs', g1, g2, g3, g4, g3R, g4R, g5, gk, g6⟩ := ih (i0 + 1) _ hlR1 hX1
    have hlen : Hs.length ≠ 0 := by obtain ⟨X, hX⟩ := hX; rw [← hlR, hX]; simp
    have lastOf : ∀ {A B : List (List Blk)} {y : List Blk}, (∃ X, A = X ++ [y]) → A <+: B → B.getD (A.length - 1) [] = y := by
      intro A B y ⟨X, hA⟩ ⟨Y, hB⟩
      rw [← hB, hA]
      simp [List.getD]
    refine ⟨Rs', by simp [g1], by rw [g2]; simp [putD], hp1.trans g3, by rw [g4, hl1, List.length_cons, cntD_succ]; try omega, hpR1.trans g3R, g4R, g5, fun k hk => ?_, fun i d' hi => ?_⟩
    · by_cases hk1 : Hs1.length ≤ k
      · exact gk k hk1
      · cases hh : isHeavy d.o with
        | false => rw [hh] at hl1; simp at hl1; omega
        | true =>
          rw [hh] at hl1
          simp at hl1
          obtain rfl : k = Hs.length := by omega
          obtain ⟨Y, hY⟩ := g3R
          obtain ⟨Z, hZ⟩ := g3
          rw [hh] at hY
          rw [← hY, ← hZ, hs.1 hh]
          simp [hlR]
    cases i with
    | zero =>
      simp only [List.getElem?_cons_zero, Option.some.injEq] at hi
      subst hi
      rw [putD_none _ _ _ _ (fun j hj => by simp; omega), cntD_zero, cntD_succ, cntD_zero, Nat.add_zero, Nat.add_zero, Nat.add_zero]
      have e1 : Hs'.take Hs.length = Hs := (List.prefix_iff_eq_take.1 (hp1.trans g3)).symm
      have e2 : Hs'.take (Hs.length + (if isHeavy d.o = true then 1 else 0)) = Hs1 := by rw [← hl1]; exact (List.prefix_iff_eq_take.1 g3).symm
      have e3 : Rs'.getD (Hs.length - 1) [] = h := by rw [← hlR]; exact lastOf hX (hpR1.trans g3R)
      have e4 : Rs'.getD (Hs.length - 1 + (if isHeavy d.o = true then 1 else 0)) [] = h1 := by
        have := lastOf hX1 g3R
        rw [hlR1, hl1] at this
        rw [show Hs.length - 1 + (if isHeavy d.o = true then 1 else 0) = Hs.length + (if isHeavy d.o = true then 1 else 0) - 1 by omega]
        exact this
      rw [e1, e2, e3, e4]
      exact hs
    | succ i =>
      have := g6 i d' (by simpa using hi)
      have e1 : putD (fun j => decide (j < i0 + 1 + i)) (i0 + 1) l vs (putL t d.o.dst v) = putD (fun j => decide (j < i0 + (i + 1))) i0 (d :: l) (v :: vs) t := by
        rw [putD, if_pos (by simp)]
        congr 1
        funext j
        simp only [decide_eq_decide]
        try omega
      rw [e1, hl1] at this
      rw [cntD_succ, cntD_succ]
      simp only [List.getD_cons_succ]
      rw [show Hs.length + ((if isHeavy d.o = true then 1 else 0) + cntD l i) = Hs.length + (if isHeavy d.o = true then 1 else 0) + cntD l i by omega,
        show Hs.length + ((if isHeavy d.o = true then 1 else 0) + cntD l (i + 1)) = Hs.length + (if isHeavy d.o = true then 1 else 0) + cntD l (i + 1) by omega,
        show Hs.length - 1 + ((if isHeavy d.o = true then 1 else 0) + cntD l i) = Hs.length + (if isHeavy d.o = true then 1 else 0) - 1 + cntD l i by omega,
        show Hs.length - 1 + ((if isHeavy d.o = true then 1 else 0) + cntD l (i + 1)) = Hs.length + (if isHeavy d.o = true then 1 else 0) - 1 + cntD l (i + 1) by omega]
      exact this

/-! Counting. -/
theorem cntD_next (l : List DDOp) (i : Nat) (x : DDOp) (hx : l[i]? = some x) : cntD l (i + 1) = cntD l i + (if isHeavy x.o = true then 1 else 0) := by
  induction l generalizing i with
  | nil => simp at hx
  | cons d l ih =>
    cases i with
    | zero =>
      simp only [List.getElem?_cons_zero, Option.some.injEq] at hx
      subst hx
      rw [cntD_succ, cntD_zero, cntD_zero]
      omega
    | succ i =>
      rw [cntD_succ, cntD_succ, ih i (by simpa using hx)]
      omega
theorem cntD_mono (l : List DDOp) (i j : Nat) (h : i ≤ j) : cntD l i ≤ cntD l j := by
  simp only [cntD, cnt]
  exact List.Sublist.countP_le (List.take_sublist_take_left h)
theorem cntD_lt (l : List DDOp) (i j : Nat) (h : i < j) (x : DDOp) (hx : l[i]? = some x) (hh : isHeavy x.o = true) : cntD l i < cntD l j := by
  have h1 := cntD_next l i x hx
  have h2 := cntD_mono l (i + 1) j h
  rw [if_pos hh] at h1
  omega
theorem cntD_last (l : List DDOp) : ∀ i, i ≤ l.length → cntD l i = 0 ∨ ∃ j x, j < i ∧ l[j]? = some x ∧ isHeavy x.o = true ∧ cntD l j + 1 = cntD l i
  | 0, _ => .inl (cntD_zero l)
  | i + 1, hi => by
    have hx : l[i]? = some l[i] := List.getElem?_eq_getElem (by omega)
    have h1 := cntD_next l i _ hx
    cases hh : isHeavy l[i].o with
    | true => rw [if_pos hh] at h1; exact .inr ⟨i, _, by omega, hx, hh, h1.symm⟩
    | false =>
      rw [if_neg (by rw [hh]; decide), Nat.add_zero] at h1
      rcases cntD_last l i (by omega) with h | ⟨j, x, h2, h3, h4, h5⟩
      · exact .inl (by rw [h1]; exact h)
      · exact .inr ⟨j, x, by omega, h3, h4, by rw [h1]; exact h5⟩
theorem cntD_find (l : List DDOp) (m : Nat) : ∀ i, i ≤ l.length → m < cntD l i → ∃ j x, j < i ∧ l[j]? = some x ∧ isHeavy x.o = true ∧ cntD l j = m
  | 0, _, h => by rw [cntD_zero] at h; omega
  | i + 1, hi, h => by
    have hx : l[i]? = some l[i] := List.getElem?_eq_getElem (by omega)
    have h1 := cntD_next l i _ hx
    by_cases hm : m < cntD l i
    · obtain ⟨j, x, h2, h3⟩ := cntD_find l m i (by omega) hm
      exact ⟨j, x, by omega, h3⟩
    · cases hh : isHeavy l[i].o with
      | true => rw [if_pos hh] at h1; exact ⟨i, _, by omega, hx, hh, by omega⟩
      | false => rw [if_neg (by rw [hh]; decide)] at h1; omega

/-! What comes ahead. -/
theorem mask_fold (m : List Nat) : ∀ (ds : List Nat) (s x : Nat), (ds.foldl (fun s d => s ||| (2 ^ d ||| m.getD d 0)) s).testBit x = true → s.testBit x = true ∨ ∃ d, d ∈ ds ∧ (d = x ∨ (m.getD d 0).testBit x = true)
  | [], s, x, h => .inl h
  | d :: ds, s, x, h => by
    rw [List.foldl_cons] at h
    rcases mask_fold m ds _ x h with h | ⟨d', h1, h2⟩
    · rw [Nat.testBit_or, Nat.testBit_or, Bool.or_eq_true, Bool.or_eq_true] at h
      rcases h with h | h | h
      · exact .inl h
      · rw [Nat.testBit_two_pow] at h
        exact .inr ⟨d, List.mem_cons_self, .inl (by simpa using h)⟩
      · exact .inr ⟨d, List.mem_cons_self, .inr h⟩
    · exact .inr ⟨d', List.mem_cons_of_mem _ h1, h2⟩
theorem mask_spec {M : List Nat} {o : Oper} {x : Nat} (h : (maskOf M o).testBit x = true) : ∃ d, d ∈ depsOf o ∧ (d = x ∨ (M.getD d 0).testBit x = true) := by
  rcases mask_fold M (depsOf o) 0 x h with h | h
  · simp at h
  · exact h

theorem mask_in {ops : List Oper} {l : List DDOp} {M : List Nat} (C : Chk ops l M) {D : Nat → Bool} (hc : ∀ i, D i = true → i < ops.length ∧ ∀ o, ops[i]? = some o → ∀ d, d ∈ depsOf o → D d = true) :
    ∀ (j : Nat), D j = true → ∀ x, (M.getD j 0).testBit x = true → D x = true := by
  intro j
  induction j using Nat.strongRecOn with
  | _ j ih =>
    intro hj x hx
    obtain ⟨h1, h2⟩ := hc j hj
    have ho : ops[j]? = some ops[j] := List.getElem?_eq_getElem h1
    rw [C.mask j h1 _ ho] at hx
    obtain ⟨d, h3, h4⟩ := mask_spec hx
    have hd := h2 _ ho d h3
    rcases h4 with rfl | h4
    · exact hd
    · exact ih d (C.deps j h1 _ ho d h3) hd x h4
theorem mask_ready {ops : List Oper} {l : List DDOp} {M : List Nat} (C : Chk ops l M) {D : Nat → Bool} (hc : ∀ i, D i = true → i < ops.length ∧ ∀ o, ops[i]? = some o → ∀ d, d ∈ depsOf o → D d = true)
    {j : Nat} {o : Oper} (hj : j < ops.length) (ho : ops[j]? = some o) (hd : ∀ d, d ∈ depsOf o → D d = true) {x : Nat} (hx : (M.getD j 0).testBit x = true) : D x = true := by
  rw [C.mask j hj _ ho] at hx
  obtain ⟨d, h3, h4⟩ := mask_spec hx
  rcases h4 with rfl | h4
  · exact hd _ h3
  · exact mask_in C hc d (hd d h3) x h4
theorem mask_lt {ops : List Oper} {l : List DDOp} {M : List Nat} (C : Chk ops l M) : ∀ (j : Nat), j < ops.length → ∀ x, (M.getD j 0).testBit x = true → x < j := by
  intro j
  induction j using Nat.strongRecOn with
  | _ j ih =>
    intro hj x hx
    have ho : ops[j]? = some ops[j] := List.getElem?_eq_getElem hj
    rw [C.mask j hj _ ho] at hx
    obtain ⟨d, h3, h4⟩ := mask_spec hx
    have hd := C.deps j hj _ ho d h3
    rcases h4 with rfl | h4
    · exact hd
    · have := ih d hd (by omega) x h4
      omega

theorem cOps_get {ops : Array Oper} : ∀ (l : List Oper) (dl : List DOper), cOps P ops l = some dl → dl.length = l.length ∧ ∀ (i : Nat) (o : Oper) (x : DOper), l[i]? = some o → dl[i]? = some x → cOper P ops o = some x
  | [], dl, h => by cases h; exact ⟨rfl, fun i o x h => by simp at h⟩
  | o :: l, dl, h => by
    simp only [cOps] at h
    cases hd : cOper P ops o with
    | none => rw [hd] at h; cases h
    | some d =>
    cases hrest : cOps P ops l with
    | none => rw [hd, hrest] at h; cases h
    | some dr =>
    rw [hd, hrest] at h
    cases h
    obtain ⟨h1, h2⟩ := cOps_get l dr hrest
    refine ⟨by simp [h1], fun i o' x ho hx => ?_⟩
    cases i with
    | zero => simp at ho hx; rw [← ho, ← hx]; exact hd
    | succ i => exact h2 i o' x (by simpa using ho) (by simpa using hx)

theorem list_ext_getD {a b : List DV} (hl : a.length = b.length) (h : ∀ x, x < a.length → a.getD x .any = b.getD x .any) : a = b := by
  refine List.ext_getElem hl fun x h1 h2 => ?_
  have := h x h1
  simpa [List.getD, h1, h2] using this

/-- One more operation was run. -/
theorem putD_more {l : List DDOp} {vs t : List DV} {D D' : Nat → Bool} (hv : vs.length = l.length) {i : Nat} {x : DDOp} (hx : l[i]? = some x) (hD : D i = false) (hD' : ∀ j, D' j = (D j || decide (j = i)))
    (hu : ∀ (j j' : Nat) (y y' : DDOp), l[j]? = some y → l[j']? = some y' → ∀ s, y.o.dst = some s → y'.o.dst = some s → j = j') : putL (putD D 0 l vs t) x.o.dst (vs.getD i .any) = putD D' 0 l vs t := by
  refine list_ext_getD (by simp [putL_length, putD_length]) fun s hs => ?_
  rw [putL_length, putD_length] at hs
  by_cases hxs : x.o.dst = some s
  · rw [hxs, putL_same (by rw [putD_length]; exact hs), putD_one D' s 0 l vs t hv hs i x hx hxs (by rw [Nat.zero_add, hD']; simp) (fun j' d' h1 h2 => hu j' i d' x h1 hx s h2 hxs)]
  · rw [putL_get hxs]
    by_cases hex : ∃ (j : Nat) (y : DDOp), l[j]? = some y ∧ y.o.dst = some s
    · obtain ⟨j, y, hy, hys⟩ := hex
      have hji : j ≠ i := fun h => by subst h; rw [hx] at hy; cases hy; exact hxs hys
      have hDj : D' j = D j := by rw [hD']; simp [hji]
      cases hj : D j with
      | true => rw [putD_one D s 0 l vs t hv hs j y hy hys (by rw [Nat.zero_add]; exact hj) (fun j' d' h1 h2 => hu j' j d' y h1 hy s h2 hys), putD_one D' s 0 l vs t hv hs j y hy hys (by rw [Nat.zero_add, hDj]; exact hj) (fun j' d' h1 h2 => hu j' j d' y h1 hy s h2 hys)]
      | false =>
        rw [putD_other D s 0 l vs t (fun j' d' h1 h2 => by rw [hu j' j d' y h1 hy s h2 hys, Nat.zero_add]; exact hj), putD_other D' s 0 l vs t (fun j' d' h1 h2 => by rw [hu j' j d' y h1 hy s h2 hys, Nat.zero_add, hDj]; exact hj)]
    · rw [putD_other D s 0 l vs t (fun j' d' h1 h2 => (hex ⟨j', d', h1, h2⟩).elim), putD_other D' s 0 l vs t (fun j' d' h1 h2 => (hex ⟨j', d', h1, h2⟩).elim)]

theorem putD_congr {D D' : Nat → Bool} : ∀ (i : Nat) (l : List DDOp) (vs t : List DV), (∀ j, j < l.length → D (i + j) = D' (i + j)) → putD D i l vs t = putD D' i l vs t
  | i, d :: l, v :: vs, t, h => by
    rw [putD, putD, show D i = D' i from h 0 (by simp)]
    exact putD_congr (i + 1) l vs _ fun j hj => by have := h (j + 1) (by simpa using hj); rw [show i + 1 + j = i + (j + 1) by omega]; exact this
  | _, [], _, _, _ => by simp [putD]
  | _, _ :: _, [], _, _ => by simp [putD]


/-- An operation as it is, or its literal frozen. -/
def cOpR (P : Program) (o : Oper) (d : DO) : Prop := d = cOpS P o ∨ d = (cOpS P o).frz ∨ d = (cOpS P o).pur
theorem opR {o : Oper} {x x0 : DOper} (h0 : x0.op = cOpS P o) (hx : x = x0 ∨ x = frzO x0 ∨ x = purO x0) : cOpR P o x.op := by
  rcases hx with hx | hx | hx
  · exact .inl (by rw [hx, h0])
  · exact .inr (.inl (by rw [hx, ← h0]; rfl))
  · exact .inr (.inr (by rw [hx, ← h0]; rfl))
/-- A call that leaves the memory as it is, is a call. -/
theorem vcO_pur {d : DO} {ev : Opd → DV} {h : List Blk} {K : DV → List Blk → Prop} (H : vcO P G d.pur ev h K) : vcO P G d ev h K := by
  cases d <;> first | exact H | skip
  rename_i f args
  obtain ⟨v, h1, h2⟩ := H
  exact ⟨v, h, h1 h (HV.refl h), h2⟩
theorem sound_opS {e : Env} {w : World} {t : List DV} {a : Act} {K : DV → List Blk → Prop} {o : Oper} (hg : GR e G) (ht : TR e t a.tmps) (hH : e.H = w.heap) (hr : HR e) (h : vcO P G (cOpS P o) (Opd.ev G t) e.h K) : Yields P (execOp a.eval o) w (After e w K) := by
  unfold cOpS at h
  cases hc : cOp P o with
  | none => rw [hc] at h; exact h.elim
  | some d => rw [hc] at h; exact sound_op hc hg ht hH hr h
theorem sound_oprS {e : Env} {w : World} {t : List DV} {a : Act} {K : DV → List Blk → Prop} {o : Oper} (hg : GR e G) (ht : TR e t a.tmps) (hH : e.H = w.heap) (hr : HR e) (h : vcO P G (cOpS P o).rel (Opd.ev G t) e.h K) : Yields P (execOp a.eval o) w (After e w K) := by
  unfold cOpS at h
  cases hc : cOp P o with
  | none => rw [hc] at h; exact h.elim
  | some d => rw [hc] at h; exact sound_opr hc hg ht hH hr h
theorem sound_opR {e : Env} {w : World} {t : List DV} {a : Act} {K : DV → List Blk → Prop} {o : Oper} {d : DO} (hc : cOpR P o d) (hg : GR e G) (ht : TR e t a.tmps) (hH : e.H = w.heap) (hr : HR e) (h : vcO P G d (Opd.ev G t) e.h K) : Yields P (execOp a.eval o) w (After e w K) := by
  rcases hc with rfl | rfl | rfl
  · exact sound_opS hg ht hH hr h
  rotate_left
  · exact sound_opS hg ht hH hr (vcO_pur h)
  · unfold cOpS at h
    cases h0 : cOp P o with
    | none => rw [h0] at h; exact h.elim
    | some d0 =>
      rw [h0] at h
      simp only [Option.getD_some] at h
      cases d0 <;> first | exact sound_op h0 hg ht hH hr h | skip
      rename_i sz els
      exact sound_litz h0 hg ht hH hr h

/-- A state, since the call began. -/
structure RelE (G : Nat → DV) (D : List Deferred) (n : Nat) (e0 : Env) (w0 : World) (e : Env) (s : St) (a : Act) (w : World) : Prop where
  r : RelS G D e s a w
  ev : Ev n e0 e
  ws : WS w0 w
  le : n ≤ e0.h.length

variable {D : List Deferred}
theorem RelE.step {n : Nat} {e0 : Env} {w0 : World} {e : Env} {s : St} {a : Act} {w : World} (h : RelE G D n e0 w0 e s a w) {e' : Env} {d : DV} {v : Value} {w' : World} (hH : e'.H = w'.heap) (hw : WS w w') (hr : HR e') (ev : Ev e.h.length e e') (hv : VR e' d v) (dst : Option Nat) :
    RelE G D n e0 w0 e' (s.put dst d e'.h) (a.put dst v) w' := by
  refine ⟨⟨by cases dst <;> rfl, hH, hr, h.r.gr.mono ev, (h.r.tr.mono ev).put dst hv _, ?_⟩, h.ev.trans ev (h.ev.len), h.ws.trans hw, h.le⟩
  cases dst <;> exact h.r.df

theorem guard_yielded {t : List DV} {a : Act} {e : Env} (ht : TR e t a.tmps) {ops : Array Oper} {j g : Nat} (hg : (ops[j]?).bind (·.dst) = some g) {b : Bool} (hb : t.getD g .any = .p (.bool b)) : yielded ops a.tmps j = some b := by
  unfold yielded
  rw [hg]
  simp only [Option.bind_some]
  by_cases h : g < t.length
  · have := ht.2 g h (ht.1 ▸ h)
    rw [show t.getD g .any = t[g] by simp [List.getD, h]] at hb
    rw [hb] at this
    have hv := (vr_p this).1
    rw [Array.getElem?_eq_getElem (ht.1 ▸ h), hv]
  · simp [List.getD, List.getElem?_eq_none (Nat.le_of_not_lt h)] at hb


theorem vr_undef {e : Env} : VR e (.tup []) undef := .tup rfl (fun i hi => absurd hi (by simp))
theorem guard_none {t : List DV} {a : Act} {e : Env} (ht : TR e t a.tmps) {ops : Array Oper} {j g : Nat} (hg : (ops[j]?).bind (·.dst) = some g) (hb : t.getD g .any = .tup []) : yielded ops a.tmps j = none := by
  unfold yielded
  rw [hg]
  simp only [Option.bind_some]
  by_cases h : g < t.length
  · have := ht.2 g h (ht.1 ▸ h)
    rw [show t.getD g .any = t[g] by simp [List.getD, h]] at hb
    rw [hb] at this
    obtain ⟨us, hv, hl, _⟩ := vr_tup this
    rw [Array.getElem?_eq_getElem (ht.1 ▸ h), hv]
  · simp [List.getD, List.getElem?_eq_none (Nat.le_of_not_lt h)] at hb

def DL (listed : Array Bool) (i : Nat) : Bool := listed.getD i false

/-- How it stands, somewhere on the way. -/
structure Mid (P : Program) (G : Nat → DV) (D : List Deferred) (n : Nat) (e0 : Env) (w0 : World) (ops : List Oper) (l : List DDOp) (vs t0 : List DV) (Hf : Nat → List Blk) (listed : Array Bool) (k : Nat) (e : Env) (a : Act) (w : World) : Prop where
  size : listed.size = ops.length
  closed : ∀ i, DL listed i = true → ∀ o, ops[i]? = some o → ∀ d, d ∈ depsOf o → DL listed d = true
  hk : ∀ i x, l[i]? = some x → isHeavy x.o = true → (DL listed i = true ↔ cntD l i < k)
  kle : k ≤ cntD l l.length
  rel : RelE G D n e0 w0 e ⟨putD (DL listed) 0 l vs t0, Hf k⟩ a w

theorem DL_set {listed : Array Bool} {i : Nat} (hi : i < listed.size) (j : Nat) : DL (listed.setIfInBounds i true) j = (DL listed j || decide (j = i)) := by
  unfold DL
  simp only [Array.getD_eq_getD_getElem?]
  by_cases h : i = j
  · subst h
    simp [Array.getElem?_setIfInBounds_self_of_lt hi]
  · rw [Array.getElem?_setIfInBounds_ne h]
    have : ¬ j = i := fun e => h e.symm
    simp [this]

theorem ready_spec {ops : Array Oper} {listed : Array Bool} {i : Nat} (hs : listed.size = ops.size) (h : i ∈ Region.ready .any ops listed) : i < ops.size ∧ DL listed i = false ∧ ∀ o, ops[i]? = some o → ∀ d, d ∈ depsOf o → DL listed d = true := by
  simp only [Region.ready, List.mem_filter, List.mem_range, Bool.and_eq_true, Bool.not_eq_true'] at h
  obtain ⟨h1, h2, h3⟩ := h
  refine ⟨h1, ?_, fun o ho d hd => ?_⟩
  · unfold DL
    rw [Array.getD_eq_getD_getElem?] at h2 ⊢
    rw [Array.getElem?_eq_getElem (by omega)] at h2 ⊢
    simpa using h2
  · rw [ho] at h3
    simp only [Option.map_some, Option.getD_some, Array.all_eq_true_iff_forall_mem, Bool.or_eq_true, Bool.not_eq_true'] at h3
    simp only [depsOf, List.mem_map, List.mem_filter, Array.mem_toList_iff] at hd
    obtain ⟨e, ⟨he1, he2⟩, rfl⟩ := hd
    rcases h3 e he1 with h | h
    · rw [h] at he2; cases he2
    · exact h

theorem ready_nil {ops : Array Oper} {l : List DDOp} {M : List Nat} (C : Chk ops.toList l M) {listed : Array Bool} (hs : listed.size = ops.size) (h : Region.ready .any ops listed = []) : ∀ i, i < ops.size → DL listed i = true := by
  intro i
  induction i using Nat.strongRecOn with
  | _ i ih =>
    intro hi
    cases hD : DL listed i with
    | true => rfl
    | false =>
      have : i ∈ Region.ready .any ops listed := by
        simp only [Region.ready, List.mem_filter, List.mem_range, Bool.and_eq_true, Bool.not_eq_true']
        have ho : ops[i]? = some ops[i] := Array.getElem?_eq_getElem hi
        have ho' : ops.toList[i]? = some ops[i] := by simpa using ho
        refine ⟨hi, ?_, ?_⟩
        · unfold DL at hD
          rw [Array.getD_eq_getD_getElem?] at hD ⊢
          rw [Array.getElem?_eq_getElem (by omega)] at hD ⊢
          simpa using hD
        · rw [ho]
          simp only [Option.map_some, Option.getD_some, Array.all_eq_true_iff_forall_mem, Bool.or_eq_true, Bool.not_eq_true']
          intro e he
          cases hb : Region.binds .any e with
          | false => exact .inl rfl
          | true =>
            have hd : e.on ∈ depsOf ops[i] := by
              simp only [depsOf, List.mem_map, List.mem_filter, Array.mem_toList_iff]
              exact ⟨e, ⟨he, hb⟩, rfl⟩
            have hlt := C.deps i (by simpa using hi) _ ho' _ hd
            exact .inr (ih e.on hlt (by omega))
      rw [h] at this
      cases this

/-- How many are still to be run. -/
def left (n : Nat) (listed : Array Bool) : Nat := ((List.range n).filter fun i => !DL listed i).length
theorem left_lt {n : Nat} {listed : Array Bool} {i : Nat} (hs : listed.size = n) (hi : i < n) (hD : DL listed i = false) : left n (listed.setIfInBounds i true) < left n listed := by
  unfold left
  have : (List.range n).filter (fun j => !DL (listed.setIfInBounds i true) j) = ((List.range n).filter fun j => !DL listed j).filter fun j => decide (j ≠ i) := by
    rw [List.filter_filter]
    refine List.filter_congr fun j _ => ?_
    rw [DL_set (by omega)]
    by_cases h : j = i <;> simp [h]
  rw [this]
  exact List.length_filter_lt_length_iff_exists.2 ⟨i, by simp [hi, hD], by simp⟩
theorem left_zero {n : Nat} {listed : Array Bool} (h : left n listed = 0) : ∀ i, i < n → DL listed i = true := by
  intro i hi
  unfold left at h
  rw [List.length_eq_zero_iff, List.filter_eq_nil_iff] at h
  have := h i (List.mem_range.2 hi)
  simpa using this


section
variable {n : Nat} {e0 : Env} {w0 : World} {ops : Array Oper} {l : List DDOp} {M : List Nat} {vs t0 : List DV} {Hs Rs : List (List Blk)}

def Facts (P : Program) (G : Nat → DV) (l : List DDOp) (vs t0 : List DV) (Hs Rs : List (List Blk)) : Prop :=
  ∀ i d, l[i]? = some d → StepF P G d (putD (fun j => decide (j < i)) 0 l vs t0) (Hs.take (1 + cntD l i)) (Rs.getD (cntD l i) []) (vs.getD i .any) (Hs.take (1 + cntD l (i + 1))) (Rs.getD (cntD l (i + 1)) [])

theorem uniq_dst (C : Chk ops.toList l M) : ∀ (j j' : Nat) (y y' : DDOp), l[j]? = some y → l[j']? = some y' → ∀ s, y.o.dst = some s → y'.o.dst = some s → j = j' := by
  intro j j' y y' h1 h2 s h3 h4
  by_cases h : j = j'
  · exact h
  · have hj : j < l.length := (List.getElem?_eq_some_iff.1 h1).1
    have hj' : j' < l.length := (List.getElem?_eq_some_iff.1 h2).1
    exact ((C.dst j hj j' hj' y y' h1 h2 s h3).1 h h4).elim

theorem mid_closed {listed : Array Bool} {k : Nat} {e : Env} {a : Act} {w : World} (m : Mid P G D n e0 w0 ops.toList l vs t0 (fun k => Hs.getD k []) listed k e a w) :
    ∀ i, DL listed i = true → i < ops.toList.length ∧ ∀ o, ops.toList[i]? = some o → ∀ d, d ∈ depsOf o → DL listed d = true := by
  intro i hi
  refine ⟨?_, m.closed i hi⟩
  rw [← m.size]
  unfold DL at hi
  rw [Array.getD_eq_getD_getElem?] at hi
  rcases Nat.lt_or_ge i listed.size with h | h
  · exact h
  · rw [Array.getElem?_eq_none h] at hi; cases hi

theorem slots_eq (C : Chk ops.toList l M) (hv : vs.length = l.length) {D : Nat → Bool} {i : Nat} {x : DDOp} (hx : l[i]? = some x) (hD : D i = false) (hin : ∀ j, (M.getD i 0).testBit j = true → D j = true ∧ j < i) (hout : ∀ j, j < l.length → (M.getD j 0).testBit i = true → D j = false ∧ i < j) {s : Nat} (hs : s ∈ looks x.o) :
    (putD D 0 l vs t0).getD s .any = (putD (fun j => decide (j < i)) 0 l vs t0).getD s .any := by
  by_cases hlt : s < t0.length
  · by_cases hex : ∃ (j : Nat) (y : DDOp), l[j]? = some y ∧ y.o.dst = some s
    · obtain ⟨j, y, hy, hys⟩ := hex
      have hj : j < l.length := (List.getElem?_eq_some_iff.1 hy).1
      have hi : i < l.length := (List.getElem?_eq_some_iff.1 hx).1
      have u : ∀ j' d', l[j']? = some d' → d'.o.dst = some s → j' = j := fun j' d' h1 h2 => uniq_dst C j' j d' y h1 hy s h2 hys
      have both : ∀ b, D j = b → decide (j < i) = b → (putD D 0 l vs t0).getD s .any = (putD (fun j => decide (j < i)) 0 l vs t0).getD s .any := by
        intro b h1 h2
        cases b with
        | true => rw [putD_one D s 0 l vs t0 hv hlt j y hy hys (by rw [Nat.zero_add]; exact h1) u, putD_one _ s 0 l vs t0 hv hlt j y hy hys (by rw [Nat.zero_add]; exact h2) u]
        | false => rw [putD_other D s 0 l vs t0 (fun j' d' g1 g2 => by rw [u j' d' g1 g2, Nat.zero_add]; exact h1), putD_other _ s 0 l vs t0 (fun j' d' g1 g2 => by rw [u j' d' g1 g2, Nat.zero_add]; exact h2)]
      rcases (C.dst j hj i hi y x hy hx s hys).2 hs with h | h | h
      · subst h
        exact both false hD (by simp)
      · obtain ⟨h1, h2⟩ := hin j h
        exact both true h1 (by simp [h2])
      · obtain ⟨h1, h2⟩ := hout j hj h
        exact both false h1 (by simp; omega)
    · rw [putD_other D s 0 l vs t0 (fun j' d' h1 h2 => (hex ⟨j', d', h1, h2⟩).elim), putD_other _ s 0 l vs t0 (fun j' d' h1 h2 => (hex ⟨j', d', h1, h2⟩).elim)]
  · have hn : ∀ D', (putD D' 0 l vs t0).getD s .any = .any := fun D' => by simp [List.getD, List.getElem?_eq_none (show (putD D' 0 l vs t0).length ≤ s by rw [putD_length]; omega)]
    rw [hn, hn]

theorem drawn_step (C : Chk ops.toList l M) (hco : Comp P ops (l.map (·.o))) (hv : vs.length = l.length) (hF : Facts P G l vs t0 Hs Rs) (hVR : ∀ k, k ≤ cntD l l.length → HV (Hs.getD k []) (Rs.getD k [])) {Q : Exit → Act → World → Prop} {Kk : Act → World → Prop}
    {listed : Array Bool} {k : Nat} {e : Env} {a : Act} {w : World} (m : Mid P G D n e0 w0 ops.toList l vs t0 (fun k => Rs.getD k []) listed k e a w) {i : Nat} (hi : i ∈ Region.ready .any ops listed)
    (hK : ∀ k' e' a' w', Mid P G D n e0 w0 ops.toList l vs t0 (fun k => Rs.getD k []) (listed.setIfInBounds i true) k' e' a' w' → Kk a' w') : wpOp P ops Q i Kk a w := by
  have hsz : listed.size = ops.size := by rw [m.size]; simp
  obtain ⟨h1, hDi, hdeps⟩ := ready_spec hsz hi
  have ho : ops[i]? = some ops[i] := Array.getElem?_eq_getElem h1
  have ho' : ops.toList[i]? = some ops[i] := by simpa using ho
  generalize ops[i] = o at ho ho'
  have hil : i < l.length := by rw [C.len]; simpa using h1
  have hx : l[i]? = some l[i] := List.getElem?_eq_getElem hil
  generalize l[i] = x at hx
  have hcl := mid_closed m
  obtain ⟨x0, hcO, hx0⟩ : ∃ x0, cOper P ops o = some x0 ∧ (x.o = x0 ∨ x.o = frzO x0 ∨ x.o = purO x0) := by
    obtain ⟨l0, q1, q2⟩ := hco
    have hlen := (cOps_get ops.toList _ q1).1
    have hx0 : l0[i]? = some (l0[i]'(by rw [hlen]; simpa using h1)) := List.getElem?_eq_getElem _
    refine ⟨_, (cOps_get ops.toList _ q1).2 i o _ ho' hx0, ?_⟩
    rcases q2 with q2 | q2 | q2
    · have : (l.map (·.o))[i]? = some x.o := by simp [hx]
      rw [q2, hx0] at this
      exact .inl (by simpa using this.symm)
    · have : (l.map (·.o))[i]? = some x.o := by simp [hx]
      rw [q2, List.getElem?_map, hx0] at this
      exact .inr (.inl (by simpa using this.symm))
    · have : (l.map (·.o))[i]? = some x.o := by simp [hx]
      rw [q2, List.getElem?_map, hx0] at this
      exact .inr (.inr (by simpa using this.symm))
  have hxd : x.o.dst = x0.dst := by rcases hx0 with h | h | h <;> rw [h] <;> rfl
  have hxg : x.o.guard = x0.guard := by rcases hx0 with h | h | h <;> rw [h] <;> rfl
  have hin : ∀ j, (M.getD i 0).testBit j = true → DL listed j = true ∧ j < i := fun j hj => ⟨mask_ready C hcl (by simpa using h1) ho' (hdeps o ho) hj, mask_lt C i (by simpa using h1) j hj⟩
  have hout : ∀ j, j < l.length → (M.getD j 0).testBit i = true → DL listed j = false ∧ i < j := fun j hj hb => by
    refine ⟨?_, mask_lt C j (by rw [← C.len]; exact hj) i hb⟩
    cases hd : DL listed j with
    | false => rfl
    | true => have := mask_in C hcl j hd i hb; rw [hDi] at this; cases this
  have hsl : ∀ s, s ∈ looks x.o → (putD (DL listed) 0 l vs t0).getD s .any = (putD (fun j => decide (j < i)) 0 l vs t0).getD s .any := fun s hs => slots_eq C hv hx hDi hin hout hs
  have hev : ∀ z, z ∈ x.o.op.opds → Opd.ev G (putD (fun j => decide (j < i)) 0 l vs t0) z = Opd.ev G (putD (DL listed) 0 l vs t0) z := by
    intro z hz
    cases z with
    | t s =>
      simp only [Opd.ev]
      exact (hsl s (by simp only [looks, List.mem_append, List.mem_filterMap]; exact .inl ⟨.t s, hz, rfl⟩)).symm
    | c v => rfl
    | g q => rfl
  have hcn := cntD_next l i x hx
  -- the heap's number
  have hkge : cntD l i ≤ k ∨ isHeavy x.o = false := by
    cases hh : isHeavy x.o with
    | false => exact .inr rfl
    | true =>
      left
      rcases cntD_last l i (by omega) with h | ⟨j, y, g1, g2, g3, g4⟩
      · omega
      · have hb := C.heavy j (by omega) i hil y x g2 hx g1 g3 hh
        have := (m.hk j y g2 g3).1 (hin j hb).1
        omega
  have hkeq : isHeavy x.o = true → k = cntD l i := fun hh => by
    have h2 : ¬ cntD l i < k := fun h => by have := (m.hk i x hx hh).2 h; rw [hDi] at this; cases this
    rcases hkge with h | h
    · omega
    · rw [h] at hh; cases hh
  -- what follows
  have fin : ∀ (v : Value) (e' : Env) (w' : World) (hd : List Blk), e'.H = w'.heap → WS w w' → HR e' → Ev e.h.length e e' → VR e' (vs.getD i .any) v → e'.h = hd →
      (isHeavy x.o = true → hd = Rs.getD (cntD l (i + 1)) []) → (isHeavy x.o = false → hd = Rs.getD k []) → Kk (a.put o.dst v) w' := by
    intro v e' w' hd g1 g2 g3 g4 g5 g6 g7 g8
    have hdst : o.dst = x.o.dst := by
      rw [hxd]
      unfold cOper at hcO
      split at hcO
      · simp only [Option.some.injEq] at hcO; rw [← hcO]
      · split at hcO
        · simp only [Option.some.injEq] at hcO; rw [← hcO]
        · cases hcO
    have hs := m.rel.step g1 g2 g3 g4 g5 o.dst
    have hmore := putD_more (t := t0) hv hx hDi (fun j => DL_set (listed := listed) (by omega) j) (uniq_dst C)
    have est : (⟨putD (DL listed) 0 l vs t0, Rs.getD k []⟩ : St).put o.dst (vs.getD i .any) e'.h = ⟨putD (DL (listed.setIfInBounds i true)) 0 l vs t0, hd⟩ := by
      rw [← hmore, hdst, g6]
      cases x.o.dst <;> rfl
    rw [est] at hs
    have mk : ∀ k', hd = Rs.getD k' [] → (∀ j y, l[j]? = some y → isHeavy y.o = true → (DL (listed.setIfInBounds i true) j = true ↔ cntD l j < k')) → k' ≤ cntD l l.length → Kk (a.put o.dst v) w' := by
      intro k' q1 q2 q3
      refine hK k' e' _ _ ⟨by simp [m.size], fun j hj o' ho2 d hd' => ?_, q2, q3, by rw [q1] at hs; exact hs⟩
      rw [DL_set (by omega)] at hj ⊢
      simp only [Bool.or_eq_true, decide_eq_true_eq] at hj ⊢
      rcases hj with hj | hj
      · exact .inl (m.closed j hj o' ho2 d hd')
      · subst hj
        rw [ho'] at ho2
        cases ho2
        exact .inl (hdeps o ho d hd')
    cases hh : isHeavy x.o with
    | true =>
      rw [if_pos hh] at hcn
      have hk := hkeq hh
      refine mk (cntD l (i + 1)) (g7 hh) (fun j y hy hyh => ?_) (cntD_mono l _ _ hil)
      rw [DL_set (by omega)]
      simp only [Bool.or_eq_true, decide_eq_true_eq]
      rw [m.hk j y hy hyh]
      constructor
      · rintro (h | h)
        · omega
        · subst h; omega
      · intro h
        by_cases hji : j = i
        · exact .inr hji
        · left
          rcases Nat.lt_or_gt_of_ne hji with h2 | h2
          · have := cntD_lt l j i h2 y hy hyh; omega
          · have := cntD_lt l i j h2 x hx hh; omega
    | false =>
      refine mk k (g8 hh) (fun j y hy hyh => ?_) m.kle
      rw [DL_set (by omega)]
      simp only [Bool.or_eq_true, decide_eq_true_eq]
      rw [← m.hk j y hy hyh]
      constructor
      · rintro (h | h)
        · exact h
        · subst h; rw [hx] at hy; cases hy; rw [hh] at hyh; cases hyh
      · exact .inl
  obtain ⟨f1, f2, f3⟩ := hF i x hx
  have hpre : x.o.op.plain = false → isHeavy x.o = false → HV ((Hs.take (1 + cntD l i)).getD x.a []) (Rs.getD k []) := by
    intro hp hh
    by_cases ha : x.a < (Hs.take (1 + cntD l i)).length
    · have e1 : (Hs.take (1 + cntD l i)).getD x.a [] = Hs.getD x.a [] := by
        rw [List.length_take] at ha
        simp only [List.getD]
        rw [List.getElem?_take_of_lt (by omega)]
      rw [e1]
      have hak : x.a ≤ k := by
        rcases C.light i hil x hx hh with h | ⟨j, hj, y, hy, hyh, hb, hc⟩
        · omega
        · have := (m.hk j y hy hyh).1 (hin j hb).1
          simp only [cntD] at this
          omega
      have chain : ∀ q, x.a + q ≤ k → HV (Hs.getD x.a []) (Rs.getD (x.a + q) []) := by
        intro q
        induction q with
        | zero => intro hq; exact hVR _ (by have := m.kle; omega)
        | succ q ih =>
          intro hq
          have ih := ih (by omega)
          obtain ⟨j, y, hj, hy, hyh, hc⟩ := cntD_find l (x.a + q) l.length (Nat.le_refl _) (by have := m.kle; omega)
          have hDj : DL listed j = true := (m.hk j y hy hyh).2 (by omega)
          have hfr : x.a ∈ y.fr := by
            rcases C.free j hj i hil y x hy hx hyh hh with h | h | h | h
            · rw [hp] at h; cases h
            · exact h
            · have := (hout j hj h).1; rw [hDj] at this; cases this
            · simp only [cntD] at hc; omega
          have hcj := cntD_next l j y hy
          rw [if_pos hyh] at hcj
          obtain ⟨_, _, q3⟩ := hF j y hy
          have hsnap : (Hs.take (1 + cntD l j)).getD x.a [] = Hs.getD x.a [] := by
            simp only [List.getD]
            rw [List.getElem?_take_of_lt (by omega)]
          have hdo : ∀ {t v}, DoF P G y t (Hs.take (1 + cntD l j)) (Rs.getD (cntD l j) []) v (Rs.getD (cntD l (j + 1)) []) → HV (Hs.getD x.a []) (Rs.getD (x.a + (q + 1)) []) := by
            intro t v hd
            have := (hd.1 hyh).2 x.a hfr
            rw [hsnap, hcj, hc] at this
            exact this
          cases hg : y.o.guard with
          | none => rw [hg] at q3; exact hdo q3
          | some gp =>
            obtain ⟨g, want⟩ := gp
            rw [hg] at q3
            rcases q3 with ⟨b, _, q4, q5⟩ | ⟨_, _, q5⟩
            · by_cases hbw : b = want
              · exact hdo (q4 hbw)
              · have := (q5 hbw).2
                rw [hcj, hc] at this
                rw [show x.a + (q + 1) = x.a + q + 1 by omega, this]
                exact ih
            · rw [hcj, hc] at q5
              rw [show x.a + (q + 1) = x.a + q + 1 by omega, q5]
              exact ih
      have := chain (k - x.a) (by omega)
      rw [show x.a + (k - x.a) = k by omega] at this
      exact this
    · have e1 : (Hs.take (1 + cntD l i)).getD x.a [] = [] := by simp [List.getD, List.getElem?_eq_none (Nat.le_of_not_lt ha)]
      rw [e1]
      intro b q hb
      simp at hb
  have run : cOpR P o x.o.op → DoF P G x (putD (fun j => decide (j < i)) 0 l vs t0) (Hs.take (1 + cntD l i)) (Rs.getD (cntD l i) []) (vs.getD i .any) (Rs.getD (cntD l (i + 1)) []) → o.wp P a w Kk Q := by
    intro hop hdo
    have hrh : e.h = Rs.getD k [] := m.rel.r.h
    cases hh : isHeavy x.o with
    | true =>
      have hv0 := vcO_ev hev (hdo.1 hh).1
      rw [← hkeq hh, ← hrh] at hv0
      have hy := sound_opR (e := e) (w := w) hop m.rel.r.gr m.rel.r.tr m.rel.r.H m.rel.r.hr hv0
      refine hy.wp fun v w' ⟨e', dv, g1, g2, g3, g4, g5, g6⟩ => ?_
      rw [g6.1] at g5
      exact fin v e' w' e'.h g1 g2 g3 g4 g5 rfl (fun _ => g6.2) (fun h => by rw [hh] at h; cases h)
    | false =>
      have hv0 := vcO_ev hev (hdo.2 hh)
      have hv1 : vcO P G x.o.op (Opd.ev G (putD (DL listed) 0 l vs t0)) (Rs.getD k []) (fun v1 h2 => v1 = vs.getD i .any ∧ h2 = Rs.getD k []) := by
        cases hp : x.o.op.plain with
        | true => exact vcO_plain hp (fun v h => ⟨h, rfl⟩) hv0
        | false => exact vcO_ext hh (hpre hp hh) (fun v h => ⟨h, rfl⟩) hv0
      rw [← hrh] at hv1
      have hy := sound_opR (e := e) (w := w) hop m.rel.r.gr m.rel.r.tr m.rel.r.H m.rel.r.hr hv1
      refine hy.wp fun v w' ⟨e', dv, g1, g2, g3, g4, g5, g6⟩ => ?_
      rw [g6.1] at g5
      exact fin v e' w' e'.h g1 g2 g3 g4 g5 rfl (fun h => by rw [hh] at h; cases h) (fun _ => g6.2.trans hrh)
  unfold wpOp
  rw [ho]
  simp only
  unfold cOper at hcO
  cases hgd : o.guard with
  | none =>
    rw [hgd] at hcO
    simp only [Option.some.injEq] at hcO
    have q1 : x.o.guard = none := by rw [hxg, ← hcO]
    have q2 : cOpR P o x.o.op := opR (x0 := x0) (by rw [← hcO]) hx0
    rw [q1] at f3
    simp only [Region.wanted, hgd, if_true]
    exact .inl (run q2 f3)
  | some gp =>
    obtain ⟨j, want⟩ := gp
    rw [hgd] at hcO
    simp only at hcO
    cases hgj : (ops[j]?).bind (·.dst) with
    | none => rw [hgj] at hcO; cases hcO
    | some g =>
      rw [hgj] at hcO
      simp only [Option.some.injEq] at hcO
      have q1 : x.o.guard = some (g, want) := by rw [hxg, ← hcO]
      have q2 : cOpR P o x.o.op := opR (x0 := x0) (by rw [← hcO]) hx0
      rw [q1] at f3
      rcases f3 with ⟨b, hb, p1, p2⟩ | ⟨hb, p3, p4⟩
      · have hb' : (putD (DL listed) 0 l vs t0).getD g .any = .p (.bool b) := by
          rw [hsl g (by simp only [looks, q1, List.mem_append]; exact .inr (by simp))]
          exact hb
        have hyd := guard_yielded m.rel.r.tr hgj hb'
        simp only [Region.wanted, hgd, hyd]
        by_cases hbw : b = want
        · rw [if_pos (by simp [hbw])]
          exact .inl (run q2 (p1 hbw))
        · rw [if_neg (by simp [hbw])]
          obtain ⟨p3, p4⟩ := p2 hbw
          refine fin undef e w (Rs.getD k []) m.rel.r.H (WS.refl w) m.rel.r.hr (Ev.refl e) (by rw [p3]; exact vr_undef) m.rel.r.h (fun hh => ?_) (fun _ => rfl)
          rw [p4, hkeq hh]
      · have hb' : (putD (DL listed) 0 l vs t0).getD g .any = .tup [] := by
          rw [hsl g (by simp only [looks, q1, List.mem_append]; exact .inr (by simp))]
          exact hb
        have hyd := guard_none m.rel.r.tr hgj hb'
        simp only [Region.wanted, hgd, hyd]
        rw [if_neg (by simp)]
        refine fin undef e w (Rs.getD k []) m.rel.r.H (WS.refl w) m.rel.r.hr (Ev.refl e) (by rw [p3]; exact vr_undef) m.rel.r.h (fun hh => ?_) (fun _ => rfl)
        rw [p4, hkeq hh]

/-- A REGION THAT IS DRAWN: what holds in the text's order holds in each. -/
theorem drawn_any (C : Chk ops.toList l M) (hco : Comp P ops (l.map (·.o))) (hv : vs.length = l.length) (hF : Facts P G l vs t0 Hs Rs) (hVR : ∀ k, k ≤ cntD l l.length → HV (Hs.getD k []) (Rs.getD k [])) {Q : Exit → Act → World → Prop}
    (hQ : ∀ e a w, RelE G D n e0 w0 e ⟨putD (fun _ => true) 0 l vs t0, Rs.getD (cntD l l.length) []⟩ a w → Q .normal a w) :
    ∀ (fuel : Nat) (listed : Array Bool) (k : Nat) (e : Env) (a : Act) (w : World), left ops.size listed ≤ fuel → Mid P G D n e0 w0 ops.toList l vs t0 (fun k => Rs.getD k []) listed k e a w → wpAny P .any ops Q fuel listed a w := by
  have done : ∀ (listed : Array Bool) (k : Nat) (e : Env) (a : Act) (w : World), (∀ i, i < ops.size → DL listed i = true) → Mid P G D n e0 w0 ops.toList l vs t0 (fun k => Rs.getD k []) listed k e a w → Q .normal a w := by
    intro listed k e a w hall m
    have hlen : l.length = ops.size := by rw [C.len]; simp
    have hk : k = cntD l l.length := by
      have := m.kle
      rcases cntD_last l l.length (Nat.le_refl _) with h | ⟨j, y, g1, g2, g3, g4⟩
      · omega
      · have := (m.hk j y g2 g3).1 (hall j (by omega))
        omega
    refine hQ e a w ?_
    have := m.rel
    rw [hk, putD_congr (D := DL listed) (D' := fun _ => true) 0 l vs t0 (fun j hj => by rw [Nat.zero_add]; exact hall j (by omega))] at this
    exact this
  intro fuel
  induction fuel with
  | zero =>
    intro listed k e a w hl m
    have hall := left_zero (Nat.le_zero.1 hl)
    refine ⟨?_, done listed k e a w hall m⟩
    cases hr : Region.ready .any ops listed with
    | nil => rfl
    | cons i r =>
      obtain ⟨h1, h2, _⟩ := ready_spec (ops := ops) (listed := listed) (i := i) (by rw [m.size]; simp) (by rw [hr]; exact List.mem_cons_self)
      rw [hall i h1] at h2
      cases h2
  | succ fuel ih =>
    intro listed k e a w hl m
    have hsz : listed.size = ops.size := by rw [m.size]; simp
    refine ⟨fun hr => done listed k e a w (ready_nil C hsz hr) m, fun i hi => ?_⟩
    obtain ⟨h1, h2, _⟩ := ready_spec hsz hi
    refine drawn_step C hco hv hF hVR m hi fun k' e' a' w' m' => ?_
    exact ih _ k' e' a' w' (by have := left_lt hsz h1 h2; omega) m'

theorem drawn_view {r : List DDOp} (hc : cDraw P ops = some r) {e : Env} {s : St} {a : Act} {w : World} {K : List DV → List Blk → Prop} (hr : RelE G D n e0 w0 e s a w) {hv0 : List Blk} (hvw : HV hv0 s.h) (h : vcD P G r s.t [hv0] s.h K) {id : Nat} {Q : Exit → Act → World → Prop}
    (hQ : ∀ e a w t h, RelE G D n e0 w0 e ⟨t, h⟩ a w → K t h → Q .normal a w) : (Code.region id ops true).wp P Q a w := by
  obtain ⟨hco, C, hm⟩ := cDraw_spec hc
  obtain ⟨vs, t', Hs', h', T, hk⟩ := vcD_trace r s.t [hv0] s.h C.det h
  obtain ⟨Rs', g1, g2, g3, g4, g3R, g4R, g5, gk, g6⟩ := T.at 0 [s.h] rfl ⟨[], rfl⟩
  have hF : Facts P G r vs s.t Hs' Rs' := by
    intro i d hi
    have := g6 i d hi
    simpa only [Nat.zero_add, List.length_singleton, Nat.sub_self] using this
  have h0 : Rs'.getD 0 [] = s.h := by
    obtain ⟨Y, hY⟩ := g3R
    rw [← hY]
    simp [List.getD]
  have h0' : Hs'.getD 0 [] = hv0 := by
    obtain ⟨Y, hY⟩ := g3
    rw [← hY]
    simp [List.getD]
  have hVR : ∀ k, k ≤ cntD r r.length → HV (Hs'.getD k []) (Rs'.getD k []) := fun k _ => by
    cases k with
    | zero => rw [h0, h0']; exact hvw
    | succ k =>
      have := gk (k + 1) (by simp)
      simp only [List.getD, this]
      exact HV.refl _
  have hlast : Rs'.getD (cntD r r.length) [] = h' := by
    obtain ⟨X, hX⟩ := g5
    have : X.length = cntD r r.length := by rw [g4] at g4R; rw [hX] at g4R; simp at g4R; omega
    rw [hX, ← this]
    simp [List.getD]
  have hfalse : ∀ i, DL (Array.replicate ops.size false) i = false := fun i => by
    unfold DL
    rw [Array.getD_eq_getD_getElem?]
    by_cases h : i < ops.size
    · simp [Array.getElem?_replicate, h]
    · simp [Array.getElem?_replicate, h]
  refine wp_region_any hm (drawn_any (n := n) (e0 := e0) (w0 := w0) C hco g1 hF hVR (fun e a w hr => hQ e a w _ _ hr ?_) ops.size _ 0 e a _ ?_ ⟨by simp, fun i hi => absurd ((hfalse i).symm.trans hi) (by decide), fun i x hx hh => ?_, Nat.zero_le _, ?_⟩)
  · rw [← g2, hlast]; exact hk
  · unfold left
    refine Nat.le_trans (List.length_filter_le _ _) (by simp)
  · rw [hfalse]; simp
  · have e1 : putD (DL (Array.replicate ops.size false)) 0 r vs s.t = s.t := putD_none 0 r vs s.t fun j _ => hfalse j
    rw [e1, h0]
    exact ⟨⟨hr.r.h, hr.r.H, hr.r.hr, hr.r.gr, hr.r.tr, hr.r.df⟩, hr.ev, ⟨hr.ws.os, hr.ws.tape, hr.ws.output⟩, hr.le⟩
theorem drawn_sound {r : List DDOp} (hc : cDraw P ops = some r) {e : Env} {s : St} {a : Act} {w : World} {K : List DV → List Blk → Prop} (hr : RelE G D n e0 w0 e s a w) (h : vcD P G r s.t [s.h] s.h K) {id : Nat} {Q : Exit → Act → World → Prop}
    (hQ : ∀ e a w t h, RelE G D n e0 w0 e ⟨t, h⟩ a w → K t h → Q .normal a w) : (Code.region id ops true).wp P Q a w := drawn_view hc hr (HV.refl _) h hQ
end

end
end Go.Den

namespace Go.Den
open Go

/-- The same operation, its call one of more than one outcome. -/
def DOper.rel (o : DOper) : DOper := ⟨o.dst, o.op.rel, o.guard⟩

/-- V: the regions before which a part of the memory may be hidden. -/
def cCodeV (V : List Nat) (P : Program) : Code → Option DC
  | .skip => some .skip
  | .region _ ops false => (cOps P ops ops.toList).map fun l => .rg (l.map DOper.rel)
  | .region id ops true => (cDraw P ops).map (if V.contains id then .rgv else .rgd)
  | .seq a b => match cCodeV V P a, cCodeV V P b with
    | some x, some y => some (.seq x y)
    | _, _ => none
  | .cond c a b => match cCodeV V P a, cCodeV V P b with
    | some x, some y => some (.cond (cOpd c) x y)
    | _, _ => none
  | .block id a => (cCodeV V P a).map (.block id)
  | .loop a => (cCodeV V P a).map .loop
  | .exit id => some (.exit id)
  | .ret => some .ret
  | _ => none
abbrev cCode (P : Program) : Code → Option DC := cCodeV [] P

section
variable {P : Program} {G : Nat → DV} {D : List Deferred} {h0 : List Blk} {e0 : Env} {w0 : World}

theorem vcL_soundT {n : Nat} {ops : Array Oper} {Q : Exit → Act → World → Prop} {K : St → Prop} (tail : List Nat) : ∀ (l : List Oper) (dl : List DOper) (i : Nat), cOps P ops l = some dl → (∀ j, j < l.length → l[j]? = ops[i + j]?) → ∀ (e : Env) (s : St) (a : Act) (w : World), RelE G D n e0 w0 e s a w → vcL P G (dl.map DOper.rel) s K →
    (∀ e' s' a' w', RelE G D n e0 w0 e' s' a' w' → K s' → wpOps P ops Q tail a' w') → wpOps P ops Q (List.range' i l.length ++ tail) a w
  | [], dl, i, hc, hl, e, s, a, w, hr, h, hK => by
    simp only [cOps, Option.some.injEq] at hc
    subst hc
    exact hK e s a w hr h
  | o :: l, dl, i, hc, hl, e, s, a, w, hr, h, hK => by
    simp only [cOps] at hc
    cases hd : cOper P ops o with
    | none => rw [hd] at hc; cases hc
    | some d =>
    cases hrest : cOps P ops l with
    | none => rw [hd, hrest] at hc; cases hc
    | some dr =>
    rw [hd, hrest] at hc
    cases hc
    have ho : ops[i]? = some o := by simpa using (hl 0 (by simp)).symm
    have hl' : ∀ j, j < l.length → l[j]? = ops[i + 1 + j]? := fun j hj => by
      have := hl (j + 1) (by simp; omega)
      rw [show i + 1 + j = i + (j + 1) by omega]
      simpa using this
    simp only [List.length_cons, List.range'_succ, List.cons_append, wpOps, ho]
    unfold cOper at hd
    have next : ∀ (d' : DOper), d'.dst = o.dst → d'.op = cOpS P o → vcO P G d'.op.rel (Opd.ev G s.t) s.h (fun v h => vcL P G (dr.map DOper.rel) (s.put d'.dst v h) K) → o.wp P a w (wpOps P ops Q (List.range' (i + 1) l.length ++ tail)) Q := by
      intro d' h1 h2 hv
      have hy := sound_oprS (K := fun v h => vcL P G (dr.map DOper.rel) (s.put d'.dst v h) K) (e := e) (w := w) (o := o) hr.r.gr hr.r.tr hr.r.H hr.r.hr (by rw [hr.r.h, ← h2]; exact hv)
      refine hy.wp fun v w' ⟨e', dv, g1, g2, g3, g4, g5, g6⟩ => ?_
      have hs := hr.step g1 g2 g3 g4 g5 o.dst
      rw [h1] at g6
      exact vcL_soundT tail l dr (i + 1) hrest hl' e' _ _ w' hs g6 hK
    cases hgd : o.guard with
    | none =>
      rw [hgd] at hd
      cases hd
      simp only [Region.wanted, hgd, if_true]
      simp only [List.map_cons, DOper.rel, vcL] at h
      exact .inl (next ⟨o.dst, cOpS P o, none⟩ rfl rfl h)
    | some gp =>
      obtain ⟨j, want⟩ := gp
      rw [hgd] at hd
      simp only at hd
      cases hgj : (ops[j]?).bind (·.dst) with
      | none => rw [hgj] at hd; cases hd
      | some g =>
        rw [hgj] at hd
        cases hd
        simp only [List.map_cons, DOper.rel, vcL] at h
        split at h
        · rename_i b hb
          have hyd := guard_yielded hr.r.tr hgj hb
          simp only [Region.wanted, hgd, hyd]
          by_cases hbw : b = want
          · rw [if_pos hbw] at h
            rw [if_pos (by simp [hbw])]
            exact .inl (next ⟨o.dst, cOpS P o, none⟩ rfl rfl h)
          · rw [if_neg hbw] at h
            rw [if_neg (by simp [hbw])]
            have hs := hr.step hr.r.H (WS.refl w) hr.r.hr (Ev.refl e) (d := .tup []) (v := undef) vr_undef o.dst
            rw [hr.r.h] at hs
            exact vcL_soundT tail l dr (i + 1) hrest hl' e _ _ w hs h hK
        · rename_i hb
          have hyd := guard_none hr.r.tr hgj hb
          simp only [Region.wanted, hgd, hyd]
          rw [if_neg (by simp)]
          have hs := hr.step hr.r.H (WS.refl w) hr.r.hr (Ev.refl e) (d := .tup []) (v := undef) vr_undef o.dst
          rw [hr.r.h] at hs
          exact vcL_soundT tail l dr (i + 1) hrest hl' e _ _ w hs h hK
        · exact h.elim

theorem vcL_sound {n : Nat} {ops : Array Oper} {Q : Exit → Act → World → Prop} {K : St → Prop} (l : List Oper) (dl : List DOper) (i : Nat) (hc : cOps P ops l = some dl) (hl : ∀ j, l[j]? = ops[i + j]?) (e : Env) (s : St) (a : Act) (w : World) (hr : RelE G D n e0 w0 e s a w) (h : vcL P G (dl.map DOper.rel) s K)
    (hK : ∀ e' s' a' w', RelE G D n e0 w0 e' s' a' w' → K s' → Q .normal a' w') : wpOps P ops Q (List.range' i l.length) a w := by
  have := vcL_soundT (Q := Q) [] l dl i hc (fun j _ => hl j) e s a w hr h hK
  simpa using this

/-- What the machine's exits are. -/
def QQ (G : Nat → DV) (D : List Deferred) (n : Nat) (e0 : Env) (w0 : World) (Q : DX → St → Prop) : Exit → Act → World → Prop
  | .normal, a, w => ∃ e s, RelE G D n e0 w0 e s a w ∧ Q .nrm s
  | .exit i, a, w => ∃ e s, RelE G D n e0 w0 e s a w ∧ Q (.ext i) s
  | .ret, a, w => ∃ e s, RelE G D n e0 w0 e s a w ∧ Q .ret s
  | _, _, _ => False

theorem QQ.mono {n : Nat} {Q Q' : DX → St → Prop} (h : ∀ x s, Q x s → Q' x s) : ∀ x a w, QQ G D n e0 w0 Q x a w → QQ G D n e0 w0 Q' x a w := by
  intro x a w hq
  cases x <;> first
    | exact hq.elim
    | exact (let ⟨e, s, hr, hq⟩ := hq; ⟨e, s, hr, h _ _ hq⟩)

theorem Wk.rel {n : Nat} (hn : n = h0.length) (hw : HWF h0) {s s' : St} (h : Wk G h0 s s') {e : Env} {a : Act} {w : World} (hr : RelE G D n e0 w0 e s a w) : ∃ e', RelE G D n e0 w0 e' s' a w := by
  obtain ⟨e', h1, h2⟩ := h hw _ e a w hr.r (by rw [← hn]; exact hr.ev.len)
  exact ⟨e', h1, hr.ev.trans (hn ▸ h2) (Nat.le_refl _), hr.ws, hr.le⟩

theorem vc_sound {V : List Nat} (hw : HWF h0) : ∀ (c : Code) (d : DC), cCodeV V P c = some d → ∀ (Q : DX → St → Prop) (e : Env) (s : St) (a : Act) (w : World), RelE G D h0.length e0 w0 e s a w → vc P G h0 d s Q → c.wp P (QQ G D h0.length e0 w0 Q) a w := by
  intro c
  induction c with
  | skip =>
    intro d hc Q e s a w hr h
    cases hc
    exact wp_skip ⟨e, s, hr, h⟩
  | region id ops draw =>
    intro d hc Q e s a w hr h
    cases draw with
    | true =>
      simp only [cCodeV] at hc
      cases ho : cDraw P ops with
      | none => rw [ho] at hc; cases hc
      | some r =>
        rw [ho] at hc
        simp only [Option.map_some, Option.some.injEq] at hc
        split at hc
        · subst hc
          obtain ⟨hv, hvw, h⟩ := h
          exact drawn_view ho hr hvw h (fun e' a' w' t' h' hr' hk => ⟨e', ⟨t', h'⟩, hr', hk⟩)
        · subst hc
          exact drawn_sound ho hr h (fun e' a' w' t' h' hr' hk => ⟨e', ⟨t', h'⟩, hr', hk⟩)
    | false =>
      simp only [cCodeV] at hc
      cases ho : cOps P ops ops.toList with
      | none => rw [ho] at hc; cases hc
      | some dl =>
        rw [ho] at hc
        cases hc
        refine wp_region ?_
        have := vcL_sound (Q := QQ G D h0.length e0 w0 Q) ops.toList dl 0 ho (fun j => by simp) e s a w hr h (fun e' s' a' w' hr' hk => ⟨e', s', hr', hk⟩)
        simpa [List.range_eq_range'] using this
  | seq x y ihx ihy =>
    intro d hc Q e s a w hr h
    simp only [cCodeV] at hc
    split at hc
    · rename_i dx dy h1 h2
      cases hc
      refine wp_seq (wp_mono (ihx dx h1 _ e s a w hr h) fun ex a' w' hq => ?_)
      cases ex with
      | normal =>
        obtain ⟨e', s', hr', hq⟩ := hq
        exact ihy dy h2 Q e' s' a' w' hr' hq
      | exit i => exact hq
      | ret => exact hq
      | _ => exact hq.elim
    · cases hc
  | cond c x y ihx ihy =>
    intro d hc Q e s a w hr h
    simp only [cCodeV] at hc
    split at hc
    · rename_i dx dy h1 h2
      cases hc
      simp only [vc] at h
      split at h
      · rename_i b hb
        have hv := vr_ev hr.r.gr hr.r.tr c
        rw [hb] at hv
        cases b with
        | true => exact wp_cond_true (vr_p hv).1 (ihx dx h1 Q e s a w hr (by simpa using h))
        | false => exact wp_cond_false (vr_p hv).1 (ihy dy h2 Q e s a w hr (by simpa using h))
      · exact h.elim
    · cases hc
  | block id x ih =>
    intro d hc Q e s a w hr h
    simp only [cCodeV] at hc
    cases hx : cCodeV V P x with
    | none => rw [hx] at hc; cases hc
    | some dx =>
      rw [hx] at hc
      cases hc
      refine wp_block (wp_mono (ih dx hx _ e s a w hr h) fun ex a' w' hq => ?_)
      cases ex with
      | normal => exact hq
      | exit i =>
        obtain ⟨e', s', hr', hq⟩ := hq
        simp only [Exit.inBlock]
        by_cases hi : i = id
        · rw [if_pos hi]; simp only [hi, if_true] at hq; exact ⟨e', s', hr', hq⟩
        · rw [if_neg hi]; simp only [hi, if_false] at hq; exact ⟨e', s', hr', hq⟩
      | ret => exact hq
      | _ => exact hq.elim
  | loop x ih =>
    intro d hc Q e s a w hr h
    simp only [cCodeV] at hc
    cases hx : cCodeV V P x with
    | none => rw [hx] at hc; cases hc
    | some dx =>
      rw [hx] at hc
      cases hc
      obtain ⟨I, μ, ⟨s', hwk, hI⟩, hround⟩ := h
      obtain ⟨e', hr'⟩ := hwk.rel rfl hw hr
      intro b k cs
      have key : ∀ m (s : St) (e : Env) (a : Act) (w : World), μ s = m → I s → RelE G D h0.length e0 w0 e s a w →
          ∃ ex a' w', QQ G D h0.length e0 w0 Q ex a' w' ∧ Arrives P (lone (b.at a (.code x :: .inLoop x :: k)) cs w) b k cs ex a' w' := by
        intro m
        induction m using Nat.strongRecOn with
        | _ m ihm =>
          intro s e a w hm hI hr
          obtain ⟨ex, a1, w1, hq, harr⟩ := ih dx hx _ e s a w hr (hround s hI) b (.inLoop x :: k) cs
          cases ex with
          | normal =>
            obtain ⟨e1, s1, hr1, s2, hwk2, hI2, hlt⟩ := hq
            obtain ⟨e2, hr2⟩ := hwk2.rel rfl hw hr1
            obtain ⟨ex2, a2, w2, hq2, harr2⟩ := ihm (μ s2) (hm ▸ hlt) s2 e2 a1 w1 rfl hI2 hr2
            exact ⟨ex2, a2, w2, hq2, .of_steps (Steps.trans harr (.one step_inLoop)) harr2⟩
          | exit i =>
            obtain ⟨e1, s1, hr1, s2, hwk2, hq2⟩ := hq
            obtain ⟨e2, hr2⟩ := hwk2.rel rfl hw hr1
            exact ⟨.exit i, a1, w1, ⟨e2, s2, hr2, hq2⟩, .pass (x := .inLoop x) rfl (fun _ _ => .inl (by simp)) harr⟩
          | ret =>
            obtain ⟨e1, s1, hr1, hq1⟩ := hq
            exact ⟨.ret, a1, w1, ⟨e1, s1, hr1, hq1⟩, .pass (x := .inLoop x) rfl (fun _ _ => .inl (by simp)) harr⟩
          | _ => exact hq.elim
      obtain ⟨ex, a', w', hq, harr⟩ := key _ s' e' a w rfl hI hr'
      exact ⟨ex, a', w', hq, .of_steps (.one step_loop) harr⟩
  | exit id =>
    intro d hc Q e s a w hr h
    cases hc
    exact wp_exit ⟨e, s, hr, h⟩
  | ret =>
    intro d hc Q e s a w hr h
    cases hc
    exact wp_ret ⟨e, s, hr, h⟩
  | _ => intro d hc; cases hc

end
end Go.Den

namespace Go.Den
open Go

inductive DR where
  | tmp (t : Nat)
  | cell (a : Nat) (g : Bool) (sz : Nat)

def cRes (P : Program) : List ResultVar → Option (List DR)
  | [] => some []
  | .tmp t :: l => (cRes P l).map (.tmp t :: ·)
  | .cell a t :: l => match tyI P t, cRes P l with
    | some (g, sz), some r => if g = true ∨ sz = 1 then some (.cell a g sz :: r) else none
    | _, _ => none

def resD (h : List Blk) (t : List DV) : List DR → Option (List DV)
  | [] => some []
  | .tmp n :: l => (resD h t l).map (t.getD n .any :: ·)
  | .cell a g sz :: l => match t.getD a .any, resD h t l with
    | .ptr b i o x, some r => match h[b]? with
      | some (.cells bsz els) => if x = els.length ∧ o + sz ≤ bsz then some (sub (els.getD i .any) o sz g :: r) else none
      | _ => none
    | _, _ => none

def mkRes : List DV → DV
  | [d] => d
  | ds => .tup ds

section
variable {P : Program} {G : Nat → DV} {D : List Deferred}

theorem run_res {e : Env} {s : St} {a : Act} {w : World} (hr : RelS G D e s a w) : ∀ (l : List ResultVar) (rs : List DR) (ds : List DV), cRes P l = some rs → resD s.h s.t rs = some ds →
    ∃ vs : List Value, (l.mapM fun (r : ResultVar) => match r with
      | .tmp t => pure (a.tmps.getD t undef)
      | .cell ad t => do loadVar t (← asAddr (a.tmps.getD ad undef)) : Sem (List Value)).run P w = .ok vs w ∧ ds.length = vs.length ∧ ∀ i (hi : i < ds.length) (hi' : i < vs.length), VR e ds[i] vs[i] := by
  intro l
  induction l with
  | nil =>
    intro rs ds hc hd
    cases hc
    cases hd
    exact ⟨[], rfl, rfl, fun i hi => by simp at hi⟩
  | cons r l ih =>
    intro rs ds hc hd
    have tmpv : ∀ n, VR e (s.t.getD n .any) (a.tmps.getD n undef) := fun n => by
      have := vr_ev (G := G) (a := a) hr.gr hr.tr (.tmp n)
      simpa [cOpd, Opd.ev, Act.eval] using this
    have fin : ∀ (x : Sem Value) (v : Value) (d : DV) (rs' : List DR) (ds' : List DV), x.run P w = .ok v w → VR e d v → cRes P l = some rs' → resD s.h s.t rs' = some ds' → ds = d :: ds' →
        ∃ vs : List Value, (do let y ← x; let ys ← (l.mapM fun (r : ResultVar) => match r with
      | .tmp t => pure (a.tmps.getD t undef)
      | .cell ad t => do loadVar t (← asAddr (a.tmps.getD ad undef)) : Sem (List Value)); pure (y :: ys) : Sem (List Value)).run P w = .ok vs w ∧ ds.length = vs.length ∧ ∀ i (hi : i < ds.length) (hi' : i < vs.length), VR e ds[i] vs[i] := by
      intro x v d rs' ds' hx hv h1 h2 h3
      obtain ⟨vs, g1, g2, g3⟩ := ih rs' ds' h1 h2
      subst h3
      refine ⟨v :: vs, ?_, by simp [g2], fun i hi hi' => ?_⟩
      · simp only [Sem.run_bind, hx, Result.andThen_ok, g1, Sem.run_pure]
      · cases i with
        | zero => exact hv
        | succ i => exact g3 i _ _
    rw [List.mapM_cons]
    cases r with
    | tmp n =>
      simp only [cRes] at hc
      cases h1 : cRes P l with
      | none => rw [h1] at hc; cases hc
      | some rs' =>
        rw [h1] at hc
        cases hc
        simp only [resD] at hd
        cases h2 : resD s.h s.t rs' with
        | none => rw [h2] at hd; cases hd
        | some ds' =>
          rw [h2] at hd
          cases hd
          exact fin (pure (a.tmps.getD n undef)) _ _ rs' ds' rfl (tmpv n) h1 h2 rfl
    | cell ad t =>
      simp only [cRes] at hc
      split at hc
      · rename_i g sz rs' hty h1
        by_cases hg : g = true ∨ sz = 1
        · rw [if_pos hg] at hc
          cases hc
          simp only [resD] at hd
          split at hd
          · rename_i b i o x ds' h3 h2
            split at hd
            · rename_i bsz els hb
              by_cases hx : x = els.length ∧ o + sz ≤ bsz
              · rw [if_pos hx] at hd
                cases hd
                obtain ⟨rfl, hsz⟩ := hx
                have hv := tmpv ad
                rw [h3] at hv
                have hkey : e.key b = some (.c bsz els.length) := Env.key_of (by rw [hr.h]; exact hb)
                obtain ⟨hi, q, hq, hve⟩ := vr_ptr hv hkey
                obtain ⟨c, T, fr, vs, hh, hcs, hl, hf, hvs, hvsz, h1c, hcell⟩ := hr.hr.cells (by rw [hr.h]; exact hb) hq
                have hlen : (((vs i).cells.toList.drop o).take sz).length = sz := take_cells _ _ _ (by simp [hvsz i hi]; omega)
                have hload := run_loadVar (P := P) (tyI_spec hty) w q.1 (i * bsz + o) _ hlen (fun h => hg.resolve_left (by rw [h]; simp)) (fun k hk => by
                  have : cellAt w.heap q.1 (i * bsz + o + k) = ((((vs i).cells.toList.drop o).take sz))[k]? := by
                    simp only [cellAt, ← hr.H, hh]
                    rw [Nat.add_assoc, hcell i hi (o + k) (by omega)]
                    simp [show k < sz by omega]
                  rw [this, List.getElem?_eq_getElem hk])
                refine fin (do loadVar t (← asAddr (a.tmps.getD ad undef))) _ _ rs' ds' ?_ (vr_sub (hvs i hi) o sz g (fun h => hg.resolve_left (by rw [h]; simp)) (by rw [hvsz i hi]; exact hsz)) h1 h2 (by simp [List.getD, hi])
                rw [hve]
                simp only [asAddr, Sem.run_bind, Sem.run_pure, Result.andThen_ok]
                exact hload
              · rw [if_neg hx] at hd; cases hd
            · cases hd
          · cases hd
        · rw [if_neg hg] at hc; cases hc
      · cases hc

/-- What may be told instead of a value and the memory. -/
def WkV (h0 : List Blk) (d : DV) (h : List Blk) (d' : DV) (h' : List Blk) : Prop :=
  HWF h0 → ∀ e v, e.h = h → HR e → VR e d v → h0.length ≤ h.length → ∃ e', e'.h = h' ∧ e'.H = e.H ∧ HR e' ∧ VR e' d' v ∧ Ev h0.length e e'

theorem WkV.refl {h0 : List Blk} {d : DV} {h : List Blk} : WkV h0 d h d h := fun _ e v he hr hv hl => ⟨e, he, rfl, hr, hv, Ev.refl' e (by rw [he]; exact hl)⟩

theorem HR.hwf {e : Env} (hr : HR e) : HWF e.h := fun b k h => (hr.blk b k h).wf

/-- THE CONTRACT OF A FUNCTION out of what its code asks. -/
theorem wp_of_vc {V : List Nat} {fn : Func} {c : Code} {d : DC} {rs : List DR} (hc : cCodeV V P c = some d) (hrs : cRes P fn.results.toList = some rs) {args : List DV} {h : List Blk} {R : DV → List Blk → Prop} {n : Nat} (hn : fn.ntmps - args.length = n)
    (H : vc P G h d ⟨args ++ List.replicate n .any, h⟩ fun x s => match x with
      | .nrm | .ret => ∃ ds, resD s.h s.t rs = some ds ∧ ∃ v h', WkV h (mkRes ds) s.h v h' ∧ R v h'
      | _ => False) : ∀ (e : Env) (w : World) (vs : Array Value), e.h = h → e.H = w.heap → HR e → GR e G → TR e args vs →
    c.wp P (bodyPost P fn fun en w' => ∃ v' e' v h', en = .returned v' ∧ e'.H = w'.heap ∧ e'.h = h' ∧ WS w w' ∧ HR e' ∧ VR e' v v' ∧ Ev e.h.length e e' ∧ R v h') { tmps := vs ++ Array.replicate (fn.ntmps - vs.size) undef, defers := [] } w := by
  intro e w vs he hH hr hg ht
  subst hn
  have hw : HWF h := by rw [← he]; exact hr.hwf
  have hrel : RelE G [] h.length e w e ⟨args ++ List.replicate (fn.ntmps - args.length) .any, h⟩ { tmps := vs ++ Array.replicate (fn.ntmps - vs.size) undef, defers := [] } w := by
    refine ⟨⟨he, hH, hr, hg, ⟨by simp [ht.1], fun i hi hi' => ?_⟩, rfl⟩, by rw [← he]; exact Ev.refl e, WS.refl w, by rw [he]; exact Nat.le_refl _⟩
    by_cases hia : i < args.length
    · have := ht.2 i hia (ht.1 ▸ hia)
      simp only [List.getElem_append_left hia]
      rw [Array.getElem_append_left (ht.1 ▸ hia)]
      exact this
    · simp only [List.getElem_append_right (Nat.le_of_not_lt hia), List.getElem_replicate]
      exact .any
  refine wp_mono (vc_sound hw c d hc _ e _ _ w hrel H) fun ex a' w' hq => ?_
  have fin : ∀ e' s', RelE G [] h.length e w e' s' a' w' → (∃ ds, resD s'.h s'.t rs = some ds ∧ ∃ v h', WkV h (mkRes ds) s'.h v h' ∧ R v h') →
      a'.defers = [] ∧ ∃ u, (results fn a'.tmps).run P w' = .ok u w' ∧ ∃ v' e'' v h', Ending.returned u = .returned v' ∧ e''.H = w'.heap ∧ e''.h = h' ∧ WS w w' ∧ HR e'' ∧ VR e'' v v' ∧ Ev e.h.length e e'' ∧ R v h' := by
    rintro e' s' hr' ⟨ds, hds, v, h', hwk, hR⟩
    obtain ⟨us, h1, h2, h3⟩ := run_res (P := P) hr'.r fn.results.toList rs ds hrs hds
    have hres : (results fn a'.tmps).run P w' = .ok (if h : us.toArray.size = 1 then us.toArray[0] else .tuple us.toArray) w' := by
      unfold results
      rw [Array.mapM_eq_mapM_toList]
      rw [Sem.run_bind, Sem.run_map]
      erw [h1]
      rfl
    have hv : VR e' (mkRes ds) (if h : us.toArray.size = 1 then us.toArray[0] else .tuple us.toArray) := by
      match ds, us, h2, h3 with
      | [d], [u], _, h3 => simpa [mkRes] using h3 0 (by simp) (by simp)
      | [], [], _, _ => exact .tup (by simp) (fun i hi => by simp at hi)
      | d1 :: d2 :: dr, u1 :: u2 :: ur, h2, h3 =>
        rw [dif_neg (by simp)]
        exact .tup (by simpa using h2) (fun i hi hi' => by simpa using h3 i hi (by simpa using hi'))
    obtain ⟨e'', g1, g2, g3, g4, g5⟩ := hwk hw e' _ hr'.r.h hr'.r.hr hv (by rw [← hr'.r.h]; exact hr'.ev.len)
    refine ⟨hr'.r.df, _, hres, _, e'', v, h', rfl, by rw [g2]; exact hr'.r.H, g1, hr'.ws, g3, g4, ?_, hR⟩
    rw [he]
    exact hr'.ev.trans g5 (Nat.le_refl _)
  cases ex with
  | normal => obtain ⟨e', s', hr', hq⟩ := hq; exact fin e' s' hr' hq
  | ret => obtain ⟨e', s', hr', hq⟩ := hq; exact fin e' s' hr' hq
  | exit i => obtain ⟨e', s', hr', hq⟩ := hq; exact hq.elim
  | _ => exact hq.elim

theorem OkR_of_vc {V : List Nat} {f : FuncId} {fn : Func} {c : Code} {d : DC} {rs : List DR} (hf : P.funcs[f]? = some fn) (hb : fn.body = some c) (hc : cCodeV V P c = some d) (hrs : cRes P fn.results.toList = some rs) {args : List DV} {h : List Blk} {R : DV → List Blk → Prop} {n : Nat} (hn : fn.ntmps - args.length = n)
    (H : vc P G h d ⟨args ++ List.replicate n .any, h⟩ fun x s => match x with
      | .nrm | .ret => ∃ ds, resD s.h s.t rs = some ds ∧ ∃ v h', WkV h (mkRes ds) s.h v h' ∧ R v h'
      | _ => False) : OkR P G f args h R :=
  fun e w vs he hH hr hg ht => calls_of_wp hf hb (wp_of_vc hc hrs hn H e w vs he hH hr hg ht)

/-- The same of a call that was put off. -/
def OkD (P : Program) (G : Nat → DV) (f : FuncId) (args : List DV) (h : List Blk) (R : DV → List Blk → Prop) : Prop :=
  ∀ (e : Env) (w : World) (vs : Array Value), e.h = h → e.H = w.heap → HR e → GR e G → TR e args vs →
    CallsD P f vs .returning w fun en u' w' => u' = .returning ∧ ∃ v' e' v h', en = .returned v' ∧ e'.H = w'.heap ∧ e'.h = h' ∧ WS w w' ∧ HR e' ∧ VR e' v v' ∧ Ev e.h.length e e' ∧ R v h'
theorem OkD_of_code {V : List Nat} {f : FuncId} {fn : Func} {d : DC} {rs : List DR} (hf : P.funcs[f]? = some fn) (hc : fn.body.bind (cCodeV V P) = some d) (hrs : cRes P fn.results.toList = some rs) {args : List DV} {h : List Blk} {R : DV → List Blk → Prop} (n : Nat) (hn : fn.ntmps = args.length + n)
    (H : vc P G h d ⟨args ++ List.replicate n .any, h⟩ fun x s => match x with
      | .nrm | .ret => ∃ ds, resD s.h s.t rs = some ds ∧ ∃ v h', WkV h (mkRes ds) s.h v h' ∧ R v h'
      | _ => False) : OkD P G f args h R := by
  cases hb : fn.body with
  | none => rw [hb] at hc; cases hc
  | some c =>
    rw [hb] at hc
    exact fun e w vs he hH hr hg ht => callsD_of_wp hf hb (wp_of_vc hc hrs (n := n) (by omega) H e w vs he hH hr hg ht)

theorem OkR_of_code {V : List Nat} {f : FuncId} {fn : Func} {d : DC} {rs : List DR} (hf : P.funcs[f]? = some fn) (hc : fn.body.bind (cCodeV V P) = some d) (hrs : cRes P fn.results.toList = some rs) {args : List DV} {h : List Blk} {R : DV → List Blk → Prop} (n : Nat) (hn : fn.ntmps = args.length + n)
    (H : vc P G h d ⟨args ++ List.replicate n .any, h⟩ fun x s => match x with
      | .nrm | .ret => ∃ ds, resD s.h s.t rs = some ds ∧ ∃ v h', WkV h (mkRes ds) s.h v h' ∧ R v h'
      | _ => False) : OkR P G f args h R := by
  cases hb : fn.body with
  | none => rw [hb] at hc; cases hc
  | some c => rw [hb] at hc; exact OkR_of_vc hf hb hc hrs (n := n) (by omega) H

theorem OkR.toOk {f : FuncId} {args : List DV} {h : List Blk} {v : DV} {h' : List Blk} (hf : OkR P G f args h fun v1 h1 => v1 = v ∧ h1 = h') : Ok P G f args h v h' :=
  fun e w vs he hH hr hg ht => (hf e w vs he hH hr hg ht).mono fun en w' ⟨v', e', v1, h1, g1, g2, g3, g4, g5, g6, g7, g8, g9⟩ => ⟨v', e', g1, g2, by rw [g3, g9], g4, g5, by rw [← g8]; exact g6, g7⟩
theorem OkR.mono {f : FuncId} {args : List DV} {h : List Blk} {R R' : DV → List Blk → Prop} (hf : OkR P G f args h R) (hR : ∀ v h', R v h' → R' v h') : OkR P G f args h R' :=
  fun e w vs he hH hr hg ht => (hf e w vs he hH hr hg ht).mono fun en w' ⟨v', e', v1, h1, g1, g2, g3, g4, g5, g6, g7, g8⟩ => ⟨v', e', v1, h1, g1, g2, g3, g4, g5, g6, g7, hR _ _ g8⟩
theorem OkR.wf {f : FuncId} {args : List DV} {h : List Blk} {R : DV → List Blk → Prop} (hf : HWF h → OkR P G f args h R) : OkR P G f args h R :=
  fun e w vs he hH hr hg ht => hf (by rw [← he]; exact hr.hwf) e w vs he hH hr hg ht
theorem Ok.wf {f : FuncId} {args : List DV} {h : List Blk} {v : DV} {h' : List Blk} (hf : HWF h → Ok P G f args h v h') : Ok P G f args h v h' :=
  fun e w vs he hH hr hg ht => hf (by rw [← he]; exact hr.hwf) e w vs he hH hr hg ht
theorem Ok_of_code {V : List Nat} {f : FuncId} {fn : Func} {d : DC} {rs : List DR} (hf : P.funcs[f]? = some fn) (hc : fn.body.bind (cCodeV V P) = some d) (hrs : cRes P fn.results.toList = some rs) {args : List DV} {h : List Blk} {v : DV} {h' : List Blk} (n : Nat) (hn : fn.ntmps = args.length + n)
    (H : vc P G h d ⟨args ++ List.replicate n .any, h⟩ fun x s => match x with
      | .nrm | .ret => ∃ ds, resD s.h s.t rs = some ds ∧ WkV h (mkRes ds) s.h v h'
      | _ => False) : Ok P G f args h v h' := by
  refine (OkR_of_code hf hc hrs n hn ?_).toOk
  have : (fun (x : DX) (s : St) => match x with
      | .nrm | .ret => ∃ ds, resD s.h s.t rs = some ds ∧ WkV h (mkRes ds) s.h v h'
      | _ => False) = (fun (x : DX) (s : St) => match x with
      | .nrm | .ret => ∃ ds, resD s.h s.t rs = some ds ∧ ∃ v1 h1, WkV h (mkRes ds) s.h v1 h1 ∧ v1 = v ∧ h1 = h'
      | _ => False) := by
    funext x s
    cases x <;> simp
  rw [← this]
  exact H

end
end Go.Den

namespace Go.Den
open Go

/-- Only some of the blocks are spoken of any longer. -/
theorem WkV.trunc {h0 h h' : List Blk} {d : DV} (hn : h0.length ≤ h'.length) (hd : ∀ (b : Nat) (k : Blk), h'[b]? = some k → h[b]? = some k ∨ k = .dead) (hw : HWF h0 → HWF h') (hwd : WF (· < h'.length) d) : WkV h0 d h d h' := by
  intro h0w e v he hr hv hl
  subst he
  obtain ⟨ev, hh⟩ := env_drop hr h' hd
  exact ⟨⟨e.ρ, h', e.H⟩, rfl, rfl, hh (hw h0w), hv.gen ev hwd, ⟨hn, Nat.le_refl _, ev.ro, fun b hb k' hk => ev.key b (Nat.lt_of_lt_of_le hb hn) k' hk⟩⟩

/-- What the call made for itself is no longer spoken of. -/
theorem WkV.junk {h0 j : List Blk} {d : DV} (hwd : WF (· < h0.length) d) : WkV h0 d (h0 ++ j) d h0 :=
  WkV.trunc (Nat.le_refl _) (fun b k hb => .inl (by
    have : b < h0.length := by
      rcases Nat.lt_or_ge b h0.length with h | h
      · exact h
      · rw [List.getElem?_eq_none h] at hb; cases hb
    rw [List.getElem?_append_left this]; exact hb)) id hwd

theorem WkV.same {h0 : List Blk} {d : DV} : WkV h0 d h0 d h0 := WkV.refl

/-- The frame at a loop: slots that nobody reads again, blocks that nobody speaks of. -/
theorem Wk.of {G : Nat → DV} {h0 : List Blk} {s s' : St} (hlen : s'.t.length = s.t.length) (ht : ∀ i (hi : i < s'.t.length) (hi' : i < s.t.length), s'.t[i] = .any ∨ (s'.t[i] = s.t[i] ∧ WF (· < s'.h.length) s'.t[i]))
    (hn : h0.length ≤ s'.h.length) (hd : ∀ (b : Nat) (k : Blk), s'.h[b]? = some k → s.h[b]? = some k ∨ k = .dead) (hw : HWF h0 → HWF s'.h) (hG : ∀ g, WF (· < s'.h.length) (G g)) : Wk G h0 s s' := by
  intro h0w D e a w hr hl
  have hr1 := hr.hr
  obtain ⟨ev, hh⟩ := env_drop hr.hr s'.h (fun b k hb => by rw [hr.h]; exact hd b k hb)
  refine ⟨⟨e.ρ, s'.h, e.H⟩, ⟨rfl, hr.H, hh (hw h0w), fun g => (hr.gr g).gen ev (hG g), ⟨by rw [hlen]; exact hr.tr.1, fun i hi hi' => ?_⟩, hr.df⟩, ⟨hn, Nat.le_refl _, ev.ro, fun b hb k' hk => ev.key b (Nat.lt_of_lt_of_le hb hn) k' hk⟩⟩
  rcases ht i hi (hlen ▸ hi) with h1 | ⟨h1, h2⟩
  · rw [h1]; exact .any
  · have := hr.tr.2 i (hlen ▸ hi) hi'
    rw [← h1] at this
    exact this.gen ev h2

theorem Wk.refl {G : Nat → DV} {h0 : List Blk} {s : St} : Wk G h0 s s := fun _ D e a w hr hl => ⟨e, hr, Ev.refl' e hl⟩

/-- Slots forgotten, the memory as it is. -/
def forget (keep : List Nat) : Nat → List DV → List DV
  | _, [] => []
  | i, d :: l => (if keep.contains i then d else .any) :: forget keep (i + 1) l

theorem forget_length (keep : List Nat) : ∀ (i : Nat) (l : List DV), (forget keep i l).length = l.length
  | _, [] => rfl
  | i, d :: l => by simp [forget, forget_length keep (i + 1) l]
theorem forget_get (keep : List Nat) : ∀ (i : Nat) (l : List DV) (j : Nat) (hj : j < (forget keep i l).length) (hj' : j < l.length), (forget keep i l)[j] = .any ∨ (forget keep i l)[j] = l[j]
  | _, [], j, hj, _ => by simp [forget] at hj
  | i, d :: l, 0, _, _ => by
    simp only [forget, List.getElem_cons_zero]
    split
    · exact .inr rfl
    · exact .inl rfl
  | i, d :: l, j + 1, hj, hj' => by
    simp only [forget, List.getElem_cons_succ]
    exact forget_get keep (i + 1) l j _ _

/-- At a loop's head: only the slots that live on, and the blocks h' at the front. -/
theorem Wk.forget {G : Nat → DV} {h0 : List Blk} {s : St} (keep : List Nat) : Wk G h0 s ⟨forget keep 0 s.t, s.h⟩ := by
  intro h0w D e a w hr hl
  refine ⟨e, ⟨hr.h, hr.H, hr.hr, hr.gr, ⟨by rw [forget_length]; exact hr.tr.1, fun i hi hi' => ?_⟩, hr.df⟩, Ev.refl' e hl⟩
  rw [forget_length] at hi
  rcases forget_get keep 0 s.t i (by rw [forget_length]; exact hi) hi with h | h
  · simp only [h]; exact .any
  · simp only [h]; exact hr.tr.2 i hi hi'

theorem Wk.trans {G : Nat → DV} {h0 : List Blk} {s s' s'' : St} (h : Wk G h0 s s') (h' : Wk G h0 s' s'') : Wk G h0 s s'' := by
  intro h0w D e a w hr hl
  obtain ⟨e', h1, h2⟩ := h h0w D e a w hr hl
  obtain ⟨e'', h3, h4⟩ := h' h0w D e' a w h1 h2.len
  exact ⟨e'', h3, h2.trans h4 (Nat.le_refl _)⟩

/-- WHAT A LAW'S CONTRACT SAYS OF THE MACHINE: nothing that was there has turned. -/
theorem Ok.law {P : Program} {f : FuncId} {args : List DV} {v : DV} (h : Ok P (fun _ => .any) f args [] v []) (w : World) (vs : Array Value) (ht : TR ⟨fun _ => none, [], w.heap⟩ args vs) :
    Calls P f vs w fun en w' => (∃ v' e', en = .returned v' ∧ VR e' v v') ∧ Go.RowKit.Below w.heap.size w w' := by
  refine (h ⟨fun _ => none, [], w.heap⟩ w vs rfl rfl ⟨fun b b' q q' _ _ hq => (by cases hq), fun b k hb => (by simp at hb)⟩ (fun _ => .any) ht).mono fun en w' ⟨v', e', h1, h2, h3, h4, h5, h6, h7⟩ => ⟨⟨v', e', h1, h6⟩, ?_⟩
  refine ⟨h4.os, h4.tape, h4.output, by rw [← h2]; exact h7.size, fun k hk => ?_⟩
  rw [← h2]
  exact (h7.ro k ⟨hk, fun b q _ hq => (by cases hq)⟩).2

/-- A loop, not yet looked at. -/
def vcLoop (P : Program) (G : Nat → DV) (n : List Blk) (a : DC) (s : St) (Q : DX → St → Prop) : Prop :=
  ∃ (I : St → Prop) (μ : St → Nat), (∃ s', Wk G n s s' ∧ I s') ∧ ∀ s, I s → vc P G n a s fun x s1 => match x with | .nrm => ∃ s2, Wk G n s1 s2 ∧ I s2 ∧ μ s2 < μ s | .ext i => ∃ s2, Wk G n s1 s2 ∧ Q (.ext i) s2 | .ret => Q .ret s1

section
variable {P : Program} {G : Nat → DV} {n : List Blk} {Q : DX → St → Prop} {s s' : St}
theorem vc_skip : vc P G n .skip s Q = Q .nrm s := by simp only [vc]
theorem vc_rg {ops : List DOper} : vc P G n (.rg ops) s Q = vcL P G ops s (Q .nrm) := by simp only [vc]
theorem vc_rgv {ops : List DDOp} : vc P G n (.rgv ops) s Q = ∃ hv, HV hv s.h ∧ vcD P G ops s.t [hv] s.h (fun t h => Q .nrm ⟨t, h⟩) := by simp only [vc]
theorem vc_rgd {ops : List DDOp} : vc P G n (.rgd ops) s Q = vcD P G ops s.t [s.h] s.h (fun t h => Q .nrm ⟨t, h⟩) := by simp only [vc]
theorem vc_seq {a b : DC} : vc P G n (.seq a b) s Q = vc P G n a s (fun x s' => match x with | .nrm => vc P G n b s' Q | x => Q x s') := by rw [vc]; rfl
theorem vc_cond {c : Opd} {a b : DC} : vc P G n (.cond c a b) s Q = match c.ev G s.t with
    | .p (.bool t) => if t = true then vc P G n a s Q else vc P G n b s Q
    | _ => False := by simp only [vc]; rfl
theorem vc_block {id : Nat} {a : DC} : vc P G n (.block id a) s Q = vc P G n a s fun x s' => match x with | .ext i => if i = id then Q .nrm s' else Q (.ext i) s' | x => Q x s' := by rw [vc]; rfl
theorem vc_loop {a : DC} : vc P G n (.loop a) s Q = vcLoop P G n a s Q := by rw [vc, vcLoop]; rfl
theorem vc_exit {id : Nat} : vc P G n (.exit id) s Q = Q (.ext id) s := by simp only [vc]
theorem vc_ret : vc P G n .ret s Q = Q .ret s := by simp only [vc]
theorem vc_congr {a : DC} (h : s = s') : vc P G n a s Q = vc P G n a s' Q := by rw [h]
theorem vcLoop_congr {a : DC} (h : s = s') : vcLoop P G n a s Q = vcLoop P G n a s' Q := by rw [h]
theorem vcL_congr {l : List DOper} {K : St → Prop} (h : s = s') : vcL P G l s K = vcL P G l s' K := by rw [h]
theorem vcO_congr {o : DO} {ev ev' : Opd → DV} {h h' : List Blk} {K : DV → List Blk → Prop} (h1 : ev = ev') (h2 : h = h') : vcO P G o ev h K = vcO P G o ev' h' K := by rw [h1, h2]
theorem binK_congr {o : BinOp} {x x' y y' : Value} {K : Value → Prop} (h1 : x = x') (h2 : y = y') : binK o x y K = binK o x' y' K := by rw [h1, h2]
theorem unK_congr {o : UnOp} {x x' : Value} {K : Value → Prop} (h1 : x = x') : unK o x K = unK o x' K := by rw [h1]

theorem vcL_mono {K K' : St → Prop} (hK : ∀ s, K s → K' s) : ∀ (l : List DOper) (s : St), vcL P G l s K → vcL P G l s K'
  | [], s, H => by rw [vcL] at H ⊢; exact hK _ H
  | o :: l, s, H => by
    rw [vcL] at H ⊢
    split at H
    · exact vcO_mono (fun v h hv => vcL_mono hK l _ hv) H
    · rename_i g want _
      split at H
      · rename_i t _
        by_cases hc : t = want
        · rw [if_pos hc] at H ⊢
          exact vcO_mono (fun v h hv => vcL_mono hK l _ hv) H
        · rw [if_neg hc] at H ⊢
          exact vcL_mono hK l _ H
      · exact vcL_mono hK l _ H
      · exact H.elim
theorem stepD_mono {d : DDOp} {t : List DV} {Hs : List (List Blk)} {h : List Blk} {K K' : DV → List (List Blk) → List Blk → Prop} (hK : ∀ v Hs h, K v Hs h → K' v Hs h) : stepD P G d t Hs h K → stepD P G d t Hs h K' := by
  intro H
  unfold stepD at H ⊢
  split
  · rename_i hh
    rw [if_pos hh] at H
    exact vcO_mono (fun v h ⟨h1, h2⟩ => ⟨h1, hK _ _ _ h2⟩) H
  · rename_i hh
    rw [if_neg hh] at H
    exact vcO_mono (fun v h h1 => hK _ _ _ h1) H
theorem vcD_mono {K K' : List DV → List Blk → Prop} (hK : ∀ t h, K t h → K' t h) : ∀ (l : List DDOp) (t : List DV) (Hs : List (List Blk)) (h : List Blk), vcD P G l t Hs h K → vcD P G l t Hs h K'
  | [], t, Hs, h, H => by rw [vcD] at H ⊢; exact hK _ _ H
  | d :: l, t, Hs, h, H => by
    rw [vcD] at H ⊢
    split at H
    · exact stepD_mono (fun v Hs h hv => vcD_mono hK l _ _ _ hv) H
    · rename_i g want _
      split at H
      · rename_i t _
        by_cases hc : t = want
        · rw [if_pos hc] at H ⊢
          exact stepD_mono (fun v Hs h hv => vcD_mono hK l _ _ _ hv) H
        · rw [if_neg hc] at H ⊢
          exact vcD_mono hK l _ _ _ H
      · exact vcD_mono hK l _ _ _ H
      · exact H.elim
theorem vc_mono : ∀ (a : DC) {s : St} {Q Q' : DX → St → Prop}, (∀ x s, Q x s → Q' x s) → vc P G n a s Q → vc P G n a s Q'
  | .skip, s, Q, Q', hQ, H => by rw [vc_skip] at H ⊢; exact hQ _ _ H
  | .rg ops, s, Q, Q', hQ, H => by rw [vc_rg] at H ⊢; exact vcL_mono (hQ _) _ _ H
  | .rgv ops, s, Q, Q', hQ, H => by
    rw [vc_rgv] at H ⊢
    obtain ⟨hv, h1, h2⟩ := H
    exact ⟨hv, h1, vcD_mono (fun t h => hQ _ _) _ _ _ _ h2⟩
  | .rgd ops, s, Q, Q', hQ, H => by rw [vc_rgd] at H ⊢; exact vcD_mono (fun t h => hQ _ _) _ _ _ _ H
  | .seq a b, s, Q, Q', hQ, H => by
    rw [vc_seq] at H ⊢
    refine vc_mono a (fun x s hx => ?_) H
    cases x
    · exact vc_mono b hQ hx
    · exact hQ _ _ hx
    · exact hQ _ _ hx
  | .cond c a b, s, Q, Q', hQ, H => by
    rw [vc_cond] at H ⊢
    split at H
    · rename_i t _
      by_cases hc : t = true
      · rw [if_pos hc] at H ⊢
        exact vc_mono a hQ H
      · rw [if_neg hc] at H ⊢
        exact vc_mono b hQ H
    · exact H.elim
  | .block id a, s, Q, Q', hQ, H => by
    rw [vc_block] at H ⊢
    refine vc_mono a (fun x s hx => ?_) H
    cases x
    · exact hQ _ _ hx
    · rename_i i
      by_cases hc : i = id
      · simp only [if_pos hc] at hx ⊢
        exact hQ _ _ hx
      · simp only [if_neg hc] at hx ⊢
        exact hQ _ _ hx
    · exact hQ _ _ hx
  | .loop a, s, Q, Q', hQ, H => by
    rw [vc_loop, vcLoop] at H ⊢
    obtain ⟨I, μ, h0, h1⟩ := H
    refine ⟨I, μ, h0, fun s hs => vc_mono a (fun x s hx => ?_) (h1 s hs)⟩
    cases x
    · exact hx
    · obtain ⟨s2, hw, hx⟩ := hx
      exact ⟨s2, hw, hQ _ _ hx⟩
    · exact hQ _ _ hx
  | .exit id, s, Q, Q', hQ, H => by rw [vc_exit] at H ⊢; exact hQ _ _ H
  | .ret, s, Q, Q', hQ, H => by rw [vc_ret] at H ⊢; exact hQ _ _ H

/-- A cut: what holds behind the first piece. -/
theorem vc_cut {a : DC} (R : DX → St → Prop) (h1 : vc P G n a s R) (h2 : ∀ x s, R x s → Q x s) : vc P G n a s Q := vc_mono a h2 h1

end


theorem replicate_lit (n : Nat) (d : DV) : List.replicate (n + 1) d = d :: List.replicate n d := rfl

end Go.Den

namespace Go.Den
open Go

/-- A function that puts off a call: what comes ahead, the region up to the putting off, the call, the rest. -/
structure DfC where
  a : DC
  init : List DOper
  dst : Option Nat
  f : FuncId
  args : List Opd
  rest : DC

def cDefOp (P : Program) (o : Oper) : Option (FuncId × List Opd) :=
  match o.op, o.guard with
  | .defer c, none => match c.callee with
    | .value (.func f) => if cFunc P f = true then some (f, c.args.toList.map cOpd) else none
    | _ => none
  | _, _ => none
def cDef (P : Program) : Code → Option DfC
  | .seq a (.seq (.region _ ops false) rest) => match ops.toList.getLast? with
    | some o => match cDefOp P o, cCode P a, cOps P ops ops.toList.dropLast, cCode P rest with
      | some (f, args), some da, some dl, some dr => some ⟨da, dl.map DOper.rel, o.dst, f, args, dr⟩
      | _, _, _, _ => none
    | none => none
  | _ => none

section
variable {P : Program} {G : Nat → DV}

/-- THE CONTRACT OF A FUNCTION THAT PUTS OFF A CALL. -/
theorem OkR_of_defer {f : FuncId} {fn : Func} {d : DfC} {rs : List DR} (hf : P.funcs[f]? = some fn) (hc : fn.body.bind (cDef P) = some d) (hrs : cRes P fn.results.toList = some rs) {args : List DV} {h : List Blk} {R : DV → List Blk → Prop} (n : Nat) (hn : fn.ntmps = args.length + n)
    (H : vc P G h (.seq d.a (.rg d.init)) ⟨args ++ List.replicate n .any, h⟩ fun x s1 => match x with
      | .nrm => (∀ y, y ∈ d.args → WF (· < h.length) (y.ev G s1.t)) ∧ vc P G h d.rest (s1.put d.dst (.tup []) s1.h) fun x s2 => match x with
        | .nrm | .ret => ∃ R', OkD P G d.f (d.args.map (Opd.ev G s1.t)) s2.h R' ∧ ∀ v1 h2, R' v1 h2 → ∃ ds, resD h2 s2.t rs = some ds ∧ ∃ v h', WkV h (mkRes ds) h2 v h' ∧ R v h'
        | _ => False
      | _ => False) : OkR P G f args h R := by
  cases hb : fn.body with
  | none => rw [hb] at hc; cases hc
  | some c =>
  rw [hb] at hc
  simp only [Option.bind_some] at hc
  unfold cDef at hc
  split at hc
  case h_2 => cases hc
  rename_i ca id ops rest
  split at hc
  case h_2 => cases hc
  rename_i o hlast
  split at hc
  case h_2 => cases hc
  rename_i df dargs da dl dr hdo hca hcl hcr
  cases hc
  intro e w vs he hH hr hg ht
  refine calls_of_wp_defers hf hb ?_
  have hw : HWF h := by rw [← he]; exact hr.hwf
  obtain ⟨n', hn'⟩ : ∃ n', n' = fn.ntmps - vs.size := ⟨_, rfl⟩
  have hnn : n' = n := by rw [hn', ← ht.1, hn]; omega
  have hrel : RelE G [] h.length e w e ⟨args ++ List.replicate n .any, h⟩ { tmps := vs ++ Array.replicate (fn.ntmps - vs.size) undef, defers := [] } w := by
    refine ⟨⟨he, hH, hr, hg, ⟨by simp [ht.1, ← hn', hnn], fun i hi hi' => ?_⟩, rfl⟩, by rw [← he]; exact Ev.refl e, WS.refl w, by rw [he]; exact Nat.le_refl _⟩
    by_cases hia : i < args.length
    · have := ht.2 i hia (ht.1 ▸ hia)
      simp only [List.getElem_append_left hia]
      rw [Array.getElem_append_left (ht.1 ▸ hia)]
      exact this
    · simp only [List.getElem_append_right (Nat.le_of_not_lt hia), List.getElem_replicate]
      exact .any
  rw [vc_seq] at H
  -- what comes ahead
  refine wp_seq (wp_mono (vc_sound hw ca da hca _ e _ _ w hrel H) fun ex a1 w1 hq => ?_)
  cases ex with
  | exit i => obtain ⟨e1, s1, hr1, hq⟩ := hq; exact hq.elim
  | ret => obtain ⟨e1, s1, hr1, hq⟩ := hq; exact hq.elim
  | normal =>
    obtain ⟨e1, s1, hr1, hq⟩ := hq
    simp only [vc_rg] at hq
    have hne : ops.toList ≠ [] := fun h => by rw [h] at hlast; cases hlast
    have hsize : ops.size = ops.toList.dropLast.length + 1 := by
      have := List.length_pos_iff.2 hne
      simp at this ⊢
      omega
    have hsplit : ops.toList = ops.toList.dropLast ++ [o] := by
      have h1 := List.dropLast_concat_getLast hne
      rw [List.getLast?_eq_some_getLast hne] at hlast
      rw [← Option.some.inj hlast]
      exact h1.symm
    have hoi : ops[ops.toList.dropLast.length]? = some o := by
      have : ops.toList[ops.toList.dropLast.length]? = some o := by
        conv => lhs; rw [hsplit]
        simp
      simpa using this
    refine wp_seq (wp_region ?_)
    rw [List.range_eq_range', hsize, show List.range' 0 (ops.toList.dropLast.length + 1) = List.range' 0 ops.toList.dropLast.length ++ [ops.toList.dropLast.length] by rw [List.range'_concat]; simp]
    refine vcL_soundT [ops.toList.dropLast.length] ops.toList.dropLast dl 0 hcl (fun j hj => ?_) e1 s1 a1 w1 hr1 hq fun e2 s2 a2 w2 hr2 hq2 => ?_
    · have : ops.toList[j]? = ops.toList.dropLast[j]? := by
        conv => lhs; rw [hsplit]
        rw [List.getElem?_append_left hj]
      rw [← this]
      simp
    · -- the putting off
      simp only [wpOps, hoi]
      unfold cDefOp at hdo
      split at hdo
      case h_2 => cases hdo
      rename_i cc hop hgd
      split at hdo
      case h_2 => cases hdo
      rename_i fd hcal
      split at hdo
      case isFalse => cases hdo
      rename_i hcf
      cases hdo
      rw [if_pos (by simp [Region.wanted, hgd])]
      left
      obtain ⟨callee, cargs, cats⟩ := cc
      simp only at hcal
      subst hcal
      have hex : (execOp a2.eval o).run P w2 = .ok (.defer ⟨.fn (.func df) #[], cargs.map a2.eval⟩) w2 := by
        simp only [execOp, hop, resolve, Act.eval, Deferred.ofValue, Sem.run_bind, Sem.run_pure, Result.andThen_ok]
        simp
      unfold Oper.wp
      rw [hex, Oper.upon_defer]
      obtain ⟨hwf, hrest⟩ := hq2
      have hdf := hr2.r.df
      have hr3 : RelE G [⟨.fn (.func df) #[], cargs.map a2.eval⟩] h.length e2 w2 e2 (s2.put o.dst (.tup []) s2.h) ({ a2 with defers := ⟨.fn (.func df) #[], cargs.map a2.eval⟩ :: a2.defers }.put o.dst undef) w2 := by
        refine ⟨⟨?_, hr2.r.H, hr2.r.hr, hr2.r.gr, ?_, ?_⟩, Ev.refl' e2 hr2.ev.len, WS.refl w2, hr2.ev.len⟩
        · rw [hr2.r.h]; cases o.dst <;> rfl
        · have := TR.put (s := s2) (a := { a2 with defers := ⟨.fn (.func df) #[], cargs.map a2.eval⟩ :: a2.defers }) hr2.r.tr o.dst vr_undef s2.h
          exact this
        · cases o.dst <;> simp [Act.put, hdf]
      have hdv : TR e2 ((cargs.toList.map cOpd).map (Opd.ev G s2.t)) (cargs.map a2.eval) := by
        have := tr_map hr2.r.gr hr2.r.tr cargs.toList
        simpa [← Array.toList_map] using this
      refine wp_mono (vc_sound hw rest dr hcr _ e2 _ _ w2 hr3 hrest) fun ex a4 w4 hq => ?_
      have fin : ∀ e4 s4, RelE G [⟨.fn (.func df) #[], cargs.map a2.eval⟩] h.length e2 w2 e4 s4 a4 w4 → (∃ R', OkD P G df ((cargs.toList.map cOpd).map (Opd.ev G s2.t)) s4.h R' ∧ ∀ v1 h2, R' v1 h2 → ∃ ds, resD h2 s4.t rs = some ds ∧ ∃ v h', WkV h (mkRes ds) h2 v h' ∧ R v h') →
          Leaves P fn a4.tmps (fun en w' => ∃ v' e' v h', en = .returned v' ∧ e'.H = w'.heap ∧ e'.h = h' ∧ WS w w' ∧ HR e' ∧ VR e' v v' ∧ Ev e.h.length e e' ∧ R v h') a4.defers .returning w4 := by
        rintro e4 s4 hr4 ⟨R', hok, hR'⟩
        rw [hr4.r.df]
        have hdv4 : TR e4 ((cargs.toList.map cOpd).map (Opd.ev G s2.t)) (cargs.map a2.eval) := by
          refine ⟨hdv.1, fun i hi hi' => ?_⟩
          refine (hdv.2 i hi hi').gen hr4.ev.toB ?_
          simp only [List.getElem_map]
          exact hwf _ (List.mem_map.2 ⟨_, List.getElem_mem _, rfl⟩)
        have hcall := hok e4 w4 (cargs.map a2.eval) hr4.r.h hr4.r.H hr4.r.hr hr4.r.gr hdv4
        have hinv : (invoke (.fn (.func df) #[]) (cargs.map a2.eval)).run P w4 = .ok (.enter df (cargs.map a2.eval)) w4 := by
          unfold cFunc at hcf
          split at hcf
          · rename_i fn2 hfn2
            simp only [Bool.and_eq_true, Bool.not_eq_true', beq_eq_false_iff_ne] at hcf
            simp only [invoke, callFunc, Sem.run_bind, Sem.run_pure, Result.andThen_ok, run_program, hfn2]
            have h2 : fn2.body.isNone = false := by simp [Option.isNone_iff_eq_none, ← Option.isSome_iff_ne_none, hcf.1]
            rw [if_neg (by simpa using hcf.2), if_neg (by rw [h2]; simp)]
            simp
          · cases hcf
        refine leaves_cons (by simp) hinv (hcall.mono ?_)
        rintro en u' w' ⟨rfl, v', e5, v1, h2, rfl, g1, g2, g3, g4, g5, g6, g7⟩
        obtain ⟨ds, hds, v, h', hwk, hR⟩ := hR' v1 h2 g7
        have hr5 : RelS G [⟨.fn (.func df) #[], cargs.map a2.eval⟩] e5 ⟨s4.t, h2⟩ a4 w' := ⟨g2, g1, g4, hr4.r.gr.mono g6, hr4.r.tr.mono g6, hr4.r.df⟩
        obtain ⟨us, k1, k2, k3⟩ := run_res (P := P) hr5 fn.results.toList rs ds hrs hds
        have hres : (results fn a4.tmps).run P w' = .ok (if h : us.toArray.size = 1 then us.toArray[0] else .tuple us.toArray) w' := by
          unfold results
          rw [Array.mapM_eq_mapM_toList]
          rw [Sem.run_bind, Sem.run_map]
          erw [k1]
          rfl
        have hv : VR e5 (mkRes ds) (if h : us.toArray.size = 1 then us.toArray[0] else .tuple us.toArray) := by
          match ds, us, k2, k3 with
          | [d], [u], _, h3 => simpa [mkRes] using h3 0 (by simp) (by simp)
          | [], [], _, _ => exact .tup (by simp) (fun i hi => by simp at hi)
          | d1 :: d2 :: dr, u1 :: u2 :: ur, h2, h3 =>
            rw [dif_neg (by simp)]
            exact .tup (by simpa using h2) (fun i hi hi' => by simpa using h3 i hi (by simpa using hi'))
        have ev05 : Ev h.length e e5 := (hr2.ev.trans hr4.ev (Nat.le_refl _)).trans g6 hr4.ev.len
        obtain ⟨e6, m1, m2, m3, m4, m5⟩ := hwk hw e5 _ g2 g4 hv (by rw [← g2]; exact ev05.len)
        refine ⟨_, hres, _, e6, v, h', rfl, by rw [m2]; exact g1, m1, (hr2.ws.trans hr4.ws).trans g3, m3, m4, ?_, hR⟩
        rw [he]
        exact ev05.trans m5 (Nat.le_refl _)
      cases ex with
      | normal => obtain ⟨e4, s4, hr4, hq4⟩ := hq; exact fin e4 s4 hr4 hq4
      | ret => obtain ⟨e4, s4, hr4, hq4⟩ := hq; exact fin e4 s4 hr4 hq4
      | exit i => obtain ⟨e4, s4, hr4, hq4⟩ := hq; exact hq4.elim
      | _ => exact hq.elim
  | _ => exact hq.elim
end
end Go.Den

namespace Go.Den
open Go

/-- Said with a proof, not by reckoning. -/
theorem nd {α : Sort _} {a b : α} (h : a = b) : a = b := h

/-- A slot, and a frame with another value in a slot. -/
def gS : List DV → Nat → DV
  | [], _ => .any
  | d :: _, 0 => d
  | _ :: l, n + 1 => gS l n
def sS : List DV → Nat → DV → List DV
  | [], _, _ => []
  | _ :: l, 0, v => v :: l
  | d :: l, n + 1, v => d :: sS l n v
theorem gS_eq : ∀ (l : List DV) (n : Nat), l.getD n .any = gS l n
  | [], _ => by simp [gS]
  | d :: _, 0 => rfl
  | _ :: l, n + 1 => by simpa [gS] using gS_eq l n
theorem sS_eq : ∀ (l : List DV) (n : Nat) (v : DV), l.set n v = sS l n v
  | [], _, _ => by simp [sS]
  | d :: _, 0, _ => rfl
  | d :: l, n + 1, v => by simp [sS, sS_eq l n v]
@[simp] theorem gS_0 {d : DV} {l : List DV} : gS (d :: l) 0 = d := nd rfl
@[simp] theorem gS_1 {d : DV} {l : List DV} {n : Nat} : gS (d :: l) (n + 1) = gS l n := nd rfl
@[simp] theorem sS_0 {d v : DV} {l : List DV} : sS (d :: l) 0 v = v :: l := nd rfl
@[simp] theorem sS_1 {d v : DV} {l : List DV} {n : Nat} : sS (d :: l) (n + 1) v = d :: sS l n v := nd rfl

/-- What is still to be done, as data. -/
inductive Fr where
  | seq (b : DC)
  | blk (id : Nat)

def kon0 (P : Program) (G : Nat → DV) (n : List Blk) : List Fr → (DX → St → Prop) → DX → St → Prop
  | [], Q, x, s => Q x s
  | .seq b :: st, Q, x, s => match x with | .nrm => vc P G n b s (kon0 P G n st Q) | x => kon0 P G n st Q x s
  | .blk id :: st, Q, x, s => match x with | .ext i => if i = id then kon0 P G n st Q .nrm s else kon0 P G n st Q (.ext i) s | x => kon0 P G n st Q x s

def VV0 (P : Program) (G : Nat → DV) (n : List Blk) (c : DC) (s : St) (st : List Fr) (Q : DX → St → Prop) : Prop := vc P G n c s (kon0 P G n st Q)
def LL0 (P : Program) (G : Nat → DV) (n : List Blk) (ops : List DOper) (t : List DV) (h : List Blk) (st : List Fr) (Q : DX → St → Prop) : Prop := vcL P G ops ⟨t, h⟩ (kon0 P G n st Q .nrm)
/-- One operation's value is there: on. -/
def KK0 (P : Program) (G : Nat → DV) (n : List Blk) (dst : Option Nat) (l : List DOper) (t : List DV) (st : List Fr) (Q : DX → St → Prop) (v : DV) (h : List Blk) : Prop :=
  vcL P G l (St.put ⟨t, []⟩ dst v h) (kon0 P G n st Q .nrm)
/-- A test, its value there. -/
def CC0 (P : Program) (G : Nat → DV) (n : List Blk) (d : DV) (a b : DC) (s : St) (st : List Fr) (Q : DX → St → Prop) : Prop :=
  match d with | .p (.bool t) => if t = true then VV0 P G n a s st Q else VV0 P G n b s st Q | _ => False
/-- A guard, its value there. -/
def GG0 (P : Program) (G : Nat → DV) (n : List Blk) (d : DV) (want : Bool) (dst : Option Nat) (op : DO) (l : List DOper) (t : List DV) (h : List Blk) (st : List Fr) (Q : DX → St → Prop) : Prop :=
  match d with | .p (.bool b) => if b = want then LL0 P G n (⟨dst, op, none⟩ :: l) t h st Q else KK0 P G n dst l t st Q (.tup []) h | .tup [] => KK0 P G n dst l t st Q (.tup []) h | _ => False
/-- One of two, the test's value there. -/
def PP0 (P : Program) (G : Nat → DV) (n : List Blk) (d a b : DV) (dst : Option Nat) (l : List DOper) (t : List DV) (h : List Blk) (st : List Fr) (Q : DX → St → Prop) : Prop :=
  match d with | .p (.bool c) => if c = true then KK0 P G n dst l t st Q a h else KK0 P G n dst l t st Q b h | _ => False
/-- A call, its arguments there. -/
def FF0 (P : Program) (G : Nat → DV) (n : List Blk) (f : FuncId) (args : List DV) (dst : Option Nat) (l : List DOper) (t : List DV) (h : List Blk) (st : List Fr) (Q : DX → St → Prop) : Prop :=
  ∃ R, OkR P G f args h R ∧ ∀ v h', R v h' → KK0 P G n dst l t st Q v h'

section
variable {P : Program} {G : Nat → DV} {n : List Blk} {Q : DX → St → Prop} {s s' : St} {st : List Fr} {l : List DOper} {t : List DV} {h : List Blk} {dst : Option Nat} {v : DV}

theorem kon0_nil {x : DX} : kon0 P G n [] Q x s = Q x s := nd rfl
theorem kon0_seq_nrm {b : DC} : kon0 P G n (.seq b :: st) Q .nrm s = VV0 P G n b s st Q := nd rfl
theorem kon0_seq_ret {b : DC} : kon0 P G n (.seq b :: st) Q .ret s = kon0 P G n st Q .ret s := nd rfl
theorem kon0_seq_ext {b : DC} {i : Nat} : kon0 P G n (.seq b :: st) Q (.ext i) s = kon0 P G n st Q (.ext i) s := nd rfl
theorem kon0_blk_nrm {i : Nat} : kon0 P G n (.blk i :: st) Q .nrm s = kon0 P G n st Q .nrm s := nd rfl
theorem kon0_blk_ret {i : Nat} : kon0 P G n (.blk i :: st) Q .ret s = kon0 P G n st Q .ret s := nd rfl
theorem kon0_blk_same {i : Nat} : kon0 P G n (.blk i :: st) Q (.ext i) s = kon0 P G n st Q .nrm s := by simp [kon0]
theorem kon0_blk_ext {i j : Nat} (hij : j ≠ i) : kon0 P G n (.blk i :: st) Q (.ext j) s = kon0 P G n st Q (.ext j) s := by simp [kon0, hij]

theorem VV0_skip : VV0 P G n .skip s st Q = kon0 P G n st Q .nrm s := by simp only [VV0, vc_skip]
theorem VV0_rg {ops : List DOper} : VV0 P G n (.rg ops) ⟨t, h⟩ st Q = LL0 P G n ops t h st Q := by simp only [VV0, vc_rg, LL0]
theorem VV0_seq {a b : DC} : VV0 P G n (.seq a b) s st Q = VV0 P G n a s (.seq b :: st) Q := by
  exact nd rfl
theorem VV0_cond {c : Opd} {a b : DC} : VV0 P G n (.cond c a b) ⟨t, h⟩ st Q = CC0 P G n (c.ev G t) a b ⟨t, h⟩ st Q := by first | (simp only [VV0, vc_cond, CC0]; rfl) | simp only [VV0, vc_cond, CC0]
theorem VV0_block {id : Nat} {a : DC} : VV0 P G n (.block id a) s st Q = VV0 P G n a s (.blk id :: st) Q := by
  exact nd rfl
theorem VV0_exit {id : Nat} : VV0 P G n (.exit id) s st Q = kon0 P G n st Q (.ext id) s := by simp only [VV0, vc_exit]
theorem VV0_ret : VV0 P G n .ret s st Q = kon0 P G n st Q .ret s := by simp only [VV0, vc_ret]

theorem CC0_true {a b : DC} : CC0 P G n (.p (.bool true)) a b s st Q = VV0 P G n a s st Q := nd rfl
theorem CC0_false {a b : DC} : CC0 P G n (.p (.bool false)) a b s st Q = VV0 P G n b s st Q := nd rfl
theorem CC0_by {x : Bool} {a b : DC} (h1 : x = true → VV0 P G n a s st Q) (h2 : x = false → VV0 P G n b s st Q) : CC0 P G n (.p (.bool x)) a b s st Q := by
  cases x
  · exact h2 rfl
  · exact h1 rfl

theorem KK0_none : KK0 P G n none l t st Q v h = LL0 P G n l t h st Q := nd rfl
theorem KK0_some {d : Nat} : KK0 P G n (some d) l t st Q v h = LL0 P G n l (sS t d v) h st Q := by rw [← sS_eq]; rfl

theorem GG0_pos {op : DO} {want : Bool} : GG0 P G n (.p (.bool want)) want dst op l t h st Q = LL0 P G n (⟨dst, op, none⟩ :: l) t h st Q := by simp [GG0]
theorem GG0_tf {op : DO} : GG0 P G n (.p (.bool true)) false dst op l t h st Q = KK0 P G n dst l t st Q (.tup []) h := by simp [GG0]
theorem GG0_ft {op : DO} : GG0 P G n (.p (.bool false)) true dst op l t h st Q = KK0 P G n dst l t st Q (.tup []) h := by simp [GG0]
theorem GG0_un {op : DO} {want : Bool} : GG0 P G n (.tup []) want dst op l t h st Q = KK0 P G n dst l t st Q (.tup []) h := by simp [GG0]
theorem GG0_by {x : Bool} {op : DO} {want : Bool} (h1 : x = true → GG0 P G n (.p (.bool true)) want dst op l t h st Q) (h2 : x = false → GG0 P G n (.p (.bool false)) want dst op l t h st Q) : GG0 P G n (.p (.bool x)) want dst op l t h st Q := by
  cases x
  · exact h2 rfl
  · exact h1 rfl
theorem PP0_true {a b : DV} : PP0 P G n (.p (.bool true)) a b dst l t h st Q = KK0 P G n dst l t st Q a h := by simp [PP0]
theorem PP0_false {a b : DV} : PP0 P G n (.p (.bool false)) a b dst l t h st Q = KK0 P G n dst l t st Q b h := by simp [PP0]
theorem FF0_by {f : FuncId} {args : List DV} {v : DV} {h' : List Blk} (hf : Ok P G f args h v h') (hk : KK0 P G n dst l t st Q v h') : FF0 P G n f args dst l t h st Q := ⟨_, hf.toR, by rintro v1 h1 ⟨rfl, rfl⟩; exact hk⟩

theorem LL0_nil : LL0 P G n [] t h st Q = kon0 P G n st Q .nrm ⟨t, h⟩ := nd rfl
theorem LL0_guard {g : Nat} {want : Bool} {op : DO} : LL0 P G n (⟨dst, op, some (g, want)⟩ :: l) t h st Q = GG0 P G n (gS t g) want dst op l t h st Q := by
  rw [← gS_eq]
  cases dst <;> simp [LL0, vcL, GG0, KK0, St.put] <;> rfl

theorem LL0_step {op : DO} : LL0 P G n (⟨dst, op, none⟩ :: l) t h st Q = vcO P G op (Opd.ev G t) h (KK0 P G n dst l t st Q) := by
  cases dst <;> rfl
theorem LL0_pick {c a b : Opd} : LL0 P G n (⟨dst, .pick c a b, none⟩ :: l) t h st Q = PP0 P G n (c.ev G t) (a.ev G t) (b.ev G t) dst l t h st Q := by
  rw [LL0_step]
  simp only [vcO, PP0]
  rfl
theorem LL0_call {f : FuncId} {args : List Opd} : LL0 P G n (⟨dst, .callr f args, none⟩ :: l) t h st Q = FF0 P G n f (args.map (Opd.ev G t)) dst l t h st Q := by
  rw [LL0_step, vcO, FF0]
theorem LL0_bin {uop ux uy} : LL0 P G n (⟨dst, .bin uop ux uy, none⟩ :: l) t h st Q = vcO P G (.bin uop ux uy) (Opd.ev G t) h (KK0 P G n dst l t st Q) := nd LL0_step
theorem LL0_eqb {uneg ux uy} : LL0 P G n (⟨dst, .eqb uneg ux uy, none⟩ :: l) t h st Q = vcO P G (.eqb uneg ux uy) (Opd.ev G t) h (KK0 P G n dst l t st Q) := nd LL0_step
theorem LL0_eqn {uneg uk ux} : LL0 P G n (⟨dst, .eqn uneg uk ux, none⟩ :: l) t h st Q = vcO P G (.eqn uneg uk ux) (Opd.ev G t) h (KK0 P G n dst l t st Q) := nd LL0_step
theorem LL0_eqp {uneg ux uy} : LL0 P G n (⟨dst, .eqp uneg ux uy, none⟩ :: l) t h st Q = vcO P G (.eqp uneg ux uy) (Opd.ev G t) h (KK0 P G n dst l t st Q) := nd LL0_step
theorem LL0_eqi {uneg ux uy} : LL0 P G n (⟨dst, .eqi uneg ux uy, none⟩ :: l) t h st Q = vcO P G (.eqi uneg ux uy) (Opd.ev G t) h (KK0 P G n dst l t st Q) := nd LL0_step
theorem LL0_eqs {uneg uks ux uy} : LL0 P G n (⟨dst, .eqs uneg uks ux uy, none⟩ :: l) t h st Q = vcO P G (.eqs uneg uks ux uy) (Opd.ev G t) h (KK0 P G n dst l t st Q) := nd LL0_step
theorem LL0_un {uop ux} : LL0 P G n (⟨dst, .un uop ux, none⟩ :: l) t h st Q = vcO P G (.un uop ux) (Opd.ev G t) h (KK0 P G n dst l t st Q) := nd LL0_step
theorem LL0_cint {uk ux} : LL0 P G n (⟨dst, .cint uk ux, none⟩ :: l) t h st Q = vcO P G (.cint uk ux) (Opd.ev G t) h (KK0 P G n dst l t st Q) := nd LL0_step
theorem LL0_cstr {ux} : LL0 P G n (⟨dst, .cstr ux, none⟩ :: l) t h st Q = vcO P G (.cstr ux) (Opd.ev G t) h (KK0 P G n dst l t st Q) := nd LL0_step
theorem LL0_b2s {ux} : LL0 P G n (⟨dst, .b2s ux, none⟩ :: l) t h st Q = vcO P G (.b2s ux) (Opd.ev G t) h (KK0 P G n dst l t st Q) := nd LL0_step
theorem LL0_s2b {ux} : LL0 P G n (⟨dst, .s2b ux, none⟩ :: l) t h st Q = vcO P G (.s2b ux) (Opd.ev G t) h (KK0 P G n dst l t st Q) := nd LL0_step
theorem LL0_lens {ux} : LL0 P G n (⟨dst, .lens ux, none⟩ :: l) t h st Q = vcO P G (.lens ux) (Opd.ev G t) h (KK0 P G n dst l t st Q) := nd LL0_step
theorem LL0_lenl {ux} : LL0 P G n (⟨dst, .lenl ux, none⟩ :: l) t h st Q = vcO P G (.lenl ux) (Opd.ev G t) h (KK0 P G n dst l t st Q) := nd LL0_step
theorem LL0_lenm {ux} : LL0 P G n (⟨dst, .lenm ux, none⟩ :: l) t h st Q = vcO P G (.lenm ux) (Opd.ev G t) h (KK0 P G n dst l t st Q) := nd LL0_step
theorem LL0_mm {umx ux uy} : LL0 P G n (⟨dst, .mm umx ux uy, none⟩ :: l) t h st Q = vcO P G (.mm umx ux uy) (Opd.ev G t) h (KK0 P G n dst l t st Q) := nd LL0_step
theorem LL0_slcs {ux ulo uhi} : LL0 P G n (⟨dst, .slcs ux ulo uhi, none⟩ :: l) t h st Q = vcO P G (.slcs ux ulo uhi) (Opd.ev G t) h (KK0 P G n dst l t st Q) := nd LL0_step
theorem LL0_slcl {usz ux ulo uhi} : LL0 P G n (⟨dst, .slcl usz ux ulo uhi, none⟩ :: l) t h st Q = vcO P G (.slcl usz ux ulo uhi) (Opd.ev G t) h (KK0 P G n dst l t st Q) := nd LL0_step
theorem LL0_idxs {ux ui} : LL0 P G n (⟨dst, .idxs ux ui, none⟩ :: l) t h st Q = vcO P G (.idxs ux ui) (Opd.ev G t) h (KK0 P G n dst l t st Q) := nd LL0_step
theorem LL0_idxa {um usz ug ux ui} : LL0 P G n (⟨dst, .idxa um usz ug ux ui, none⟩ :: l) t h st Q = vcO P G (.idxa um usz ug ux ui) (Opd.ev G t) h (KK0 P G n dst l t st Q) := nd LL0_step
theorem LL0_fld {uo usz ug ux} : LL0 P G n (⟨dst, .fld uo usz ug ux, none⟩ :: l) t h st Q = vcO P G (.fld uo usz ug ux) (Opd.ev G t) h (KK0 P G n dst l t st Q) := nd LL0_step
theorem LL0_litz {usz uels} : LL0 P G n (⟨dst, .litz usz uels, none⟩ :: l) t h st Q = vcO P G (.litz usz uels) (Opd.ev G t) h (KK0 P G n dst l t st Q) := nd LL0_step
theorem LL0_bld {uzero uparts} : LL0 P G n (⟨dst, .bld uzero uparts, none⟩ :: l) t h st Q = vcO P G (.bld uzero uparts) (Opd.ev G t) h (KK0 P G n dst l t st Q) := nd LL0_step
theorem LL0_lit {usz uels} : LL0 P G n (⟨dst, .lit usz uels, none⟩ :: l) t h st Q = vcO P G (.lit usz uels) (Opd.ev G t) h (KK0 P G n dst l t st Q) := nd LL0_step
theorem LL0_alloc {usz uzero} : LL0 P G n (⟨dst, .alloc usz uzero, none⟩ :: l) t h st Q = vcO P G (.alloc usz uzero) (Opd.ev G t) h (KK0 P G n dst l t st Q) := nd LL0_step
theorem LL0_box {ux} : LL0 P G n (⟨dst, .box ux, none⟩ :: l) t h st Q = vcO P G (.box ux) (Opd.ev G t) h (KK0 P G n dst l t st Q) := nd LL0_step
theorem LL0_load {ug usz ua} : LL0 P G n (⟨dst, .load ug usz ua, none⟩ :: l) t h st Q = vcO P G (.load ug usz ua) (Opd.ev G t) h (KK0 P G n dst l t st Q) := nd LL0_step
theorem LL0_store {usz ua ux} : LL0 P G n (⟨dst, .store usz ua ux, none⟩ :: l) t h st Q = vcO P G (.store usz ua ux) (Opd.ev G t) h (KK0 P G n dst l t st Q) := nd LL0_step
theorem LL0_nilchk {uk ux} : LL0 P G n (⟨dst, .nilchk uk ux, none⟩ :: l) t h st Q = vcO P G (.nilchk uk ux) (Opd.ev G t) h (KK0 P G n dst l t st Q) := nd LL0_step
theorem LL0_faddr {ug uo usz ua} : LL0 P G n (⟨dst, .faddr ug uo usz ua, none⟩ :: l) t h st Q = vcO P G (.faddr ug uo usz ua) (Opd.ev G t) h (KK0 P G n dst l t st Q) := nd LL0_step
theorem LL0_iaddr {usz ux ui} : LL0 P G n (⟨dst, .iaddr usz ux ui, none⟩ :: l) t h st Q = vcO P G (.iaddr usz ux ui) (Opd.ev G t) h (KK0 P G n dst l t st Q) := nd LL0_step
theorem LL0_iaddra {um usz ug ux ui} : LL0 P G n (⟨dst, .iaddra um usz ug ux ui, none⟩ :: l) t h st Q = vcO P G (.iaddra um usz ug ux ui) (Opd.ev G t) h (KK0 P G n dst l t st Q) := nd LL0_step
theorem LL0_app {usz ubytes ux uy} : LL0 P G n (⟨dst, .app usz ubytes ux uy, none⟩ :: l) t h st Q = vcO P G (.app usz ubytes ux uy) (Opd.ev G t) h (KK0 P G n dst l t st Q) := nd LL0_step
theorem LL0_ext {ux ui} : LL0 P G n (⟨dst, .ext ux ui, none⟩ :: l) t h st Q = vcO P G (.ext ux ui) (Opd.ev G t) h (KK0 P G n dst l t st Q) := nd LL0_step
theorem LL0_ifc {ut ux} : LL0 P G n (⟨dst, .ifc ut ux, none⟩ :: l) t h st Q = vcO P G (.ifc ut ux) (Opd.ev G t) h (KK0 P G n dst l t st Q) := nd LL0_step
theorem LL0_mov {ux} : LL0 P G n (⟨dst, .mov ux, none⟩ :: l) t h st Q = vcO P G (.mov ux) (Opd.ev G t) h (KK0 P G n dst l t st Q) := nd LL0_step
theorem LL0_mkmapr {ux} : LL0 P G n (⟨dst, .mkmapr ux, none⟩ :: l) t h st Q = vcO P G (.mkmapr ux) (Opd.ev G t) h (KK0 P G n dst l t st Q) := nd LL0_step
theorem LL0_mkmap : LL0 P G n (⟨dst, .mkmap, none⟩ :: l) t h st Q = vcO P G .mkmap (Opd.ev G t) h (KK0 P G n dst l t st Q) := nd LL0_step
theorem LL0_rngs {ux} : LL0 P G n (⟨dst, .rngs ux, none⟩ :: l) t h st Q = vcO P G (.rngs ux) (Opd.ev G t) h (KK0 P G n dst l t st Q) := nd LL0_step
theorem LL0_nxts {ua} : LL0 P G n (⟨dst, .nxts ua, none⟩ :: l) t h st Q = vcO P G (.nxts ua) (Opd.ev G t) h (KK0 P G n dst l t st Q) := nd LL0_step
theorem LL0_rngm {ux} : LL0 P G n (⟨dst, .rngm ux, none⟩ :: l) t h st Q = vcO P G (.rngm ux) (Opd.ev G t) h (KK0 P G n dst l t st Q) := nd LL0_step
theorem LL0_nxtm {ua} : LL0 P G n (⟨dst, .nxtm ua, none⟩ :: l) t h st Q = vcO P G (.nxtm ua) (Opd.ev G t) h (KK0 P G n dst l t st Q) := nd LL0_step
theorem LL0_ent {ua} : LL0 P G n (⟨dst, .ent ua, none⟩ :: l) t h st Q = vcO P G (.ent ua) (Opd.ev G t) h (KK0 P G n dst l t st Q) := nd LL0_step
theorem LL0_mupd {uck um uk ux} : LL0 P G n (⟨dst, .mupd uck um uk ux, none⟩ :: l) t h st Q = vcO P G (.mupd uck um uk ux) (Opd.ev G t) h (KK0 P G n dst l t st Q) := nd LL0_step
theorem LL0_look {uck uzero uok um uk} : LL0 P G n (⟨dst, .look uck uzero uok um uk, none⟩ :: l) t h st Q = vcO P G (.look uck uzero uok um uk) (Opd.ev G t) h (KK0 P G n dst l t st Q) := nd LL0_step
theorem LL0_mdel {uck um uk} : LL0 P G n (⟨dst, .mdel uck um uk, none⟩ :: l) t h st Q = vcO P G (.mdel uck um uk) (Opd.ev G t) h (KK0 P G n dst l t st Q) := nd LL0_step
theorem LL0_clr {uz ux} : LL0 P G n (⟨dst, .clr uz ux, none⟩ :: l) t h st Q = vcO P G (.clr uz ux) (Opd.ev G t) h (KK0 P G n dst l t st Q) := nd LL0_step
@[simp ↓] theorem bi_shl {k k' : IntKind} {a b : Int} {K : Value → Prop} : binK .shl (.int k a) (.int k' b) K = (0 ≤ b ∧ K (.int k (ishl k a b))) := nd rfl
@[simp ↓] theorem bi_shr {k k' : IntKind} {a b : Int} {K : Value → Prop} : binK .shr (.int k a) (.int k' b) K = (0 ≤ b ∧ K (.int k (ishr k a b))) := nd rfl
@[simp ↓] theorem bi_add {k k' : IntKind} {a b : Int} {K : Value → Prop} : binK .add (.int k a) (.int k' b) K = (k = k' ∧ K (.int k (k.wrap (a + b)))) := nd rfl
@[simp ↓] theorem bi_sub {k k' : IntKind} {a b : Int} {K : Value → Prop} : binK .sub (.int k a) (.int k' b) K = (k = k' ∧ K (.int k (k.wrap (a - b)))) := nd rfl
@[simp ↓] theorem bi_mul {k k' : IntKind} {a b : Int} {K : Value → Prop} : binK .mul (.int k a) (.int k' b) K = (k = k' ∧ K (.int k (k.wrap (a * b)))) := nd rfl
@[simp ↓] theorem bi_quo {k k' : IntKind} {a b : Int} {K : Value → Prop} : binK .quo (.int k a) (.int k' b) K = (k = k' ∧ b ≠ 0 ∧ K (.int k (k.wrap (a.tdiv b)))) := nd rfl
@[simp ↓] theorem bi_rem {k k' : IntKind} {a b : Int} {K : Value → Prop} : binK .rem (.int k a) (.int k' b) K = (k = k' ∧ b ≠ 0 ∧ K (.int k (a.tmod b))) := nd rfl
@[simp ↓] theorem bi_and {k k' : IntKind} {a b : Int} {K : Value → Prop} : binK .and (.int k a) (.int k' b) K = (k = k' ∧ K (.int k (iand k a b))) := nd rfl
@[simp ↓] theorem bi_or {k k' : IntKind} {a b : Int} {K : Value → Prop} : binK .or (.int k a) (.int k' b) K = (k = k' ∧ K (.int k (ior k a b))) := nd rfl
@[simp ↓] theorem bi_xor {k k' : IntKind} {a b : Int} {K : Value → Prop} : binK .xor (.int k a) (.int k' b) K = (k = k' ∧ K (.int k (ixor k a b))) := nd rfl
@[simp ↓] theorem bi_andNot {k k' : IntKind} {a b : Int} {K : Value → Prop} : binK .andNot (.int k a) (.int k' b) K = (k = k' ∧ K (.int k (iandn k a b))) := nd rfl
@[simp ↓] theorem bi_eql {k k' : IntKind} {a b : Int} {K : Value → Prop} : binK .eql (.int k a) (.int k' b) K = (k = k' ∧ K (.bool (a == b))) := nd rfl
@[simp ↓] theorem bi_neq {k k' : IntKind} {a b : Int} {K : Value → Prop} : binK .neq (.int k a) (.int k' b) K = (k = k' ∧ K (.bool (a != b))) := nd rfl
@[simp ↓] theorem bi_lss {k k' : IntKind} {a b : Int} {K : Value → Prop} : binK .lss (.int k a) (.int k' b) K = (k = k' ∧ K (.bool (decide (a < b)))) := nd rfl
@[simp ↓] theorem bi_leq {k k' : IntKind} {a b : Int} {K : Value → Prop} : binK .leq (.int k a) (.int k' b) K = (k = k' ∧ K (.bool (decide (a ≤ b)))) := nd rfl
@[simp ↓] theorem bi_gtr {k k' : IntKind} {a b : Int} {K : Value → Prop} : binK .gtr (.int k a) (.int k' b) K = (k = k' ∧ K (.bool (decide (b < a)))) := nd rfl
@[simp ↓] theorem bi_geq {k k' : IntKind} {a b : Int} {K : Value → Prop} : binK .geq (.int k a) (.int k' b) K = (k = k' ∧ K (.bool (decide (b ≤ a)))) := nd rfl
@[simp ↓] theorem bs_add {a b : ByteArray} {K : Value → Prop} : binK .add (.string a) (.string b) K = (((a.size + b.size : Nat) : Int) ≤ 9223372036854775807 ∧ K (.string (a ++ b))) := nd rfl
@[simp ↓] theorem bs_eql {a b : ByteArray} {K : Value → Prop} : binK .eql (.string a) (.string b) K = (K (.bool (decide (a = b)))) := nd rfl
@[simp ↓] theorem bs_neq {a b : ByteArray} {K : Value → Prop} : binK .neq (.string a) (.string b) K = (K (.bool (!decide (a = b)))) := nd rfl
@[simp ↓] theorem bs_lss {a b : ByteArray} {K : Value → Prop} : binK .lss (.string a) (.string b) K = (K (.bool (Op.bytesLess a.data.toList b.data.toList))) := nd rfl
@[simp ↓] theorem bs_leq {a b : ByteArray} {K : Value → Prop} : binK .leq (.string a) (.string b) K = (K (.bool (Op.bytesLess a.data.toList b.data.toList || decide (a = b)))) := nd rfl
@[simp ↓] theorem bs_gtr {a b : ByteArray} {K : Value → Prop} : binK .gtr (.string a) (.string b) K = (K (.bool (!(Op.bytesLess a.data.toList b.data.toList || decide (a = b))))) := nd rfl
@[simp ↓] theorem bs_geq {a b : ByteArray} {K : Value → Prop} : binK .geq (.string a) (.string b) K = (K (.bool (!(Op.bytesLess a.data.toList b.data.toList)))) := nd rfl
@[simp ↓] theorem un_neg {k : IntKind} {a : Int} {K : Value → Prop} : unK .neg (.int k a) K = (K (.int k (k.wrap (0 - a)))) := nd rfl
@[simp ↓] theorem un_xor {k : IntKind} {a : Int} {K : Value → Prop} : unK .xor (.int k a) K = (K (.int k (inot k a))) := nd rfl
@[simp ↓] theorem un_not {a : Bool} {K : Value → Prop} : unK .not (.bool a) K = (K (.bool (!a))) := nd rfl
end

/-- A LOOP: what holds at its head; each exit goes on with what is still to be done. -/
theorem VV0_loop {P : Program} {G : Nat → DV} {n : List Blk} {Q : DX → St → Prop} {s : St} {st : List Fr} {a : DC} (I : St → Prop) (μ : St → Nat) (h0 : ∃ s', Wk G n s s' ∧ I s')
    (h1 : ∀ s, I s → ∀ B : DX → St → Prop, (∀ s1, (∃ s2, Wk G n s1 s2 ∧ I s2 ∧ μ s2 < μ s) → B .nrm s1) → (∀ i s1, (∃ s2, Wk G n s1 s2 ∧ kon0 P G n st Q (.ext i) s2) → B (.ext i) s1) → (∀ s1, kon0 P G n st Q .ret s1 → B .ret s1) → VV0 P G n a s [] B) :
    VV0 P G n (.loop a) s st Q := by
  rw [VV0, vc_loop]
  refine ⟨I, μ, h0, fun s hs => ?_⟩
  exact h1 s hs _ (fun s1 h => h) (fun i s1 h => h) (fun s1 h => h)

/-- The function's end. -/
def RR0 (h : List Blk) (rs : List DR) (v : DV) (h' : List Blk) (x : DX) (s : St) : Prop :=
  match x with
  | .nrm | .ret => ∃ ds, resD s.h s.t rs = some ds ∧ WkV h (mkRes ds) s.h v h'
  | _ => False
/-- The results are there. -/
def RE0 (h : List Blk) (ds : Option (List DV)) (h1 : List Blk) (v : DV) (h' : List Blk) : Prop := ∃ l, ds = some l ∧ WkV h (mkRes l) h1 v h'
theorem RR0_nrm {h : List Blk} {rs : List DR} {v : DV} {h' : List Blk} {t : List DV} {h1 : List Blk} : RR0 h rs v h' .nrm ⟨t, h1⟩ = RE0 h (resD h1 t rs) h1 v h' := nd rfl
theorem RR0_ret {h : List Blk} {rs : List DR} {v : DV} {h' : List Blk} {t : List DV} {h1 : List Blk} : RR0 h rs v h' .ret ⟨t, h1⟩ = RE0 h (resD h1 t rs) h1 v h' := nd rfl
theorem RE0_some {h : List Blk} {l : List DV} {h1 : List Blk} {v : DV} {h' : List Blk} : RE0 h (some l) h1 v h' = WkV h (mkRes l) h1 v h' := by simp [RE0]
theorem RE0_same {h : List Blk} {v : DV} : WkV h v h v h = True := eq_true WkV.refl

theorem Ok_by0 {V : List Nat} {P : Program} {G : Nat → DV} {f : FuncId} {fn : Func} {d : DC} {rs : List DR} (hf : P.funcs[f]? = some fn) (hc : fn.body.bind (cCodeV V P) = some d) (hrs : cRes P fn.results.toList = some rs) {args : List DV} {h : List Blk} {v : DV} {h' : List Blk} (n : Nat) (hn : fn.ntmps = args.length + n)
    (H : VV0 P G h d ⟨args ++ List.replicate n .any, h⟩ [] (RR0 h rs v h')) : Ok P G f args h v h' := by
  refine Ok_of_code hf hc hrs n hn (vc_mono d (fun x s hx => ?_) H)
  cases x <;> exact hx

@[simp] theorem ev_t {G : Nat → DV} {t : List DV} {n : Nat} : Opd.ev G t (.t n) = gS t n := gS_eq t n
@[simp] theorem ev_c {G : Nat → DV} {t : List DV} {v : DV} : Opd.ev G t (.c v) = v := nd rfl
@[simp] theorem ev_g {G : Nat → DV} {t : List DV} {n : Nat} : Opd.ev G t (.g n) = G n := nd rfl
@[simp] theorem resD_nil {h : List Blk} {t : List DV} : resD h t [] = some [] := nd rfl
@[simp] theorem resD_tmp {h : List Blk} {t : List DV} {n : Nat} {l : List DR} : resD h t (.tmp n :: l) = (resD h t l).map (gS t n :: ·) := by rw [← gS_eq]; rfl
@[simp] theorem resD_cell {h : List Blk} {t : List DV} {a : Nat} {g : Bool} {sz : Nat} {l : List DR} : resD h t (.cell a g sz :: l) = match gS t a, resD h t l with
    | .ptr b i o x, some r => match h[b]? with
      | some (.cells bsz els) => if x = els.length ∧ o + sz ≤ bsz then some (sub (els.getD i .any) o sz g :: r) else none
      | _ => none
    | _, _ => none := by rw [← gS_eq]; exact nd rfl

/-- The same, but for the kernel: nothing here unfolds. -/
structure KON (P : Program) (G : Nat → DV) (n : List Blk) (st : List Fr) (Q : DX → St → Prop) (x : DX) (s : St) : Prop where
  out : kon0 P G n st Q x s
structure VV (P : Program) (G : Nat → DV) (n : List Blk) (c : DC) (s : St) (st : List Fr) (Q : DX → St → Prop) : Prop where
  out : VV0 P G n c s st Q
structure LL (P : Program) (G : Nat → DV) (n : List Blk) (ops : List DOper) (t : List DV) (h : List Blk) (st : List Fr) (Q : DX → St → Prop) : Prop where
  out : LL0 P G n ops t h st Q
structure KK (P : Program) (G : Nat → DV) (n : List Blk) (dst : Option Nat) (l : List DOper) (t : List DV) (st : List Fr) (Q : DX → St → Prop) (v : DV) (h : List Blk) : Prop where
  out : KK0 P G n dst l t st Q v h
structure CC (P : Program) (G : Nat → DV) (n : List Blk) (d : DV) (a b : DC) (s : St) (st : List Fr) (Q : DX → St → Prop) : Prop where
  out : CC0 P G n d a b s st Q
structure GG (P : Program) (G : Nat → DV) (n : List Blk) (d : DV) (want : Bool) (dst : Option Nat) (op : DO) (l : List DOper) (t : List DV) (h : List Blk) (st : List Fr) (Q : DX → St → Prop) : Prop where
  out : GG0 P G n d want dst op l t h st Q
structure PP (P : Program) (G : Nat → DV) (n : List Blk) (d a b : DV) (dst : Option Nat) (l : List DOper) (t : List DV) (h : List Blk) (st : List Fr) (Q : DX → St → Prop) : Prop where
  out : PP0 P G n d a b dst l t h st Q
structure FF (P : Program) (G : Nat → DV) (n : List Blk) (f : FuncId) (args : List DV) (dst : Option Nat) (l : List DOper) (t : List DV) (h : List Blk) (st : List Fr) (Q : DX → St → Prop) : Prop where
  out : FF0 P G n f args dst l t h st Q
/-- An append, its slices there. -/
structure AA (P : Program) (G : Nat → DV) (n : List Blk) (sz bytes : Nat) (dx dy : DV) (dst : Option Nat) (l : List DOper) (t : List DV) (h : List Blk) (st : List Fr) (Q : DX → St → Prop) : Prop where
  out : vcO P G (.app sz bytes (.c dx) (.c dy)) (Opd.ev G []) h (KK P G n dst l t st Q)
/-- A new slice, its length and its capacity there. -/
structure MK (P : Program) (G : Nat → DV) (n : List Blk) (g : Bool) (sz bytes : Nat) (zero dx dy : DV) (dst : Option Nat) (l : List DOper) (t : List DV) (h : List Blk) (st : List Fr) (Q : DX → St → Prop) : Prop where
  out : vcO P G (.mks g sz bytes zero (.c dx) (.c dy)) (Opd.ev G []) h (KK P G n dst l t st Q)
/-- A call of a function's value. -/
structure CV (P : Program) (G : Nat → DV) (n : List Blk) (x : DV) (args : List DV) (dst : Option Nat) (l : List DOper) (t : List DV) (h : List Blk) (st : List Fr) (Q : DX → St → Prop) : Prop where
  out : match x with | .fn (.func f) first cap => cFunc P f = true ∧ FF0 P G n f (first ++ args ++ cap) dst l t h st Q | _ => False
/-- A call of a method. -/
structure IV (P : Program) (G : Nat → DV) (n : List Blk) (name : String) (x : DV) (args : List DV) (dst : Option Nat) (l : List DOper) (t : List DV) (h : List Blk) (st : List Fr) (Q : DX → St → Prop) : Prop where
  out : match x with | .iface ty d => (match methOf P ty name with | some f => cFunc P f = true ∧ FF0 P G n f (d :: args) dst l t h st Q | none => False) | _ => False
structure RR (h : List Blk) (rs : List DR) (v : DV) (h' : List Blk) (x : DX) (s : St) : Prop where
  out : RR0 h rs v h' x s
structure RE (h : List Blk) (ds : Option (List DV)) (h1 : List Blk) (v : DV) (h' : List Blk) : Prop where
  out : RE0 h ds h1 v h'
theorem KON_e : @KON = @kon0 := by
  funext P G n st Q x s
  exact propext ⟨fun x => x.out, fun x => ⟨x⟩⟩
theorem VV_e : @VV = @VV0 := by
  funext P G n c s st Q
  exact propext ⟨fun x => x.out, fun x => ⟨x⟩⟩
theorem LL_e : @LL = @LL0 := by
  funext P G n ops t h st Q
  exact propext ⟨fun x => x.out, fun x => ⟨x⟩⟩
theorem KK_e : @KK = @KK0 := by
  funext P G n dst l t st Q v h
  exact propext ⟨fun x => x.out, fun x => ⟨x⟩⟩
theorem CC_e : @CC = @CC0 := by
  funext P G n d a b s st Q
  exact propext ⟨fun x => x.out, fun x => ⟨x⟩⟩
theorem GG_e : @GG = @GG0 := by
  funext P G n d want dst op l t h st Q
  exact propext ⟨fun x => x.out, fun x => ⟨x⟩⟩
theorem PP_e : @PP = @PP0 := by
  funext P G n d a b dst l t h st Q
  exact propext ⟨fun x => x.out, fun x => ⟨x⟩⟩
theorem FF_e : @FF = @FF0 := by
  funext P G n f args dst l t h st Q
  exact propext ⟨fun x => x.out, fun x => ⟨x⟩⟩
theorem RR_e : @RR = @RR0 := by
  funext h rs v h1 x s
  exact propext ⟨fun x => x.out, fun x => ⟨x⟩⟩
theorem RE_e : @RE = @RE0 := by
  funext h ds h1 v h2
  exact propext ⟨fun x => x.out, fun x => ⟨x⟩⟩

section
variable {P : Program} {G : Nat → DV} {n : List Blk} {Q : DX → St → Prop} {s s' : St} {st : List Fr} {l : List DOper} {t : List DV} {h : List Blk} {dst : Option Nat} {v : DV}
@[simp] theorem KON_nil {x : DX} : KON P G n [] Q x s = Q x s := by
  simp only [KON_e, VV_e, LL_e, KK_e, CC_e, GG_e, PP_e, FF_e, RR_e, RE_e]
  exact kon0_nil
@[simp] theorem KON_seq_nrm {b : DC} : KON P G n (.seq b :: st) Q .nrm s = VV P G n b s st Q := by
  simp only [KON_e, VV_e, LL_e, KK_e, CC_e, GG_e, PP_e, FF_e, RR_e, RE_e]
  exact kon0_seq_nrm
@[simp] theorem KON_seq_ret {b : DC} : KON P G n (.seq b :: st) Q .ret s = KON P G n st Q .ret s := by
  simp only [KON_e, VV_e, LL_e, KK_e, CC_e, GG_e, PP_e, FF_e, RR_e, RE_e]
  exact kon0_seq_ret
@[simp] theorem KON_seq_ext {b : DC} {i : Nat} : KON P G n (.seq b :: st) Q (.ext i) s = KON P G n st Q (.ext i) s := by
  simp only [KON_e, VV_e, LL_e, KK_e, CC_e, GG_e, PP_e, FF_e, RR_e, RE_e]
  exact kon0_seq_ext
@[simp] theorem KON_blk_nrm {i : Nat} : KON P G n (.blk i :: st) Q .nrm s = KON P G n st Q .nrm s := by
  simp only [KON_e, VV_e, LL_e, KK_e, CC_e, GG_e, PP_e, FF_e, RR_e, RE_e]
  exact kon0_blk_nrm
@[simp] theorem KON_blk_ret {i : Nat} : KON P G n (.blk i :: st) Q .ret s = KON P G n st Q .ret s := by
  simp only [KON_e, VV_e, LL_e, KK_e, CC_e, GG_e, PP_e, FF_e, RR_e, RE_e]
  exact kon0_blk_ret
@[simp] theorem KON_blk_same {i : Nat} : KON P G n (.blk i :: st) Q (.ext i) s = KON P G n st Q .nrm s := by
  simp only [KON_e, VV_e, LL_e, KK_e, CC_e, GG_e, PP_e, FF_e, RR_e, RE_e]
  exact kon0_blk_same
theorem KON_blk_ext {i j : Nat} (hij : j ≠ i) : KON P G n (.blk i :: st) Q (.ext j) s = KON P G n st Q (.ext j) s := by
  simp only [KON_e, VV_e, LL_e, KK_e, CC_e, GG_e, PP_e, FF_e, RR_e, RE_e]
  exact kon0_blk_ext hij
@[simp] theorem VV_skip : VV P G n .skip s st Q = KON P G n st Q .nrm s := by
  simp only [KON_e, VV_e, LL_e, KK_e, CC_e, GG_e, PP_e, FF_e, RR_e, RE_e]
  exact VV0_skip
@[simp] theorem VV_rg {ops : List DOper} : VV P G n (.rg ops) ⟨t, h⟩ st Q = LL P G n ops t h st Q := by
  simp only [KON_e, VV_e, LL_e, KK_e, CC_e, GG_e, PP_e, FF_e, RR_e, RE_e]
  exact VV0_rg
@[simp] theorem VV_seq {a b : DC} : VV P G n (.seq a b) s st Q = VV P G n a s (.seq b :: st) Q := by
  simp only [KON_e, VV_e, LL_e, KK_e, CC_e, GG_e, PP_e, FF_e, RR_e, RE_e]
  exact VV0_seq
@[simp] theorem VV_cond {c : Opd} {a b : DC} : VV P G n (.cond c a b) ⟨t, h⟩ st Q = CC P G n (c.ev G t) a b ⟨t, h⟩ st Q := by
  simp only [KON_e, VV_e, LL_e, KK_e, CC_e, GG_e, PP_e, FF_e, RR_e, RE_e]
  exact VV0_cond
@[simp] theorem VV_block {id : Nat} {a : DC} : VV P G n (.block id a) s st Q = VV P G n a s (.blk id :: st) Q := by
  simp only [KON_e, VV_e, LL_e, KK_e, CC_e, GG_e, PP_e, FF_e, RR_e, RE_e]
  exact VV0_block
@[simp] theorem VV_exit {id : Nat} : VV P G n (.exit id) s st Q = KON P G n st Q (.ext id) s := by
  simp only [KON_e, VV_e, LL_e, KK_e, CC_e, GG_e, PP_e, FF_e, RR_e, RE_e]
  exact VV0_exit
@[simp] theorem VV_ret : VV P G n .ret s st Q = KON P G n st Q .ret s := by
  simp only [KON_e, VV_e, LL_e, KK_e, CC_e, GG_e, PP_e, FF_e, RR_e, RE_e]
  exact VV0_ret
@[simp] theorem CC_true {a b : DC} : CC P G n (.p (.bool true)) a b s st Q = VV P G n a s st Q := by
  simp only [KON_e, VV_e, LL_e, KK_e, CC_e, GG_e, PP_e, FF_e, RR_e, RE_e]
  exact CC0_true
@[simp] theorem CC_false {a b : DC} : CC P G n (.p (.bool false)) a b s st Q = VV P G n b s st Q := by
  simp only [KON_e, VV_e, LL_e, KK_e, CC_e, GG_e, PP_e, FF_e, RR_e, RE_e]
  exact CC0_false
@[simp] theorem KK_none : KK P G n none l t st Q v h = LL P G n l t h st Q := by
  simp only [KON_e, VV_e, LL_e, KK_e, CC_e, GG_e, PP_e, FF_e, RR_e, RE_e]
  exact KK0_none
@[simp] theorem KK_some {d : Nat} : KK P G n (some d) l t st Q v h = LL P G n l (sS t d v) h st Q := by
  simp only [KON_e, VV_e, LL_e, KK_e, CC_e, GG_e, PP_e, FF_e, RR_e, RE_e]
  exact KK0_some
@[simp] theorem GG_pos {op : DO} {want : Bool} : GG P G n (.p (.bool want)) want dst op l t h st Q = LL P G n (⟨dst, op, none⟩ :: l) t h st Q := by
  simp only [KON_e, VV_e, LL_e, KK_e, CC_e, GG_e, PP_e, FF_e, RR_e, RE_e]
  exact GG0_pos
@[simp] theorem GG_un {op : DO} {want : Bool} : GG P G n (.tup []) want dst op l t h st Q = KK P G n dst l t st Q (.tup []) h := by
  simp only [KON_e, VV_e, LL_e, KK_e, CC_e, GG_e, PP_e, FF_e, RR_e, RE_e]
  exact GG0_un
@[simp] theorem GG_tf {op : DO} : GG P G n (.p (.bool true)) false dst op l t h st Q = KK P G n dst l t st Q (.tup []) h := by
  simp only [KON_e, VV_e, LL_e, KK_e, CC_e, GG_e, PP_e, FF_e, RR_e, RE_e]
  exact GG0_tf
@[simp] theorem GG_ft {op : DO} : GG P G n (.p (.bool false)) true dst op l t h st Q = KK P G n dst l t st Q (.tup []) h := by
  simp only [KON_e, VV_e, LL_e, KK_e, CC_e, GG_e, PP_e, FF_e, RR_e, RE_e]
  exact GG0_ft
@[simp] theorem PP_true {a b : DV} : PP P G n (.p (.bool true)) a b dst l t h st Q = KK P G n dst l t st Q a h := by
  simp only [KON_e, VV_e, LL_e, KK_e, CC_e, GG_e, PP_e, FF_e, RR_e, RE_e]
  exact PP0_true
@[simp] theorem PP_false {a b : DV} : PP P G n (.p (.bool false)) a b dst l t h st Q = KK P G n dst l t st Q b h := by
  simp only [KON_e, VV_e, LL_e, KK_e, CC_e, GG_e, PP_e, FF_e, RR_e, RE_e]
  exact PP0_false
@[simp] theorem LL_nil : LL P G n [] t h st Q = KON P G n st Q .nrm ⟨t, h⟩ := by
  simp only [KON_e, VV_e, LL_e, KK_e, CC_e, GG_e, PP_e, FF_e, RR_e, RE_e]
  exact LL0_nil
@[simp] theorem LL_guard {g : Nat} {want : Bool} {op : DO} : LL P G n (⟨dst, op, some (g, want)⟩ :: l) t h st Q = GG P G n (gS t g) want dst op l t h st Q := by
  simp only [KON_e, VV_e, LL_e, KK_e, CC_e, GG_e, PP_e, FF_e, RR_e, RE_e]
  exact LL0_guard
theorem LL_step {op : DO} : LL P G n (⟨dst, op, none⟩ :: l) t h st Q = vcO P G op (Opd.ev G t) h (KK P G n dst l t st Q) := by
  simp only [KON_e, VV_e, LL_e, KK_e, CC_e, GG_e, PP_e, FF_e, RR_e, RE_e]
  exact LL0_step
@[simp] theorem LL_pick {c a b : Opd} : LL P G n (⟨dst, .pick c a b, none⟩ :: l) t h st Q = PP P G n (c.ev G t) (a.ev G t) (b.ev G t) dst l t h st Q := by
  simp only [KON_e, VV_e, LL_e, KK_e, CC_e, GG_e, PP_e, FF_e, RR_e, RE_e]
  exact LL0_pick
@[simp] theorem LL_call {f : FuncId} {args : List Opd} : LL P G n (⟨dst, .callr f args, none⟩ :: l) t h st Q = FF P G n f (args.map (Opd.ev G t)) dst l t h st Q := by
  simp only [KON_e, VV_e, LL_e, KK_e, CC_e, GG_e, PP_e, FF_e, RR_e, RE_e]
  exact LL0_call
@[simp] theorem LL_slca {um usz ug ux ulo uhi} : LL P G n (⟨dst, .slca um usz ug ux ulo uhi, none⟩ :: l) t h st Q = vcO P G (.slca um usz ug ux ulo uhi) (Opd.ev G t) h (KK P G n dst l t st Q) := LL_step
@[simp] theorem LL_stop : LL P G n (⟨dst, .stop, none⟩ :: l) t h st Q = False := LL_step
@[simp] theorem LL_bin {uop ux uy} : LL P G n (⟨dst, .bin uop ux uy, none⟩ :: l) t h st Q = vcO P G (.bin uop ux uy) (Opd.ev G t) h (KK P G n dst l t st Q) := by
  simp only [KON_e, VV_e, LL_e, KK_e, CC_e, GG_e, PP_e, FF_e, RR_e, RE_e]
  exact LL0_bin
@[simp] theorem LL_eqb {uneg ux uy} : LL P G n (⟨dst, .eqb uneg ux uy, none⟩ :: l) t h st Q = vcO P G (.eqb uneg ux uy) (Opd.ev G t) h (KK P G n dst l t st Q) := by
  simp only [KON_e, VV_e, LL_e, KK_e, CC_e, GG_e, PP_e, FF_e, RR_e, RE_e]
  exact LL0_eqb
@[simp] theorem LL_eqn {uneg uk ux} : LL P G n (⟨dst, .eqn uneg uk ux, none⟩ :: l) t h st Q = vcO P G (.eqn uneg uk ux) (Opd.ev G t) h (KK P G n dst l t st Q) := by
  simp only [KON_e, VV_e, LL_e, KK_e, CC_e, GG_e, PP_e, FF_e, RR_e, RE_e]
  exact LL0_eqn
@[simp] theorem LL_eqp {uneg ux uy} : LL P G n (⟨dst, .eqp uneg ux uy, none⟩ :: l) t h st Q = vcO P G (.eqp uneg ux uy) (Opd.ev G t) h (KK P G n dst l t st Q) := by
  simp only [KON_e, VV_e, LL_e, KK_e, CC_e, GG_e, PP_e, FF_e, RR_e, RE_e]
  exact LL0_eqp
@[simp] theorem LL_eqi {uneg ux uy} : LL P G n (⟨dst, .eqi uneg ux uy, none⟩ :: l) t h st Q = vcO P G (.eqi uneg ux uy) (Opd.ev G t) h (KK P G n dst l t st Q) := by
  simp only [KON_e, VV_e, LL_e, KK_e, CC_e, GG_e, PP_e, FF_e, RR_e, RE_e]
  exact LL0_eqi
@[simp] theorem LL_eqs {uneg uks ux uy} : LL P G n (⟨dst, .eqs uneg uks ux uy, none⟩ :: l) t h st Q = vcO P G (.eqs uneg uks ux uy) (Opd.ev G t) h (KK P G n dst l t st Q) := by
  simp only [KON_e, VV_e, LL_e, KK_e, CC_e, GG_e, PP_e, FF_e, RR_e, RE_e]
  exact LL0_eqs
@[simp] theorem LL_un {uop ux} : LL P G n (⟨dst, .un uop ux, none⟩ :: l) t h st Q = vcO P G (.un uop ux) (Opd.ev G t) h (KK P G n dst l t st Q) := by
  simp only [KON_e, VV_e, LL_e, KK_e, CC_e, GG_e, PP_e, FF_e, RR_e, RE_e]
  exact LL0_un
@[simp] theorem LL_cint {uk ux} : LL P G n (⟨dst, .cint uk ux, none⟩ :: l) t h st Q = vcO P G (.cint uk ux) (Opd.ev G t) h (KK P G n dst l t st Q) := by
  simp only [KON_e, VV_e, LL_e, KK_e, CC_e, GG_e, PP_e, FF_e, RR_e, RE_e]
  exact LL0_cint
@[simp] theorem LL_cstr {ux} : LL P G n (⟨dst, .cstr ux, none⟩ :: l) t h st Q = vcO P G (.cstr ux) (Opd.ev G t) h (KK P G n dst l t st Q) := by
  simp only [KON_e, VV_e, LL_e, KK_e, CC_e, GG_e, PP_e, FF_e, RR_e, RE_e]
  exact LL0_cstr
@[simp] theorem LL_b2s {ux} : LL P G n (⟨dst, .b2s ux, none⟩ :: l) t h st Q = vcO P G (.b2s ux) (Opd.ev G t) h (KK P G n dst l t st Q) := by
  simp only [KON_e, VV_e, LL_e, KK_e, CC_e, GG_e, PP_e, FF_e, RR_e, RE_e]
  exact LL0_b2s
@[simp] theorem LL_s2b {ux} : LL P G n (⟨dst, .s2b ux, none⟩ :: l) t h st Q = vcO P G (.s2b ux) (Opd.ev G t) h (KK P G n dst l t st Q) := by
  simp only [KON_e, VV_e, LL_e, KK_e, CC_e, GG_e, PP_e, FF_e, RR_e, RE_e]
  exact LL0_s2b
@[simp] theorem LL_lens {ux} : LL P G n (⟨dst, .lens ux, none⟩ :: l) t h st Q = vcO P G (.lens ux) (Opd.ev G t) h (KK P G n dst l t st Q) := by
  simp only [KON_e, VV_e, LL_e, KK_e, CC_e, GG_e, PP_e, FF_e, RR_e, RE_e]
  exact LL0_lens
@[simp] theorem LL_lenl {ux} : LL P G n (⟨dst, .lenl ux, none⟩ :: l) t h st Q = vcO P G (.lenl ux) (Opd.ev G t) h (KK P G n dst l t st Q) := by
  simp only [KON_e, VV_e, LL_e, KK_e, CC_e, GG_e, PP_e, FF_e, RR_e, RE_e]
  exact LL0_lenl
@[simp] theorem LL_lenm {ux} : LL P G n (⟨dst, .lenm ux, none⟩ :: l) t h st Q = vcO P G (.lenm ux) (Opd.ev G t) h (KK P G n dst l t st Q) := by
  simp only [KON_e, VV_e, LL_e, KK_e, CC_e, GG_e, PP_e, FF_e, RR_e, RE_e]
  exact LL0_lenm
@[simp] theorem LL_mm {umx ux uy} : LL P G n (⟨dst, .mm umx ux uy, none⟩ :: l) t h st Q = vcO P G (.mm umx ux uy) (Opd.ev G t) h (KK P G n dst l t st Q) := by
  simp only [KON_e, VV_e, LL_e, KK_e, CC_e, GG_e, PP_e, FF_e, RR_e, RE_e]
  exact LL0_mm
@[simp] theorem LL_slcs {ux ulo uhi} : LL P G n (⟨dst, .slcs ux ulo uhi, none⟩ :: l) t h st Q = vcO P G (.slcs ux ulo uhi) (Opd.ev G t) h (KK P G n dst l t st Q) := by
  simp only [KON_e, VV_e, LL_e, KK_e, CC_e, GG_e, PP_e, FF_e, RR_e, RE_e]
  exact LL0_slcs
@[simp] theorem LL_slcl {usz ux ulo uhi} : LL P G n (⟨dst, .slcl usz ux ulo uhi, none⟩ :: l) t h st Q = vcO P G (.slcl usz ux ulo uhi) (Opd.ev G t) h (KK P G n dst l t st Q) := by
  simp only [KON_e, VV_e, LL_e, KK_e, CC_e, GG_e, PP_e, FF_e, RR_e, RE_e]
  exact LL0_slcl
@[simp] theorem LL_idxs {ux ui} : LL P G n (⟨dst, .idxs ux ui, none⟩ :: l) t h st Q = vcO P G (.idxs ux ui) (Opd.ev G t) h (KK P G n dst l t st Q) := by
  simp only [KON_e, VV_e, LL_e, KK_e, CC_e, GG_e, PP_e, FF_e, RR_e, RE_e]
  exact LL0_idxs
@[simp] theorem LL_idxa {um usz ug ux ui} : LL P G n (⟨dst, .idxa um usz ug ux ui, none⟩ :: l) t h st Q = vcO P G (.idxa um usz ug ux ui) (Opd.ev G t) h (KK P G n dst l t st Q) := by
  simp only [KON_e, VV_e, LL_e, KK_e, CC_e, GG_e, PP_e, FF_e, RR_e, RE_e]
  exact LL0_idxa
@[simp] theorem LL_fld {uo usz ug ux} : LL P G n (⟨dst, .fld uo usz ug ux, none⟩ :: l) t h st Q = vcO P G (.fld uo usz ug ux) (Opd.ev G t) h (KK P G n dst l t st Q) := by
  simp only [KON_e, VV_e, LL_e, KK_e, CC_e, GG_e, PP_e, FF_e, RR_e, RE_e]
  exact LL0_fld
@[simp] theorem LL_litz {usz uels} : LL P G n (⟨dst, .litz usz uels, none⟩ :: l) t h st Q = vcO P G (.litz usz uels) (Opd.ev G t) h (KK P G n dst l t st Q) := by
  simp only [KON_e, VV_e, LL_e, KK_e, CC_e, GG_e, PP_e, FF_e, RR_e, RE_e]
  exact LL0_litz
@[simp] theorem LL_bld {uzero uparts} : LL P G n (⟨dst, .bld uzero uparts, none⟩ :: l) t h st Q = vcO P G (.bld uzero uparts) (Opd.ev G t) h (KK P G n dst l t st Q) := by
  simp only [KON_e, VV_e, LL_e, KK_e, CC_e, GG_e, PP_e, FF_e, RR_e, RE_e]
  exact LL0_bld
@[simp] theorem LL_lit {usz uels} : LL P G n (⟨dst, .lit usz uels, none⟩ :: l) t h st Q = vcO P G (.lit usz uels) (Opd.ev G t) h (KK P G n dst l t st Q) := by
  simp only [KON_e, VV_e, LL_e, KK_e, CC_e, GG_e, PP_e, FF_e, RR_e, RE_e]
  exact LL0_lit
@[simp] theorem LL_alloc {usz uzero} : LL P G n (⟨dst, .alloc usz uzero, none⟩ :: l) t h st Q = vcO P G (.alloc usz uzero) (Opd.ev G t) h (KK P G n dst l t st Q) := by
  simp only [KON_e, VV_e, LL_e, KK_e, CC_e, GG_e, PP_e, FF_e, RR_e, RE_e]
  exact LL0_alloc
@[simp] theorem LL_box {ux} : LL P G n (⟨dst, .box ux, none⟩ :: l) t h st Q = vcO P G (.box ux) (Opd.ev G t) h (KK P G n dst l t st Q) := by
  simp only [KON_e, VV_e, LL_e, KK_e, CC_e, GG_e, PP_e, FF_e, RR_e, RE_e]
  exact LL0_box
@[simp] theorem LL_load {ug usz ua} : LL P G n (⟨dst, .load ug usz ua, none⟩ :: l) t h st Q = vcO P G (.load ug usz ua) (Opd.ev G t) h (KK P G n dst l t st Q) := by
  simp only [KON_e, VV_e, LL_e, KK_e, CC_e, GG_e, PP_e, FF_e, RR_e, RE_e]
  exact LL0_load
@[simp] theorem LL_store {usz ua ux} : LL P G n (⟨dst, .store usz ua ux, none⟩ :: l) t h st Q = vcO P G (.store usz ua ux) (Opd.ev G t) h (KK P G n dst l t st Q) := by
  simp only [KON_e, VV_e, LL_e, KK_e, CC_e, GG_e, PP_e, FF_e, RR_e, RE_e]
  exact LL0_store
@[simp] theorem LL_nilchk {uk ux} : LL P G n (⟨dst, .nilchk uk ux, none⟩ :: l) t h st Q = vcO P G (.nilchk uk ux) (Opd.ev G t) h (KK P G n dst l t st Q) := by
  simp only [KON_e, VV_e, LL_e, KK_e, CC_e, GG_e, PP_e, FF_e, RR_e, RE_e]
  exact LL0_nilchk
@[simp] theorem LL_faddr {ug uo usz ua} : LL P G n (⟨dst, .faddr ug uo usz ua, none⟩ :: l) t h st Q = vcO P G (.faddr ug uo usz ua) (Opd.ev G t) h (KK P G n dst l t st Q) := by
  simp only [KON_e, VV_e, LL_e, KK_e, CC_e, GG_e, PP_e, FF_e, RR_e, RE_e]
  exact LL0_faddr
@[simp] theorem LL_iaddr {usz ux ui} : LL P G n (⟨dst, .iaddr usz ux ui, none⟩ :: l) t h st Q = vcO P G (.iaddr usz ux ui) (Opd.ev G t) h (KK P G n dst l t st Q) := by
  simp only [KON_e, VV_e, LL_e, KK_e, CC_e, GG_e, PP_e, FF_e, RR_e, RE_e]
  exact LL0_iaddr
@[simp] theorem LL_iaddra {um usz ug ux ui} : LL P G n (⟨dst, .iaddra um usz ug ux ui, none⟩ :: l) t h st Q = vcO P G (.iaddra um usz ug ux ui) (Opd.ev G t) h (KK P G n dst l t st Q) := by
  simp only [KON_e, VV_e, LL_e, KK_e, CC_e, GG_e, PP_e, FF_e, RR_e, RE_e]
  exact LL0_iaddra
@[simp] theorem LL_app {sz bytes : Nat} {x y : Opd} : LL P G n (⟨dst, .app sz bytes x y, none⟩ :: l) t h st Q = AA P G n sz bytes (x.ev G t) (y.ev G t) dst l t h st Q := by
  have h1 : LL P G n (⟨dst, .app sz bytes x y, none⟩ :: l) t h st Q = vcO P G (.app sz bytes x y) (Opd.ev G t) h (KK P G n dst l t st Q) := LL_step
  rw [h1]
  exact propext ⟨fun h => ⟨h⟩, fun h => h.out⟩
@[simp] theorem LL_capl {ux} : LL P G n (⟨dst, .capl ux, none⟩ :: l) t h st Q = vcO P G (.capl ux) (Opd.ev G t) h (KK P G n dst l t st Q) := LL_step
@[simp] theorem LL_cpy {usz ux uy} : LL P G n (⟨dst, .cpy usz ux uy, none⟩ :: l) t h st Q = vcO P G (.cpy usz ux uy) (Opd.ev G t) h (KK P G n dst l t st Q) := LL_step
@[simp] theorem LL_tas {ut uz uo ux} : LL P G n (⟨dst, .tas ut uz uo ux, none⟩ :: l) t h st Q = vcO P G (.tas ut uz uo ux) (Opd.ev G t) h (KK P G n dst l t st Q) := LL_step
@[simp] theorem LL_tai {ut uo ux} : LL P G n (⟨dst, .tai ut uo ux, none⟩ :: l) t h st Q = vcO P G (.tai ut uo ux) (Opd.ev G t) h (KK P G n dst l t st Q) := LL_step
@[simp] theorem LL_mkf {uf ua ub} : LL P G n (⟨dst, .mkf uf ua ub, none⟩ :: l) t h st Q = vcO P G (.mkf uf ua ub) (Opd.ev G t) h (KK P G n dst l t st Q) := LL_step
@[simp] theorem LL_mks {g : Bool} {sz bytes : Nat} {zero : DV} {x y : Opd} : LL P G n (⟨dst, .mks g sz bytes zero x y, none⟩ :: l) t h st Q = MK P G n g sz bytes zero (x.ev G t) (y.ev G t) dst l t h st Q := by
  have h1 : LL P G n (⟨dst, .mks g sz bytes zero x y, none⟩ :: l) t h st Q = vcO P G (.mks g sz bytes zero x y) (Opd.ev G t) h (KK P G n dst l t st Q) := LL_step
  rw [h1]
  exact propext ⟨fun h => ⟨h⟩, fun h => h.out⟩
/-- A slice that can be appended to. -/
theorem MK_sl {g : Bool} {sz bytes : Nat} {zero : DV} {k k' : IntKind} {a b : Int} (h0 : 0 ≤ a) (h1 : a ≤ b) (h2 : b * bytes ≤ 140737488355328) (hk : KK P G n dst l t st Q (.sl h.length 0 a.toNat a.toNat) (h ++ [.cells sz (List.replicate a.toNat zero)])) : MK P G n g sz bytes zero (.p (.int k a)) (.p (.int k' b)) dst l t h st Q :=
  ⟨⟨h0, h1, h2, .inl hk⟩⟩
/-- A slice whose capacity stays. -/
theorem MK_sa {g : Bool} {sz bytes : Nat} {zero : DV} {k k' : IntKind} {a b : Int} (hg : g = true ∨ sz = 1) (h0 : 0 ≤ a) (h1 : a ≤ b) (h2 : b * bytes ≤ 140737488355328) (hk : KK P G n dst l t st Q (.sa g sz h.length 0 0 a.toNat b.toNat 1) (h ++ [.cells (b.toNat * sz) [.agg (List.replicate b.toNat zero.cells).flatten]])) : MK P G n g sz bytes zero (.p (.int k a)) (.p (.int k' b)) dst l t h st Q :=
  ⟨⟨h0, h1, h2, .inr ⟨hg, hk⟩⟩⟩
@[simp] theorem LL_callv {x : Opd} {args : List Opd} : LL P G n (⟨dst, .callv true x args, none⟩ :: l) t h st Q = CV P G n (x.ev G t) (args.map (Opd.ev G t)) dst l t h st Q := by
  have h1 : LL P G n (⟨dst, .callv true x args, none⟩ :: l) t h st Q = vcO P G (.callv true x args) (Opd.ev G t) h (KK P G n dst l t st Q) := LL_step
  rw [h1]
  refine propext ⟨fun h => ⟨?_⟩, fun h => ?_⟩
  · simp only [vcO] at h
    split at h
    · rename_i f first cap hv
      rw [hv]
      obtain ⟨h1, R, h2, h3⟩ := h
      exact ⟨h1, R, h2, fun v h' hr => (h3 v h' hr).out⟩
    · exact h.elim
  · have := h.out
    simp only [vcO]
    split at this
    · rename_i f first cap hv
      rw [hv]
      obtain ⟨h1, R, h2, h3⟩ := this
      exact ⟨h1, R, h2, fun v h' hr => ⟨h3 v h' hr⟩⟩
    · exact this.elim
theorem CV_by {f : FuncId} {first cap args : List DV} (hf : cFunc P f = true) (hk : FF P G n f (first ++ args ++ cap) dst l t h st Q) : CV P G n (.fn (.func f) first cap) args dst l t h st Q := ⟨⟨hf, hk.out⟩⟩
@[simp] theorem LL_inv {name : String} {x : Opd} {args : List Opd} : LL P G n (⟨dst, .inv true name x args, none⟩ :: l) t h st Q = IV P G n name (x.ev G t) (args.map (Opd.ev G t)) dst l t h st Q := by
  have h1 : LL P G n (⟨dst, .inv true name x args, none⟩ :: l) t h st Q = vcO P G (.inv true name x args) (Opd.ev G t) h (KK P G n dst l t st Q) := LL_step
  rw [h1]
  refine propext ⟨fun h => ⟨?_⟩, fun h => ?_⟩
  · simp only [vcO] at h
    split at h
    · rename_i ty d hv
      rw [hv]
      split at h
      · rename_i f hm
        obtain ⟨h1, R, h2, h3⟩ := h
        simp only
        rw [hm]
        exact ⟨h1, R, h2, fun v h' hr => (h3 v h' hr).out⟩
      · exact h.elim
    · exact h.elim
  · have := h.out
    simp only [vcO]
    split at this
    · rename_i ty d hv
      rw [hv]
      split at this
      · rename_i f hm
        obtain ⟨h1, R, h2, h3⟩ := this
        simp only
        rw [hm]
        exact ⟨h1, R, h2, fun v h' hr => ⟨h3 v h' hr⟩⟩
      · exact this.elim
    · exact this.elim
theorem IV_by {name : String} {ty : TypeId} {f : FuncId} {d : DV} {args : List DV} (hm : methOf P ty name = some f) (hf : cFunc P f = true) (hk : FF P G n f (d :: args) dst l t h st Q) : IV P G n name (.iface ty d) args dst l t h st Q := ⟨by simp only; rw [hm]; exact ⟨hf, hk.out⟩⟩
@[simp] theorem LL_ext {ux ui} : LL P G n (⟨dst, .ext ux ui, none⟩ :: l) t h st Q = vcO P G (.ext ux ui) (Opd.ev G t) h (KK P G n dst l t st Q) := by
  simp only [KON_e, VV_e, LL_e, KK_e, CC_e, GG_e, PP_e, FF_e, RR_e, RE_e]
  exact LL0_ext
@[simp] theorem LL_ifc {ut ux} : LL P G n (⟨dst, .ifc ut ux, none⟩ :: l) t h st Q = vcO P G (.ifc ut ux) (Opd.ev G t) h (KK P G n dst l t st Q) := by
  simp only [KON_e, VV_e, LL_e, KK_e, CC_e, GG_e, PP_e, FF_e, RR_e, RE_e]
  exact LL0_ifc
@[simp] theorem LL_mov {ux} : LL P G n (⟨dst, .mov ux, none⟩ :: l) t h st Q = vcO P G (.mov ux) (Opd.ev G t) h (KK P G n dst l t st Q) := by
  simp only [KON_e, VV_e, LL_e, KK_e, CC_e, GG_e, PP_e, FF_e, RR_e, RE_e]
  exact LL0_mov
@[simp] theorem LL_mkmapr {ux} : LL P G n (⟨dst, .mkmapr ux, none⟩ :: l) t h st Q = vcO P G (.mkmapr ux) (Opd.ev G t) h (KK P G n dst l t st Q) := by
  simp only [KON_e, VV_e, LL_e, KK_e, CC_e, GG_e, PP_e, FF_e, RR_e, RE_e]
  exact LL0_mkmapr
@[simp] theorem LL_mkmap : LL P G n (⟨dst, .mkmap, none⟩ :: l) t h st Q = vcO P G .mkmap (Opd.ev G t) h (KK P G n dst l t st Q) := by
  simp only [KON_e, VV_e, LL_e, KK_e, CC_e, GG_e, PP_e, FF_e, RR_e, RE_e]
  exact LL0_mkmap
@[simp] theorem LL_rngs {ux} : LL P G n (⟨dst, .rngs ux, none⟩ :: l) t h st Q = vcO P G (.rngs ux) (Opd.ev G t) h (KK P G n dst l t st Q) := by
  simp only [KON_e, VV_e, LL_e, KK_e, CC_e, GG_e, PP_e, FF_e, RR_e, RE_e]
  exact LL0_rngs
@[simp] theorem LL_nxts {ua} : LL P G n (⟨dst, .nxts ua, none⟩ :: l) t h st Q = vcO P G (.nxts ua) (Opd.ev G t) h (KK P G n dst l t st Q) := by
  simp only [KON_e, VV_e, LL_e, KK_e, CC_e, GG_e, PP_e, FF_e, RR_e, RE_e]
  exact LL0_nxts
@[simp] theorem LL_rngm {ux} : LL P G n (⟨dst, .rngm ux, none⟩ :: l) t h st Q = vcO P G (.rngm ux) (Opd.ev G t) h (KK P G n dst l t st Q) := by
  simp only [KON_e, VV_e, LL_e, KK_e, CC_e, GG_e, PP_e, FF_e, RR_e, RE_e]
  exact LL0_rngm
@[simp] theorem LL_nxtm {ua} : LL P G n (⟨dst, .nxtm ua, none⟩ :: l) t h st Q = vcO P G (.nxtm ua) (Opd.ev G t) h (KK P G n dst l t st Q) := by
  simp only [KON_e, VV_e, LL_e, KK_e, CC_e, GG_e, PP_e, FF_e, RR_e, RE_e]
  exact LL0_nxtm
@[simp] theorem LL_ent {ua} : LL P G n (⟨dst, .ent ua, none⟩ :: l) t h st Q = vcO P G (.ent ua) (Opd.ev G t) h (KK P G n dst l t st Q) := by
  simp only [KON_e, VV_e, LL_e, KK_e, CC_e, GG_e, PP_e, FF_e, RR_e, RE_e]
  exact LL0_ent
@[simp] theorem LL_mupd {uck um uk ux} : LL P G n (⟨dst, .mupd uck um uk ux, none⟩ :: l) t h st Q = vcO P G (.mupd uck um uk ux) (Opd.ev G t) h (KK P G n dst l t st Q) := by
  simp only [KON_e, VV_e, LL_e, KK_e, CC_e, GG_e, PP_e, FF_e, RR_e, RE_e]
  exact LL0_mupd
@[simp] theorem LL_look {uck uzero uok um uk} : LL P G n (⟨dst, .look uck uzero uok um uk, none⟩ :: l) t h st Q = vcO P G (.look uck uzero uok um uk) (Opd.ev G t) h (KK P G n dst l t st Q) := by
  simp only [KON_e, VV_e, LL_e, KK_e, CC_e, GG_e, PP_e, FF_e, RR_e, RE_e]
  exact LL0_look
@[simp] theorem LL_mdel {uck um uk} : LL P G n (⟨dst, .mdel uck um uk, none⟩ :: l) t h st Q = vcO P G (.mdel uck um uk) (Opd.ev G t) h (KK P G n dst l t st Q) := by
  simp only [KON_e, VV_e, LL_e, KK_e, CC_e, GG_e, PP_e, FF_e, RR_e, RE_e]
  exact LL0_mdel
@[simp] theorem LL_clr {uz ux} : LL P G n (⟨dst, .clr uz ux, none⟩ :: l) t h st Q = vcO P G (.clr uz ux) (Opd.ev G t) h (KK P G n dst l t st Q) := by
  simp only [KON_e, VV_e, LL_e, KK_e, CC_e, GG_e, PP_e, FF_e, RR_e, RE_e]
  exact LL0_clr
theorem CC_by {x : Bool} {a b : DC} (h1 : x = true → VV P G n a s st Q) (h2 : x = false → VV P G n b s st Q) : CC P G n (.p (.bool x)) a b s st Q := by
  cases x
  · rw [CC_false]; exact h2 rfl
  · rw [CC_true]; exact h1 rfl
theorem GG_by {x : Bool} {op : DO} {want : Bool} (h1 : x = true → GG P G n (.p (.bool true)) want dst op l t h st Q) (h2 : x = false → GG P G n (.p (.bool false)) want dst op l t h st Q) : GG P G n (.p (.bool x)) want dst op l t h st Q := by
  cases x
  · exact h2 rfl
  · exact h1 rfl
theorem PP_by {x : Bool} {a b : DV} (h1 : x = true → KK P G n dst l t st Q a h) (h2 : x = false → KK P G n dst l t st Q b h) : PP P G n (.p (.bool x)) a b dst l t h st Q := by
  cases x
  · rw [PP_false]; exact h2 rfl
  · rw [PP_true]; exact h1 rfl
theorem FF_by {f : FuncId} {args : List DV} {v : DV} {h' : List Blk} (hf : Ok P G f args h v h') (hk : KK P G n dst l t st Q v h') : FF P G n f args dst l t h st Q := ⟨_, hf.toR, by rintro v1 h1 ⟨rfl, rfl⟩; exact hk.out⟩
theorem FF_byR {f : FuncId} {args : List DV} {R : DV → List Blk → Prop} (hf : OkR P G f args h R) (hk : ∀ v h', R v h' → KK P G n dst l t st Q v h') : FF P G n f args dst l t h st Q := ⟨_, hf, fun v h' hr => (hk v h' hr).out⟩
@[simp] theorem RR_nrm {h : List Blk} {rs : List DR} {v : DV} {h' : List Blk} {t : List DV} {h1 : List Blk} : RR h rs v h' .nrm ⟨t, h1⟩ = RE h (resD h1 t rs) h1 v h' := by
  rw [RR_e, RE_e]; exact RR0_nrm
@[simp] theorem RR_ret {h : List Blk} {rs : List DR} {v : DV} {h' : List Blk} {t : List DV} {h1 : List Blk} : RR h rs v h' .ret ⟨t, h1⟩ = RE h (resD h1 t rs) h1 v h' := by
  rw [RR_e, RE_e]; exact RR0_ret
@[simp] theorem RE_some {h : List Blk} {l : List DV} {h1 : List Blk} {v : DV} {h' : List Blk} : RE h (some l) h1 v h' = WkV h (mkRes l) h1 v h' := by
  rw [RE_e]; exact RE0_some
@[simp] theorem WkV_same {h : List Blk} {v : DV} : WkV h v h v h = True := eq_true WkV.refl
end

/-- A LOOP: what holds at its head; each exit goes on with what is still to be done, from a state that may say less. -/
theorem VV_loopW {P : Program} {G : Nat → DV} {n : List Blk} {Q : DX → St → Prop} {s : St} {st : List Fr} {a : DC} (I : St → Prop) (μ : St → Nat) (h0 : ∃ s', Wk G n s s' ∧ I s')
    (h1 : ∀ s, I s → ∀ B : DX → St → Prop, (∀ s1, (∃ s2, Wk G n s1 s2 ∧ I s2 ∧ μ s2 < μ s) → B .nrm s1) → (∀ i s1 s2, Wk G n s1 s2 → KON P G n st Q (.ext i) s2 → B (.ext i) s1) → (∀ s1, KON P G n st Q .ret s1 → B .ret s1) → VV P G n a s [] B) :
    VV P G n (.loop a) s st Q :=
  ⟨VV0_loop I μ h0 fun s hs B h1' h2' h3' => (h1 s hs B h1' (fun i s1 s2 hw h => h2' i s1 ⟨s2, hw, h.out⟩) (fun s1 h => h3' s1 h.out)).out⟩
/-- A LOOP: what holds at its head; each exit goes on with what is still to be done. -/
theorem VV_loop {P : Program} {G : Nat → DV} {n : List Blk} {Q : DX → St → Prop} {s : St} {st : List Fr} {a : DC} (I : St → Prop) (μ : St → Nat) (h0 : ∃ s', Wk G n s s' ∧ I s')
    (h1 : ∀ s, I s → ∀ B : DX → St → Prop, (∀ s1, (∃ s2, Wk G n s1 s2 ∧ I s2 ∧ μ s2 < μ s) → B .nrm s1) → (∀ i s1, KON P G n st Q (.ext i) s1 → B (.ext i) s1) → (∀ s1, KON P G n st Q .ret s1 → B .ret s1) → VV P G n a s [] B) :
    VV P G n (.loop a) s st Q :=
  VV_loopW I μ h0 fun s hs B h1' h2' h3' => h1 s hs B h1' (fun i s1 h => h2' i s1 s1 Wk.refl h) h3'


/-! Regions that are drawn. -/
def gH : List (List Blk) → Nat → List Blk
  | [], _ => []
  | d :: _, 0 => d
  | _ :: l, n + 1 => gH l n
theorem gH_eq : ∀ (l : List (List Blk)) (n : Nat), l.getD n [] = gH l n
  | [], _ => by simp [gH]
  | d :: _, 0 => rfl
  | _ :: l, n + 1 => by simpa [gH] using gH_eq l n
@[simp] theorem gH_0 {d : List Blk} {l : List (List Blk)} : gH (d :: l) 0 = d := nd rfl
@[simp] theorem gH_1 {d : List Blk} {l : List (List Blk)} {n : Nat} : gH (d :: l) (n + 1) = gH l n := nd rfl
@[simp] theorem HPre_same {h : List Blk} : HPre h h = True := eq_true (HPre.refl h)
@[simp] theorem HV_same {h : List Blk} : HV h h = True := eq_true (HV.refl h)
@[simp] theorem HV_app {h x : List Blk} : HV h (h ++ x) = True := eq_true (HPre.append h x).toV
@[simp] theorem HV_pre {h h' : List Blk} (hp : HPre h h') : HV h h' = True := eq_true hp.toV
@[simp] theorem HPre_app {h x : List Blk} : HPre h (h ++ x) = True := eq_true (HPre.append h x)

def sP (t : List DV) (dst : Option Nat) (v : DV) : List DV :=
  match dst with
  | some d => sS t d v
  | none => t
@[simp] theorem sP_none {t : List DV} {v : DV} : sP t none v = t := nd rfl
@[simp] theorem sP_some {t : List DV} {d : Nat} {v : DV} : sP t (some d) v = sS t d v := nd rfl
theorem putL_eq (t : List DV) (dst : Option Nat) (v : DV) : putL t dst v = sP t dst v := by
  cases dst with
  | none => rfl
  | some d => exact sS_eq t d v

structure DD (P : Program) (G : Nat → DV) (n : List Blk) (ops : List DDOp) (t : List DV) (Hs : List (List Blk)) (h : List Blk) (st : List Fr) (Q : DX → St → Prop) : Prop where
  out : vcD P G ops t Hs h fun t h => KON P G n st Q .nrm ⟨t, h⟩
/-- A light one's value is there. -/
structure DK (P : Program) (G : Nat → DV) (n : List Blk) (dst : Option Nat) (l : List DDOp) (t : List DV) (Hs : List (List Blk)) (h : List Blk) (st : List Fr) (Q : DX → St → Prop) (v : DV) (h1 : List Blk) : Prop where
  out : DD P G n l (sP t dst v) Hs h st Q
/-- A heavy one's value is there. -/
structure DH (P : Program) (G : Nat → DV) (n : List Blk) (dst : Option Nat) (fr : List Nat) (l : List DDOp) (t : List DV) (Hs : List (List Blk)) (h : List Blk) (st : List Fr) (Q : DX → St → Prop) (v : DV) (h1 : List Blk) : Prop where
  out : (∀ m, m ∈ fr → HV (Hs.getD m []) h1) ∧ DD P G n l (sP t dst v) (Hs ++ [h1]) h1 st Q
/-- A guard. -/
structure DG (P : Program) (G : Nat → DV) (n : List Blk) (d : DV) (want : Bool) (dst : Option Nat) (op : DO) (a : Nat) (fr : List Nat) (l : List DDOp) (t : List DV) (Hs : List (List Blk)) (h : List Blk) (st : List Fr) (Q : DX → St → Prop) : Prop where
  out : match d with | .p (.bool b) => if b = want then DD P G n (⟨⟨dst, op, none⟩, a, fr⟩ :: l) t Hs h st Q else DD P G n l (sP t dst (.tup [])) (if op.heavy = true then Hs ++ [h] else Hs) h st Q | .tup [] => DD P G n l (sP t dst (.tup [])) (if op.heavy = true then Hs ++ [h] else Hs) h st Q | _ => False
/-- One of two. -/
structure DP (P : Program) (G : Nat → DV) (n : List Blk) (d a b : DV) (dst : Option Nat) (l : List DDOp) (t : List DV) (Hs : List (List Blk)) (h : List Blk) (st : List Fr) (Q : DX → St → Prop) : Prop where
  out : match d with | .p (.bool c) => if c = true then DD P G n l (sP t dst a) Hs h st Q else DD P G n l (sP t dst b) Hs h st Q | _ => False
/-- An append, its slices there. -/
structure DA (P : Program) (G : Nat → DV) (n : List Blk) (sz bytes : Nat) (dx dy : DV) (dst : Option Nat) (fr : List Nat) (l : List DDOp) (t : List DV) (Hs : List (List Blk)) (h : List Blk) (st : List Fr) (Q : DX → St → Prop) : Prop where
  out : vcO P G (.app sz bytes (.c dx) (.c dy)) (Opd.ev G []) h (DH P G n dst fr l t Hs h st Q)
/-- A call. -/
structure DF (P : Program) (G : Nat → DV) (n : List Blk) (f : FuncId) (args : List DV) (dst : Option Nat) (fr : List Nat) (l : List DDOp) (t : List DV) (Hs : List (List Blk)) (h : List Blk) (st : List Fr) (Q : DX → St → Prop) : Prop where
  out : ∃ v h', Ok P G f args h v h' ∧ DH P G n dst fr l t Hs h st Q v h'
/-- A new slice. -/
structure DM (P : Program) (G : Nat → DV) (n : List Blk) (g : Bool) (sz bytes : Nat) (zero dx dy : DV) (dst : Option Nat) (fr : List Nat) (l : List DDOp) (t : List DV) (Hs : List (List Blk)) (h : List Blk) (st : List Fr) (Q : DX → St → Prop) : Prop where
  out : vcO P G (.mks g sz bytes zero (.c dx) (.c dy)) (Opd.ev G []) h (DH P G n dst fr l t Hs h st Q)
/-- A call of a function's value, of a method. -/
structure DCV (P : Program) (G : Nat → DV) (n : List Blk) (x : DV) (args : List DV) (dst : Option Nat) (fr : List Nat) (l : List DDOp) (t : List DV) (Hs : List (List Blk)) (h : List Blk) (st : List Fr) (Q : DX → St → Prop) : Prop where
  out : match x with | .fn (.func f) first cap => cFunc P f = true ∧ DF P G n f (first ++ args ++ cap) dst fr l t Hs h st Q | _ => False
structure DIV (P : Program) (G : Nat → DV) (n : List Blk) (name : String) (x : DV) (args : List DV) (dst : Option Nat) (fr : List Nat) (l : List DDOp) (t : List DV) (Hs : List (List Blk)) (h : List Blk) (st : List Fr) (Q : DX → St → Prop) : Prop where
  out : match x with | .iface ty d => (match methOf P ty name with | some f => cFunc P f = true ∧ DF P G n f (d :: args) dst fr l t Hs h st Q | none => False) | _ => False

section
variable {P : Program} {G : Nat → DV} {n : List Blk} {Q : DX → St → Prop} {s s' : St} {st : List Fr} {l : List DDOp} {t : List DV} {h h1 : List Blk} {Hs : List (List Blk)} {dst : Option Nat} {v : DV} {a : Nat} {fr : List Nat}
theorem eqO {A B : Prop} (h : A → B) (h' : B → A) : A = B := propext ⟨h, h'⟩
@[simp] theorem VV_rgd {ops : List DDOp} : VV P G n (.rgd ops) ⟨t, h⟩ st Q = DD P G n ops t [h] h st Q := by
  refine eqO (fun x => ⟨?_⟩) (fun x => ⟨?_⟩)
  · have := x.out
    rw [VV0, vc_rgd] at this
    exact vcD_mono (fun t h hk => ⟨hk⟩) _ _ _ _ this
  · rw [VV0, vc_rgd]
    exact vcD_mono (fun t h hk => hk.out) _ _ _ _ x.out
/-- A region before which a part of the memory is hidden: what its lighter operations look at stands in hv. -/
theorem VV_rgv {ops : List DDOp} (hv : List Blk) (hw : HV hv h) (H : DD P G n ops t [hv] h st Q) : VV P G n (.rgv ops) ⟨t, h⟩ st Q := by
  refine ⟨?_⟩
  rw [VV0, vc_rgv]
  exact ⟨hv, hw, vcD_mono (fun t h hk => hk.out) _ _ _ _ H.out⟩
@[simp] theorem DD_nil : DD P G n [] t Hs h st Q = KON P G n st Q .nrm ⟨t, h⟩ := eqO (fun x => by have := x.out; rwa [vcD] at this) (fun x => ⟨by rwa [vcD]⟩)
@[simp] theorem DK_on : DK P G n dst l t Hs h st Q v h1 = DD P G n l (sP t dst v) Hs h st Q := eqO (fun x => x.out) (fun x => ⟨x⟩)
@[simp] theorem DH_nil : DH P G n dst [] l t Hs h st Q v h1 = DD P G n l (sP t dst v) (Hs ++ [h1]) h1 st Q := eqO (fun x => x.out.2) (fun x => ⟨by simp, x⟩)
@[simp] theorem DH_cons {m : Nat} : DH P G n dst (m :: fr) l t Hs h st Q v h1 = (HV (gH Hs m) h1 ∧ DH P G n dst fr l t Hs h st Q v h1) :=
  eqO (fun x => ⟨by rw [← gH_eq]; exact x.out.1 m (by simp), ⟨fun k hk => x.out.1 k (by simp [hk]), x.out.2⟩⟩) (fun x => ⟨fun k hk => by
    rcases List.mem_cons.1 hk with rfl | hk
    · rw [gH_eq]; exact x.1
    · exact x.2.out.1 k hk, x.2.out.2⟩)
theorem DH_iff : DH P G n dst fr l t Hs h st Q v h1 = ((∀ m, m ∈ fr → HV (Hs.getD m []) h1) ∧ DD P G n l (sP t dst v) (Hs ++ [h1]) h1 st Q) := eqO (fun x => x.out) (fun x => ⟨x⟩)
theorem vcO_iff {o : DO} {ev : Opd → DV} {K K' : DV → List Blk → Prop} (hK : ∀ v h, K v h ↔ K' v h) : vcO P G o ev h K = vcO P G o ev h K' := eqO (vcO_mono fun v h => (hK v h).1) (vcO_mono fun v h => (hK v h).2)
theorem DD_out {ops : List DDOp} : DD P G n ops t Hs h st Q = vcD P G ops t Hs h fun t h => KON P G n st Q .nrm ⟨t, h⟩ := eqO (fun x => x.out) (fun x => ⟨x⟩)
theorem DD_light {op : DO} (hh : op.heavy = false) : DD P G n (⟨⟨dst, op, none⟩, a, fr⟩ :: l) t Hs h st Q = vcO P G op (Opd.ev G t) (gH Hs a) (DK P G n dst l t Hs h st Q) := by
  rw [DD_out, vcD]
  simp only [stepD, hh, if_neg (show ¬ false = true by decide), gH_eq]
  exact vcO_iff fun v h1 => by rw [DK_on, DD_out, putL_eq]
theorem DD_heavy {op : DO} (hh : op.heavy = true) : DD P G n (⟨⟨dst, op, none⟩, a, fr⟩ :: l) t Hs h st Q = vcO P G op (Opd.ev G t) h (DH P G n dst fr l t Hs h st Q) := by
  rw [DD_out, vcD]
  simp only [stepD, hh, if_pos]
  exact vcO_iff fun v h1 => by
    rw [DH_iff, DD_out, putL_eq]
@[simp] theorem DD_guard {g : Nat} {want : Bool} {op : DO} : DD P G n (⟨⟨dst, op, some (g, want)⟩, a, fr⟩ :: l) t Hs h st Q = DG P G n (gS t g) want dst op a fr l t Hs h st Q := by
  rw [DD_out, vcD]
  simp only [gS_eq]
  refine eqO (fun x => ⟨?_⟩) (fun x => ?_)
  · split at x
    · rename_i b hb
      rw [hb]
      simp only
      by_cases hc : b = want
      · rw [if_pos hc] at x ⊢
        rw [DD_out, vcD]
        exact x
      · rw [if_neg hc] at x ⊢
        rw [DD_out, ← putL_eq]
        exact x
    · rename_i hb
      rw [hb]
      simp only
      rw [DD_out, ← putL_eq]
      exact x
    · exact x.elim
  · have y := x.out
    split at y
    · rename_i b hb
      rw [hb]
      simp only
      by_cases hc : b = want
      · rw [if_pos hc] at y ⊢
        rw [DD_out, vcD] at y
        exact y
      · rw [if_neg hc] at y ⊢
        rw [DD_out, ← putL_eq] at y
        exact y
    · rename_i hb
      rw [hb]
      simp only
      rw [DD_out, ← putL_eq] at y
      exact y
    · exact y.elim
@[simp] theorem DG_pos {op : DO} {want : Bool} : DG P G n (.p (.bool want)) want dst op a fr l t Hs h st Q = DD P G n (⟨⟨dst, op, none⟩, a, fr⟩ :: l) t Hs h st Q := eqO (fun x => by simpa only [if_pos] using x.out) (fun x => ⟨by simpa only [if_pos] using x⟩)
@[simp] theorem DG_un {op : DO} {want : Bool} : DG P G n (.tup []) want dst op a fr l t Hs h st Q = DD P G n l (sP t dst (.tup [])) (if op.heavy = true then Hs ++ [h] else Hs) h st Q := eqO (fun x => x.out) (fun x => ⟨x⟩)
@[simp] theorem DG_tf {op : DO} : DG P G n (.p (.bool true)) false dst op a fr l t Hs h st Q = DD P G n l (sP t dst (.tup [])) (if op.heavy = true then Hs ++ [h] else Hs) h st Q := eqO (fun x => x.out) (fun x => ⟨x⟩)
@[simp] theorem DG_ft {op : DO} : DG P G n (.p (.bool false)) true dst op a fr l t Hs h st Q = DD P G n l (sP t dst (.tup [])) (if op.heavy = true then Hs ++ [h] else Hs) h st Q := eqO (fun x => x.out) (fun x => ⟨x⟩)
@[simp] theorem DD_pick {c x y : Opd} : DD P G n (⟨⟨dst, .pick c x y, none⟩, a, fr⟩ :: l) t Hs h st Q = DP P G n (c.ev G t) (x.ev G t) (y.ev G t) dst l t Hs h st Q := by
  rw [DD_light rfl]
  refine eqO (fun z => ⟨?_⟩) (fun z => ?_)
  · simp only [vcO, DK_on] at z
    exact z
  · simp only [vcO, DK_on]
    exact z.out
@[simp] theorem DP_true {x y : DV} : DP P G n (.p (.bool true)) x y dst l t Hs h st Q = DD P G n l (sP t dst x) Hs h st Q := eqO (fun x => x.out) (fun x => ⟨x⟩)
@[simp] theorem DP_false {x y : DV} : DP P G n (.p (.bool false)) x y dst l t Hs h st Q = DD P G n l (sP t dst y) Hs h st Q := eqO (fun x => x.out) (fun x => ⟨x⟩)
@[simp] theorem DD_call {f : FuncId} {args : List Opd} : DD P G n (⟨⟨dst, .call f args, none⟩, a, fr⟩ :: l) t Hs h st Q = DF P G n f (args.map (Opd.ev G t)) dst fr l t Hs h st Q := by
  rw [DD_heavy rfl]
  exact eqO (fun x => ⟨x⟩) (fun x => x.out)
/-- A call that leaves the memory as it is; h0: what stands there for certain. -/
structure DPC (P : Program) (G : Nat → DV) (n : List Blk) (f : FuncId) (args : List DV) (h0 : List Blk) (dst : Option Nat) (l : List DDOp) (t : List DV) (Hs : List (List Blk)) (h : List Blk) (st : List Fr) (Q : DX → St → Prop) : Prop where
  out : ∃ v, (∀ h', HV h0 h' → Ok P G f args h' v h') ∧ ∀ h1, DK P G n dst l t Hs h st Q v h1
@[simp] theorem DD_pcall {f : FuncId} {args : List Opd} : DD P G n (⟨⟨dst, .pcall f args, none⟩, a, fr⟩ :: l) t Hs h st Q = DPC P G n f (args.map (Opd.ev G t)) (gH Hs a) dst l t Hs h st Q := by
  rw [DD_light rfl]
  refine propext ⟨fun ⟨v, h1, h2⟩ => ⟨v, h1, fun _ => ⟨h2.out⟩⟩, fun ⟨v, h1, h2⟩ => ⟨v, h1, h2 _⟩⟩
theorem DPC_by {f : FuncId} {args : List DV} {h0 : List Blk} {v : DV} (hf : ∀ h', HV h0 h' → Ok P G f args h' v h') (hk : ∀ h1, DK P G n dst l t Hs h st Q v h1) : DPC P G n f args h0 dst l t Hs h st Q := ⟨⟨v, hf, hk⟩⟩
theorem DF_by {f : FuncId} {args : List DV} {v : DV} {h' : List Blk} (hf : Ok P G f args h v h') (hk : DH P G n dst fr l t Hs h st Q v h') : DF P G n f args dst fr l t Hs h st Q := ⟨v, h', hf, hk⟩
@[simp] theorem DD_stop : DD P G n (⟨⟨dst, .stop, none⟩, a, fr⟩ :: l) t Hs h st Q = False := DD_heavy rfl
@[simp] theorem DD_bin {uop ux uy} : DD P G n (⟨⟨dst, .bin uop ux uy, none⟩, a, fr⟩ :: l) t Hs h st Q = vcO P G (.bin uop ux uy) (Opd.ev G t) (gH Hs a) (DK P G n dst l t Hs h st Q) := nd (DD_light rfl)
@[simp] theorem DD_eqb {uneg ux uy} : DD P G n (⟨⟨dst, .eqb uneg ux uy, none⟩, a, fr⟩ :: l) t Hs h st Q = vcO P G (.eqb uneg ux uy) (Opd.ev G t) (gH Hs a) (DK P G n dst l t Hs h st Q) := nd (DD_light rfl)
@[simp] theorem DD_eqn {uneg uk ux} : DD P G n (⟨⟨dst, .eqn uneg uk ux, none⟩, a, fr⟩ :: l) t Hs h st Q = vcO P G (.eqn uneg uk ux) (Opd.ev G t) (gH Hs a) (DK P G n dst l t Hs h st Q) := nd (DD_light rfl)
@[simp] theorem DD_eqp {uneg ux uy} : DD P G n (⟨⟨dst, .eqp uneg ux uy, none⟩, a, fr⟩ :: l) t Hs h st Q = vcO P G (.eqp uneg ux uy) (Opd.ev G t) (gH Hs a) (DK P G n dst l t Hs h st Q) := nd (DD_light rfl)
@[simp] theorem DD_eqi {uneg ux uy} : DD P G n (⟨⟨dst, .eqi uneg ux uy, none⟩, a, fr⟩ :: l) t Hs h st Q = vcO P G (.eqi uneg ux uy) (Opd.ev G t) (gH Hs a) (DK P G n dst l t Hs h st Q) := nd (DD_light rfl)
@[simp] theorem DD_eqs {uneg uks ux uy} : DD P G n (⟨⟨dst, .eqs uneg uks ux uy, none⟩, a, fr⟩ :: l) t Hs h st Q = vcO P G (.eqs uneg uks ux uy) (Opd.ev G t) (gH Hs a) (DK P G n dst l t Hs h st Q) := nd (DD_light rfl)
@[simp] theorem DD_un {uop ux} : DD P G n (⟨⟨dst, .un uop ux, none⟩, a, fr⟩ :: l) t Hs h st Q = vcO P G (.un uop ux) (Opd.ev G t) (gH Hs a) (DK P G n dst l t Hs h st Q) := nd (DD_light rfl)
@[simp] theorem DD_cint {uk ux} : DD P G n (⟨⟨dst, .cint uk ux, none⟩, a, fr⟩ :: l) t Hs h st Q = vcO P G (.cint uk ux) (Opd.ev G t) (gH Hs a) (DK P G n dst l t Hs h st Q) := nd (DD_light rfl)
@[simp] theorem DD_cstr {ux} : DD P G n (⟨⟨dst, .cstr ux, none⟩, a, fr⟩ :: l) t Hs h st Q = vcO P G (.cstr ux) (Opd.ev G t) (gH Hs a) (DK P G n dst l t Hs h st Q) := nd (DD_light rfl)
@[simp] theorem DD_b2s {ux} : DD P G n (⟨⟨dst, .b2s ux, none⟩, a, fr⟩ :: l) t Hs h st Q = vcO P G (.b2s ux) (Opd.ev G t) (gH Hs a) (DK P G n dst l t Hs h st Q) := nd (DD_light rfl)
@[simp] theorem DD_lens {ux} : DD P G n (⟨⟨dst, .lens ux, none⟩, a, fr⟩ :: l) t Hs h st Q = vcO P G (.lens ux) (Opd.ev G t) (gH Hs a) (DK P G n dst l t Hs h st Q) := nd (DD_light rfl)
@[simp] theorem DD_lenl {ux} : DD P G n (⟨⟨dst, .lenl ux, none⟩, a, fr⟩ :: l) t Hs h st Q = vcO P G (.lenl ux) (Opd.ev G t) (gH Hs a) (DK P G n dst l t Hs h st Q) := nd (DD_light rfl)
@[simp] theorem DD_lenm {ux} : DD P G n (⟨⟨dst, .lenm ux, none⟩, a, fr⟩ :: l) t Hs h st Q = vcO P G (.lenm ux) (Opd.ev G t) (gH Hs a) (DK P G n dst l t Hs h st Q) := nd (DD_light rfl)
@[simp] theorem DD_mm {umx ux uy} : DD P G n (⟨⟨dst, .mm umx ux uy, none⟩, a, fr⟩ :: l) t Hs h st Q = vcO P G (.mm umx ux uy) (Opd.ev G t) (gH Hs a) (DK P G n dst l t Hs h st Q) := nd (DD_light rfl)
@[simp] theorem DD_slcs {ux ulo uhi} : DD P G n (⟨⟨dst, .slcs ux ulo uhi, none⟩, a, fr⟩ :: l) t Hs h st Q = vcO P G (.slcs ux ulo uhi) (Opd.ev G t) (gH Hs a) (DK P G n dst l t Hs h st Q) := nd (DD_light rfl)
@[simp] theorem DD_slcl {usz ux ulo uhi} : DD P G n (⟨⟨dst, .slcl usz ux ulo uhi, none⟩, a, fr⟩ :: l) t Hs h st Q = vcO P G (.slcl usz ux ulo uhi) (Opd.ev G t) (gH Hs a) (DK P G n dst l t Hs h st Q) := nd (DD_light rfl)
@[simp] theorem DD_idxs {ux ui} : DD P G n (⟨⟨dst, .idxs ux ui, none⟩, a, fr⟩ :: l) t Hs h st Q = vcO P G (.idxs ux ui) (Opd.ev G t) (gH Hs a) (DK P G n dst l t Hs h st Q) := nd (DD_light rfl)
@[simp] theorem DD_idxa {um usz ug ux ui} : DD P G n (⟨⟨dst, .idxa um usz ug ux ui, none⟩, a, fr⟩ :: l) t Hs h st Q = vcO P G (.idxa um usz ug ux ui) (Opd.ev G t) (gH Hs a) (DK P G n dst l t Hs h st Q) := nd (DD_light rfl)
@[simp] theorem DD_fld {uo usz ug ux} : DD P G n (⟨⟨dst, .fld uo usz ug ux, none⟩, a, fr⟩ :: l) t Hs h st Q = vcO P G (.fld uo usz ug ux) (Opd.ev G t) (gH Hs a) (DK P G n dst l t Hs h st Q) := nd (DD_light rfl)
@[simp] theorem DD_litz {usz uels} : DD P G n (⟨⟨dst, .litz usz uels, none⟩, a, fr⟩ :: l) t Hs h st Q = vcO P G (.litz usz uels) (Opd.ev G t) (gH Hs a) (DK P G n dst l t Hs h st Q) := nd (DD_light rfl)
@[simp] theorem DD_bld {uzero uparts} : DD P G n (⟨⟨dst, .bld uzero uparts, none⟩, a, fr⟩ :: l) t Hs h st Q = vcO P G (.bld uzero uparts) (Opd.ev G t) (gH Hs a) (DK P G n dst l t Hs h st Q) := nd (DD_light rfl)
@[simp] theorem DD_load {ug usz ua} : DD P G n (⟨⟨dst, .load ug usz ua, none⟩, a, fr⟩ :: l) t Hs h st Q = vcO P G (.load ug usz ua) (Opd.ev G t) (gH Hs a) (DK P G n dst l t Hs h st Q) := nd (DD_light rfl)
@[simp] theorem DD_nilchk {uk ux} : DD P G n (⟨⟨dst, .nilchk uk ux, none⟩, a, fr⟩ :: l) t Hs h st Q = vcO P G (.nilchk uk ux) (Opd.ev G t) (gH Hs a) (DK P G n dst l t Hs h st Q) := nd (DD_light rfl)
@[simp] theorem DD_faddr {ug uo usz ua} : DD P G n (⟨⟨dst, .faddr ug uo usz ua, none⟩, a, fr⟩ :: l) t Hs h st Q = vcO P G (.faddr ug uo usz ua) (Opd.ev G t) (gH Hs a) (DK P G n dst l t Hs h st Q) := nd (DD_light rfl)
@[simp] theorem DD_iaddr {usz ux ui} : DD P G n (⟨⟨dst, .iaddr usz ux ui, none⟩, a, fr⟩ :: l) t Hs h st Q = vcO P G (.iaddr usz ux ui) (Opd.ev G t) (gH Hs a) (DK P G n dst l t Hs h st Q) := nd (DD_light rfl)
@[simp] theorem DD_iaddra {um usz ug ux ui} : DD P G n (⟨⟨dst, .iaddra um usz ug ux ui, none⟩, a, fr⟩ :: l) t Hs h st Q = vcO P G (.iaddra um usz ug ux ui) (Opd.ev G t) (gH Hs a) (DK P G n dst l t Hs h st Q) := nd (DD_light rfl)
@[simp] theorem DD_ext {ux ui} : DD P G n (⟨⟨dst, .ext ux ui, none⟩, a, fr⟩ :: l) t Hs h st Q = vcO P G (.ext ux ui) (Opd.ev G t) (gH Hs a) (DK P G n dst l t Hs h st Q) := nd (DD_light rfl)
@[simp] theorem DD_ifc {ut ux} : DD P G n (⟨⟨dst, .ifc ut ux, none⟩, a, fr⟩ :: l) t Hs h st Q = vcO P G (.ifc ut ux) (Opd.ev G t) (gH Hs a) (DK P G n dst l t Hs h st Q) := nd (DD_light rfl)
@[simp] theorem DD_mov {ux} : DD P G n (⟨⟨dst, .mov ux, none⟩, a, fr⟩ :: l) t Hs h st Q = vcO P G (.mov ux) (Opd.ev G t) (gH Hs a) (DK P G n dst l t Hs h st Q) := nd (DD_light rfl)
@[simp] theorem DD_mkmapr {ux} : DD P G n (⟨⟨dst, .mkmapr ux, none⟩, a, fr⟩ :: l) t Hs h st Q = vcO P G (.mkmapr ux) (Opd.ev G t) h (DH P G n dst fr l t Hs h st Q) := nd (DD_heavy rfl)
@[simp] theorem DD_mkmap : DD P G n (⟨⟨dst, .mkmap, none⟩, a, fr⟩ :: l) t Hs h st Q = vcO P G .mkmap (Opd.ev G t) h (DH P G n dst fr l t Hs h st Q) := nd (DD_heavy rfl)
@[simp] theorem DD_rngs {ux} : DD P G n (⟨⟨dst, .rngs ux, none⟩, a, fr⟩ :: l) t Hs h st Q = vcO P G (.rngs ux) (Opd.ev G t) h (DH P G n dst fr l t Hs h st Q) := nd (DD_heavy rfl)
@[simp] theorem DD_nxts {ua} : DD P G n (⟨⟨dst, .nxts ua, none⟩, a, fr⟩ :: l) t Hs h st Q = vcO P G (.nxts ua) (Opd.ev G t) h (DH P G n dst fr l t Hs h st Q) := nd (DD_heavy rfl)
@[simp] theorem DD_rngm {ux} : DD P G n (⟨⟨dst, .rngm ux, none⟩, a, fr⟩ :: l) t Hs h st Q = vcO P G (.rngm ux) (Opd.ev G t) h (DH P G n dst fr l t Hs h st Q) := nd (DD_heavy rfl)
@[simp] theorem DD_nxtm {ua} : DD P G n (⟨⟨dst, .nxtm ua, none⟩, a, fr⟩ :: l) t Hs h st Q = vcO P G (.nxtm ua) (Opd.ev G t) h (DH P G n dst fr l t Hs h st Q) := nd (DD_heavy rfl)
@[simp] theorem DD_ent {ua} : DD P G n (⟨⟨dst, .ent ua, none⟩, a, fr⟩ :: l) t Hs h st Q = vcO P G (.ent ua) (Opd.ev G t) (gH Hs a) (DK P G n dst l t Hs h st Q) := nd (DD_light rfl)
@[simp] theorem DD_mupd {uck um uk ux} : DD P G n (⟨⟨dst, .mupd uck um uk ux, none⟩, a, fr⟩ :: l) t Hs h st Q = vcO P G (.mupd uck um uk ux) (Opd.ev G t) h (DH P G n dst fr l t Hs h st Q) := nd (DD_heavy rfl)
@[simp] theorem DD_look {uck uzero uok um uk} : DD P G n (⟨⟨dst, .look uck uzero uok um uk, none⟩, a, fr⟩ :: l) t Hs h st Q = vcO P G (.look uck uzero uok um uk) (Opd.ev G t) (gH Hs a) (DK P G n dst l t Hs h st Q) := nd (DD_light rfl)
@[simp] theorem DD_mdel {uck um uk} : DD P G n (⟨⟨dst, .mdel uck um uk, none⟩, a, fr⟩ :: l) t Hs h st Q = vcO P G (.mdel uck um uk) (Opd.ev G t) h (DH P G n dst fr l t Hs h st Q) := nd (DD_heavy rfl)
@[simp] theorem DD_clr {uz ux} : DD P G n (⟨⟨dst, .clr uz ux, none⟩, a, fr⟩ :: l) t Hs h st Q = vcO P G (.clr uz ux) (Opd.ev G t) h (DH P G n dst fr l t Hs h st Q) := nd (DD_heavy rfl)
@[simp] theorem DD_capl {ux} : DD P G n (⟨⟨dst, .capl ux, none⟩, a, fr⟩ :: l) t Hs h st Q = vcO P G (.capl ux) (Opd.ev G t) (gH Hs a) (DK P G n dst l t Hs h st Q) := nd (DD_light rfl)
@[simp] theorem DD_tas {ut uz uo ux} : DD P G n (⟨⟨dst, .tas ut uz uo ux, none⟩, a, fr⟩ :: l) t Hs h st Q = vcO P G (.tas ut uz uo ux) (Opd.ev G t) (gH Hs a) (DK P G n dst l t Hs h st Q) := nd (DD_light rfl)
@[simp] theorem DD_tai {ut uo ux} : DD P G n (⟨⟨dst, .tai ut uo ux, none⟩, a, fr⟩ :: l) t Hs h st Q = vcO P G (.tai ut uo ux) (Opd.ev G t) (gH Hs a) (DK P G n dst l t Hs h st Q) := nd (DD_light rfl)
@[simp] theorem DD_mkf {uf ua ub} : DD P G n (⟨⟨dst, .mkf uf ua ub, none⟩, a, fr⟩ :: l) t Hs h st Q = vcO P G (.mkf uf ua ub) (Opd.ev G t) (gH Hs a) (DK P G n dst l t Hs h st Q) := nd (DD_light rfl)
@[simp] theorem DD_slca {um usz ug ux ulo uhi} : DD P G n (⟨⟨dst, .slca um usz ug ux ulo uhi, none⟩, a, fr⟩ :: l) t Hs h st Q = vcO P G (.slca um usz ug ux ulo uhi) (Opd.ev G t) (gH Hs a) (DK P G n dst l t Hs h st Q) := nd (DD_light rfl)
@[simp] theorem DD_cpy {usz ux uy} : DD P G n (⟨⟨dst, .cpy usz ux uy, none⟩, a, fr⟩ :: l) t Hs h st Q = vcO P G (.cpy usz ux uy) (Opd.ev G t) h (DH P G n dst fr l t Hs h st Q) := nd (DD_heavy rfl)
@[simp] theorem DD_mks {g : Bool} {sz bytes : Nat} {zero : DV} {x y : Opd} : DD P G n (⟨⟨dst, .mks g sz bytes zero x y, none⟩, a, fr⟩ :: l) t Hs h st Q = DM P G n g sz bytes zero (x.ev G t) (y.ev G t) dst fr l t Hs h st Q := by
  rw [DD_heavy rfl]
  exact propext ⟨fun h => ⟨h⟩, fun h => h.out⟩
theorem DM_sl {g : Bool} {sz bytes : Nat} {zero : DV} {k k' : IntKind} {x y : Int} (h0 : 0 ≤ x) (h1 : x ≤ y) (h2 : y * bytes ≤ 140737488355328) (hk : DH P G n dst fr l t Hs h st Q (.sl h.length 0 x.toNat x.toNat) (h ++ [.cells sz (List.replicate x.toNat zero)])) : DM P G n g sz bytes zero (.p (.int k x)) (.p (.int k' y)) dst fr l t Hs h st Q :=
  ⟨⟨h0, h1, h2, .inl hk⟩⟩
@[simp] theorem DD_callv {x : Opd} {args : List Opd} : DD P G n (⟨⟨dst, .callv false x args, none⟩, a, fr⟩ :: l) t Hs h st Q = DCV P G n (x.ev G t) (args.map (Opd.ev G t)) dst fr l t Hs h st Q := by
  rw [DD_heavy rfl]
  refine propext ⟨fun h => ⟨?_⟩, fun h => ?_⟩
  · simp only [vcO, Bool.false_eq_true, if_false] at h
    split at h
    · rename_i f first cap hv
      rw [hv]
      exact ⟨h.1, ⟨h.2⟩⟩
    · exact h.elim
  · have := h.out
    simp only [vcO, Bool.false_eq_true, if_false]
    split at this
    · rename_i f first cap hv
      rw [hv]
      exact ⟨this.1, this.2.out⟩
    · exact this.elim
theorem DCV_by {f : FuncId} {first cap args : List DV} (hf : cFunc P f = true) (hk : DF P G n f (first ++ args ++ cap) dst fr l t Hs h st Q) : DCV P G n (.fn (.func f) first cap) args dst fr l t Hs h st Q := ⟨⟨hf, hk⟩⟩
@[simp] theorem DD_inv {name : String} {x : Opd} {args : List Opd} : DD P G n (⟨⟨dst, .inv false name x args, none⟩, a, fr⟩ :: l) t Hs h st Q = DIV P G n name (x.ev G t) (args.map (Opd.ev G t)) dst fr l t Hs h st Q := by
  rw [DD_heavy rfl]
  refine propext ⟨fun h => ⟨?_⟩, fun h => ?_⟩
  · simp only [vcO, Bool.false_eq_true, if_false] at h
    split at h
    · rename_i ty d hv
      rw [hv]
      split at h
      · rename_i f hm
        simp only
        rw [hm]
        exact ⟨h.1, ⟨h.2⟩⟩
      · exact h.elim
    · exact h.elim
  · have := h.out
    simp only [vcO, Bool.false_eq_true, if_false]
    split at this
    · rename_i ty d hv
      rw [hv]
      split at this
      · rename_i f hm
        simp only
        rw [hm]
        exact ⟨this.1, this.2.out⟩
      · exact this.elim
    · exact this.elim
theorem DIV_by {name : String} {ty : TypeId} {f : FuncId} {d : DV} {args : List DV} (hm : methOf P ty name = some f) (hf : cFunc P f = true) (hk : DF P G n f (d :: args) dst fr l t Hs h st Q) : DIV P G n name (.iface ty d) args dst fr l t Hs h st Q := ⟨by simp only; rw [hm]; exact ⟨hf, hk⟩⟩
@[simp] theorem DD_s2b {ux} : DD P G n (⟨⟨dst, .s2b ux, none⟩, a, fr⟩ :: l) t Hs h st Q = vcO P G (.s2b ux) (Opd.ev G t) h (DH P G n dst fr l t Hs h st Q) := nd (DD_heavy rfl)
@[simp] theorem DD_lit {usz uels} : DD P G n (⟨⟨dst, .lit usz uels, none⟩, a, fr⟩ :: l) t Hs h st Q = vcO P G (.lit usz uels) (Opd.ev G t) h (DH P G n dst fr l t Hs h st Q) := nd (DD_heavy rfl)
@[simp] theorem DD_alloc {usz uzero} : DD P G n (⟨⟨dst, .alloc usz uzero, none⟩, a, fr⟩ :: l) t Hs h st Q = vcO P G (.alloc usz uzero) (Opd.ev G t) h (DH P G n dst fr l t Hs h st Q) := nd (DD_heavy rfl)
@[simp] theorem DD_box {ux} : DD P G n (⟨⟨dst, .box ux, none⟩, a, fr⟩ :: l) t Hs h st Q = vcO P G (.box ux) (Opd.ev G t) h (DH P G n dst fr l t Hs h st Q) := nd (DD_heavy rfl)
@[simp] theorem DD_store {usz ua ux} : DD P G n (⟨⟨dst, .store usz ua ux, none⟩, a, fr⟩ :: l) t Hs h st Q = vcO P G (.store usz ua ux) (Opd.ev G t) h (DH P G n dst fr l t Hs h st Q) := nd (DD_heavy rfl)
@[simp] theorem DD_app {sz bytes : Nat} {x y : Opd} : DD P G n (⟨⟨dst, .app sz bytes x y, none⟩, a, fr⟩ :: l) t Hs h st Q = DA P G n sz bytes (x.ev G t) (y.ev G t) dst fr l t Hs h st Q := by
  rw [DD_heavy rfl]
  exact propext ⟨fun h => ⟨h⟩, fun h => h.out⟩
theorem DA_raw {sz bytes : Nat} {dx dy : DV} : DA P G n sz bytes dx dy dst fr l t Hs h st Q = vcO P G (.app sz bytes (.c dx) (.c dy)) (Opd.ev G []) h (DH P G n dst fr l t Hs h st Q) := propext ⟨fun h => h.out, fun h => ⟨h⟩⟩
end
attribute [simp] DO.heavy

theorem least_of {p : Nat → Prop} : ∀ (n : Nat), p n → ∃ m, p m ∧ ∀ k, p k → m ≤ k := by
  intro n
  induction n using Nat.strongRecOn with
  | _ n ih =>
    intro hn
    by_cases h : ∃ m, m < n ∧ p m
    · obtain ⟨m, h1, h2⟩ := h
      exact ih m h1 h2
    · exact ⟨n, hn, fun k hk => Nat.le_of_not_lt fun hlt => h ⟨k, hlt, hk⟩⟩

/-- A loop by a family of states: what it was entered with, and one round; at an exit the state may say less. -/
theorem VV_famW {P : Program} {G : Nat → DV} {n : List Blk} {Q : DX → St → Prop} {s : St} {st : List Fr} {a : DC} {α : Type} (F : α → St) (ok : α → Prop) (m : α → Nat) (a0 : α) (hok : ok a0) (h0 : Wk G n s (F a0))
    (h1 : ∀ x, ok x → ∀ B : DX → St → Prop, (∀ s1 x', Wk G n s1 (F x') → ok x' → m x' < m x → B .nrm s1) → (∀ i s1 s2, Wk G n s1 s2 → KON P G n st Q (.ext i) s2 → B (.ext i) s1) → (∀ s1, KON P G n st Q .ret s1 → B .ret s1) → VV P G n a (F x) [] B) :
    VV P G n (.loop a) s st Q := by
  let p : St → Nat → Prop := fun s k => ∃ x, ok x ∧ F x = s ∧ m x = k
  have key : ∀ s, ∃ k, (∃ k, p s k) → p s k ∧ ∀ j, p s j → k ≤ j := fun s => by
    by_cases h : ∃ k, p s k
    · obtain ⟨k, hk⟩ := h
      obtain ⟨j, hj⟩ := least_of k hk
      exact ⟨j, fun _ => hj⟩
    · exact ⟨0, fun h' => (h h').elim⟩
  let μ : St → Nat := fun s => Classical.choose (key s)
  have hμ : ∀ s, (∃ k, p s k) → p s (μ s) ∧ ∀ j, p s j → μ s ≤ j := fun s => Classical.choose_spec (key s)
  refine VV_loopW (fun s => ∃ x, ok x ∧ F x = s) μ ⟨F a0, h0, a0, hok, rfl⟩ ?_
  rintro s1 ⟨y, hy, rfl⟩ B hb he hr
  obtain ⟨⟨x, hx, hF, hm⟩, _⟩ := hμ (F y) ⟨m y, y, hy, rfl, rfl⟩
  rw [← hF]
  refine h1 x hx B (fun s1 x' hw hx' hlt => hb s1 ⟨F x', hw, ⟨x', hx', rfl⟩, ?_⟩) he hr
  have := (hμ (F x') ⟨m x', x', hx', rfl, rfl⟩).2 (m x') ⟨x', hx', rfl, rfl⟩
  omega
/-- A loop by a family of states: what it was entered with, and one round. -/
theorem VV_fam {P : Program} {G : Nat → DV} {n : List Blk} {Q : DX → St → Prop} {s : St} {st : List Fr} {a : DC} {α : Type} (F : α → St) (ok : α → Prop) (m : α → Nat) (a0 : α) (hok : ok a0) (h0 : Wk G n s (F a0))
    (h1 : ∀ x, ok x → ∀ B : DX → St → Prop, (∀ s1 x', Wk G n s1 (F x') → ok x' → m x' < m x → B .nrm s1) → (∀ i s1, KON P G n st Q (.ext i) s1 → B (.ext i) s1) → (∀ s1, KON P G n st Q .ret s1 → B .ret s1) → VV P G n a (F x) [] B) :
    VV P G n (.loop a) s st Q := VV_famW F ok m a0 hok h0 fun x hx B hb he hr => h1 x hx B hb (fun i s1 h => he i s1 s1 Wk.refl h) hr

/-- The slots that live on are those of the loop's frame; all else is forgotten there. -/
def fits : List DV → List DV → Bool → Prop
  | [], [], _ => True
  | d :: l, d' :: l', b => (d' = .any ∨ d' = d) ∧ fits l l' b
  | _, _, _ => False
theorem fits_length : ∀ (l l' : List DV) (b : Bool), fits l l' b → l'.length = l.length
  | [], [], _, _ => rfl
  | _ :: l, _ :: l', b, h => by simp [fits_length l l' b h.2]
  | [], _ :: _, _, h => h.elim
  | _ :: _, [], _, h => h.elim
theorem fits_get : ∀ (l l' : List DV) (b : Bool), fits l l' b → ∀ i (hi : i < l'.length) (hi' : i < l.length), l'[i] = .any ∨ l'[i] = l[i]
  | [], [], _, _, i, hi, _ => by simp at hi
  | d :: l, d' :: l', b, h, 0, _, _ => by simpa using h.1
  | d :: l, d' :: l', b, h, i + 1, hi, hi' => by
    simp only [List.getElem_cons_succ]
    exact fits_get l l' b h.2 i _ _
  | [], _ :: _, _, h, _, _, _ => h.elim
  | _ :: _, [], _, h, _, _, _ => h.elim

/-- At a loop's head or behind its round: the memory as it is, the slots the frame's. -/
theorem Wk.fits {G : Nat → DV} {h0 h : List Blk} {t t' : List DV} (hf : fits t t' true) : Wk G h0 ⟨t, h⟩ ⟨t', h⟩ := by
  intro h0w D e a w hr hl
  have hlen := fits_length t t' true hf
  refine ⟨e, ⟨hr.h, hr.H, hr.hr, hr.gr, ⟨by rw [hlen]; exact hr.tr.1, fun i hi hi' => ?_⟩, hr.df⟩, Ev.refl' e hl⟩
  have hi2 : i < t.length := by simpa [hlen] using hi
  rcases fits_get t t' true hf i hi hi2 with h | h
  · simp only [h]; exact .any
  · simp only [h]; exact hr.tr.2 i hi2 hi'
attribute [simp] fits

theorem Ok_by {V : List Nat} {P : Program} {G : Nat → DV} {f : FuncId} {fn : Func} {d : DC} {rs : List DR} (hf : P.funcs[f]? = some fn) (hc : fn.body.bind (cCodeV V P) = some d) (hrs : cRes P fn.results.toList = some rs) {args : List DV} {h : List Blk} {v : DV} {h' : List Blk} (n : Nat) (hn : fn.ntmps = args.length + n)
    (H : VV P G h d ⟨args ++ List.replicate n .any, h⟩ [] (RR h rs v h')) : Ok P G f args h v h' :=
  Ok_by0 hf hc hrs n hn (by have := H.out; rw [RR_e] at this; exact this)

/-- The same, where more than one outcome is possible. -/
structure RRr (h : List Blk) (rs : List DR) (R : DV → List Blk → Prop) (x : DX) (s : St) : Prop where
  out : match x with
    | .nrm | .ret => ∃ ds, resD s.h s.t rs = some ds ∧ ∃ v h', WkV h (mkRes ds) s.h v h' ∧ R v h'
    | _ => False
structure REr (h : List Blk) (ds : Option (List DV)) (h1 : List Blk) (R : DV → List Blk → Prop) : Prop where
  out : ∃ l, ds = some l ∧ ∃ v h', WkV h (mkRes l) h1 v h' ∧ R v h'
@[simp] theorem RRr_nrm {h : List Blk} {rs : List DR} {R : DV → List Blk → Prop} {t : List DV} {h1 : List Blk} : RRr h rs R .nrm ⟨t, h1⟩ = REr h (resD h1 t rs) h1 R := propext ⟨fun x => ⟨x.out⟩, fun x => ⟨x.out⟩⟩
@[simp] theorem RRr_ret {h : List Blk} {rs : List DR} {R : DV → List Blk → Prop} {t : List DV} {h1 : List Blk} : RRr h rs R .ret ⟨t, h1⟩ = REr h (resD h1 t rs) h1 R := propext ⟨fun x => ⟨x.out⟩, fun x => ⟨x.out⟩⟩
theorem REr_by {h : List Blk} {l : List DV} {h1 : List Blk} {R : DV → List Blk → Prop} (v : DV) (h' : List Blk) (hw : WkV h (mkRes l) h1 v h') (hR : R v h') : REr h (some l) h1 R := ⟨l, rfl, v, h', hw, hR⟩
theorem OkR_by {V : List Nat} {P : Program} {G : Nat → DV} {f : FuncId} {fn : Func} {d : DC} {rs : List DR} (hf : P.funcs[f]? = some fn) (hc : fn.body.bind (cCodeV V P) = some d) (hrs : cRes P fn.results.toList = some rs) {args : List DV} {h : List Blk} {R : DV → List Blk → Prop} (n : Nat) (hn : fn.ntmps = args.length + n)
    (H : VV P G h d ⟨args ++ List.replicate n .any, h⟩ [] (RRr h rs R)) : OkR P G f args h R := by
  refine OkR_of_code hf hc hrs n hn (vc_mono d (fun x s hx => ?_) H.out)
  have := hx.out
  cases x <;> exact this

/-- A function that puts off a call. -/
def WFs (B : Nat → Prop) : List DV → Prop
  | [] => True
  | d :: l => WF B d ∧ WFs B l
theorem WFs_spec {B : Nat → Prop} : ∀ {l : List DV}, WFs B l → ∀ d, d ∈ l → WF B d
  | [], _, d, hd => by simp at hd
  | x :: l, h, d, hd => by
    rcases List.mem_cons.1 hd with rfl | hd
    · exact h.1
    · exact WFs_spec h.2 d hd
@[simp] theorem WFs_nil {B : Nat → Prop} : WFs B [] = True := rfl
@[simp] theorem WFs_cons {B : Nat → Prop} {d : DV} {l : List DV} : WFs B (d :: l) = (WF B d ∧ WFs B l) := rfl
structure RDE (P : Program) (G : Nat → DV) (h : List Blk) (rs : List DR) (R : DV → List Blk → Prop) (f : FuncId) (args : List DV) (t : List DV) (h1 : List Blk) : Prop where
  out : ∃ R', OkD P G f args h1 R' ∧ ∀ v1 h2, R' v1 h2 → REr h (resD h2 t rs) h2 R
structure RRD (P : Program) (G : Nat → DV) (h : List Blk) (rs : List DR) (R : DV → List Blk → Prop) (f : FuncId) (args : List DV) (x : DX) (s : St) : Prop where
  out : match x with | .nrm | .ret => RDE P G h rs R f args s.t s.h | _ => False
structure RD1 (P : Program) (G : Nat → DV) (h : List Blk) (rs : List DR) (R : DV → List Blk → Prop) (f : FuncId) (args : List Opd) (dst : Option Nat) (rest : DC) (x : DX) (s : St) : Prop where
  out : match x with | .nrm => WFs (· < h.length) (args.map (Opd.ev G s.t)) ∧ VV P G h rest ⟨sP s.t dst (.tup []), s.h⟩ [] (RRD P G h rs R f (args.map (Opd.ev G s.t))) | _ => False
section
variable {P : Program} {G : Nat → DV} {h h1 : List Blk} {rs : List DR} {R : DV → List Blk → Prop} {f : FuncId} {t : List DV}
@[simp] theorem RRD_nrm {args : List DV} : RRD P G h rs R f args .nrm ⟨t, h1⟩ = RDE P G h rs R f args t h1 := propext ⟨fun x => x.out, fun x => ⟨x⟩⟩
@[simp] theorem RRD_ret {args : List DV} : RRD P G h rs R f args .ret ⟨t, h1⟩ = RDE P G h rs R f args t h1 := propext ⟨fun x => x.out, fun x => ⟨x⟩⟩
@[simp] theorem RD1_nrm {args : List Opd} {dst : Option Nat} {rest : DC} : RD1 P G h rs R f args dst rest .nrm ⟨t, h1⟩ = (WFs (· < h.length) (args.map (Opd.ev G t)) ∧ VV P G h rest ⟨sP t dst (.tup []), h1⟩ [] (RRD P G h rs R f (args.map (Opd.ev G t)))) := propext ⟨fun x => x.out, fun x => ⟨x⟩⟩
theorem RDE_by {args : List DV} {R' : DV → List Blk → Prop} (hf : OkD P G f args h1 R') (hk : ∀ v1 h2, R' v1 h2 → REr h (resD h2 t rs) h2 R) : RDE P G h rs R f args t h1 := ⟨R', hf, hk⟩
theorem OkR_by_defer {f : FuncId} {fn : Func} {d : DfC} {rs : List DR} (hf : P.funcs[f]? = some fn) (hc : fn.body.bind (cDef P) = some d) (hrs : cRes P fn.results.toList = some rs) {args : List DV} {h : List Blk} {R : DV → List Blk → Prop} (n : Nat) (hn : fn.ntmps = args.length + n)
    (H : VV P G h (.seq d.a (.rg d.init)) ⟨args ++ List.replicate n .any, h⟩ [] (RD1 P G h rs R d.f d.args d.dst d.rest)) : OkR P G f args h R := by
  refine OkR_of_defer hf hc hrs n hn (vc_mono _ (fun x s hx => ?_) H.out)
  have := hx.out
  cases x with
  | nrm =>
    obtain ⟨h1, h2⟩ := this
    refine ⟨fun y hy => WFs_spec h1 _ (List.mem_map_of_mem hy), ?_⟩
    have h3 := h2.out
    unfold VV0 at h3
    have hs : s.put d.dst (.tup []) s.h = ⟨sP s.t d.dst (.tup []), s.h⟩ := by
      rw [← putL_eq]
      cases d.dst <;> rfl
    rw [hs]
    refine vc_mono _ (fun x s2 hx2 => ?_) h3
    have h4 := hx2.out
    cases x with
    | nrm => exact ⟨h4.out.choose, h4.out.choose_spec.1, fun v1 h2 hr => (h4.out.choose_spec.2 v1 h2 hr).out⟩
    | ret => exact ⟨h4.out.choose, h4.out.choose_spec.1, fun v1 h2 hr => (h4.out.choose_spec.2 v1 h2 hr).out⟩
    | ext i => exact h4.elim
  | ret => exact this.elim
  | ext i => exact this.elim
theorem OkD_by {V : List Nat} {f : FuncId} {fn : Func} {d : DC} {rs : List DR} (hf : P.funcs[f]? = some fn) (hc : fn.body.bind (cCodeV V P) = some d) (hrs : cRes P fn.results.toList = some rs) {args : List DV} {h : List Blk} {R : DV → List Blk → Prop} (n : Nat) (hn : fn.ntmps = args.length + n)
    (H : VV P G h d ⟨args ++ List.replicate n .any, h⟩ [] (RRr h rs R)) : OkD P G f args h R := by
  refine OkD_of_code hf hc hrs n hn (vc_mono d (fun x s hx => ?_) H.out)
  have := hx.out
  cases x <;> exact this
end

attribute [simp] List.replicate mres vcO mkRes DV.size DV.storable DV.cells sub Den.put isNilD cellEq cellsEq
@[simp] theorem elemsOf_nil {h : List Blk} {sz : Nat} : elemsOf h sz (.p (.slice none 0 0)) = some [] := rfl
@[simp] theorem elemsOf_str {h : List Blk} {sz : Nat} {s : ByteArray} : elemsOf h sz (.p (.string s)) = if sz = 1 then some (bytesD s) else none := rfl
@[simp] theorem elemsOf_fz {h : List Blk} {sz sz' : Nat} {l : List DV} : elemsOf h sz (.fz sz' l) = if sz' = sz then some l else none := rfl
@[simp] theorem elemsOf_sl {h : List Blk} {sz b i n x : Nat} : elemsOf h sz (.sl b i n x) = match h[b]? with
    | some (.cells bsz els) => if x = els.length ∧ bsz = sz then some ((els.drop i).take n) else none
    | _ => none := rfl
@[simp] theorem elemsOf_sa {h : List Blk} {sz : Nat} {g : Bool} {z b i o n c x : Nat} : elemsOf h sz (.sa g z b i o n c x) = match h[b]? with
    | some (.cells bsz els) => if x = els.length ∧ z = sz then some ((List.range n).map fun j => Den.sub (els.getD i .any) (o + j * z) z g) else none
    | _ => none := rfl
@[simp] theorem sliceOf_sa {h : List Blk} {sz : Nat} {g : Bool} {z b i o n c x : Nat} : sliceOf h sz (.sa g z b i o n c x) = match h[b]? with
    | some (.cells bsz els) => if x = els.length ∧ z = sz then some ((List.range n).map fun j => Den.sub (els.getD i .any) (o + j * z) z g) else none
    | _ => none := rfl
@[simp] theorem sliceOf_nil {h : List Blk} {sz : Nat} : sliceOf h sz (.p (.slice none 0 0)) = some [] := rfl
@[simp] theorem sliceOf_fz {h : List Blk} {sz sz' : Nat} {l : List DV} : sliceOf h sz (.fz sz' l) = if sz' = sz then some l else none := rfl
@[simp] theorem sliceOf_sl {h : List Blk} {sz b i n x : Nat} : sliceOf h sz (.sl b i n x) = match h[b]? with
    | some (.cells bsz els) => if x = els.length ∧ bsz = sz then some ((els.drop i).take n) else none
    | _ => none := rfl
end Go.Den
