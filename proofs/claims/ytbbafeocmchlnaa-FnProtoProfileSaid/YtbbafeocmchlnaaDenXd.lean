/- The library: contracts of functions over denoted values (X). -/
import Derived.Test.YtbbafeocmchlnaaDenXc
set_option linter.unusedVariables false
set_option linter.unusedSimpArgs false
set_option linter.unusedSectionVars false
set_option linter.unnecessarySimpa false
namespace Go.Den
open Go

/-! A call of plain values, by reckoning. -/
def binE (op : BinOp) (x y : Value) : Option Value :=
  match x, y with
  | .int k a, .int k' b =>
    match op with
    | .shl => if 0 ≤ b then some (.int k (ishl k a b)) else none
    | .shr => if 0 ≤ b then some (.int k (ishr k a b)) else none
    | .add => if k = k' then some (.int k (k.wrap (a + b))) else none
    | .sub => if k = k' then some (.int k (k.wrap (a - b))) else none
    | .mul => if k = k' then some (.int k (k.wrap (a * b))) else none
    | .quo => if k = k' ∧ b ≠ 0 then some (.int k (k.wrap (a.tdiv b))) else none
    | .rem => if k = k' ∧ b ≠ 0 then some (.int k (a.tmod b)) else none
    | .and => if k = k' then some (.int k (iand k a b)) else none
    | .or => if k = k' then some (.int k (ior k a b)) else none
    | .xor => if k = k' then some (.int k (ixor k a b)) else none
    | .andNot => if k = k' then some (.int k (iandn k a b)) else none
    | .eql => if k = k' then some (.bool (a == b)) else none
    | .neq => if k = k' then some (.bool (a != b)) else none
    | .lss => if k = k' then some (.bool (decide (a < b))) else none
    | .leq => if k = k' then some (.bool (decide (a ≤ b))) else none
    | .gtr => if k = k' then some (.bool (decide (b < a))) else none
    | .geq => if k = k' then some (.bool (decide (b ≤ a))) else none
  | .string a, .string b =>
    match op with
    | .add => if ((a.size + b.size : Nat) : Int) ≤ 9223372036854775807 then some (.string (a ++ b)) else none
    | .eql => some (.bool (decide (a = b)))
    | .neq => some (.bool (!decide (a = b)))
    | .lss => some (.bool (Op.bytesLess a.data.toList b.data.toList))
    | .leq => some (.bool (Op.bytesLess a.data.toList b.data.toList || decide (a = b)))
    | .gtr => some (.bool (!(Op.bytesLess a.data.toList b.data.toList || decide (a = b))))
    | .geq => some (.bool (!(Op.bytesLess a.data.toList b.data.toList)))
    | _ => none
  | _, _ => none
theorem binE_sound {op : BinOp} {x y v : Value} {K : Value → Prop} (H : binE op x y = some v) (hK : K v) : binK op x y K := by
  unfold binE at H
  unfold binK
  repeat' split at H
  all_goals first | (cases H; done) | (cases H; simp_all; done)

def unE (op : UnOp) (x : Value) : Option Value :=
  match op, x with
  | .neg, .int k n => some (.int k (k.wrap (0 - n)))
  | .xor, .int k n => some (.int k (inot k n))
  | .not, .bool b => some (.bool (!b))
  | _, _ => none
theorem unE_sound {op : UnOp} {x v : Value} {K : Value → Prop} (H : unE op x = some v) (hK : K v) : unK op x K := by
  unfold unE at H
  unfold unK
  repeat' split at H
  all_goals first | (cases H; done) | (cases H; simp_all; done)

abbrev Rs := Option (DV × List Blk)

def evO (P : Program) (G : Nat → DV) (call : FuncId → List DV → List Blk → Rs) (o : DO) (ev : Opd → DV) (h : List Blk) : Rs :=
  match o with
  | .mov x => some (ev x, h)
  | .pick c a b => match ev c with
    | .p (.bool t) => if t = true then some (ev a, h) else some (ev b, h)
    | _ => none
  | .bin op x y => match ev x, ev y with
    | .p a, .p b => (binE op a b).map fun v => (.p v, h)
    | _, _ => none
  | .eqb neg x y => match ev x, ev y with
    | .p (.bool a), .p (.bool b) => some (.p (.bool ((a == b) != neg)), h)
    | _, _ => none
  | .eqn neg k x => match isNilD h k (ev x) with
    | some b => some (.p (.bool (b != neg)), h)
    | none => none
  | .eqs neg ks x y => match ev x, ev y with
    | .agg xs, .agg ys => match cellsEq ks xs ys with
      | some r => some (.p (.bool (r != neg)), h)
      | none => none
    | _, _ => none
  | .un op x => match ev x with
    | .p a => (unE op a).map fun v => (.p v, h)
    | _ => none
  | .cint k x => match ev x with
    | .p (.int _ n) => some (.p (.int k (k.wrap n)), h)
    | _ => none
  | .cstr x => match ev x with
    | .p (.int _ n) => some (.p (.string (Utf8.encode n)), h)
    | .p (.string s) => some (.p (.string s), h)
    | _ => none
  | .b2s x => match sliceOf h 1 (ev x) with
    | some l => if l.all isByte = true then some (.p (.string (strOf l)), h) else none
    | none => none
  | .s2b x => match ev x with
    | .p (.string s) => some (.sl h.length 0 s.size s.size, h ++ [.cells 1 (bytesD s)])
    | _ => none
  | .lens x => match ev x with
    | .p (.string s) => some (.p (.int .i64 s.size), h)
    | _ => none
  | .lenl x => match ev x with
    | .p (.slice none 0 0) => some (.p (.int .i64 0), h)
    | .fz _ l => some (.p (.int .i64 l.length), h)
    | .sl _ _ n _ => some (.p (.int .i64 n), h)
    | .sa _ _ _ _ _ n _ _ => some (.p (.int .i64 n), h)
    | _ => none
  | .mm mx x y => match ev x, ev y with
    | .p (.int k a), .p (.int _ b) => some (.p (.int k (if mx then (if a < b then b else a) else (if b < a then b else a))), h)
    | _, _ => none
  | .slcs x lo hi =>
    match ev x with
    | .p (.string s) =>
      match lo.elim (DV.p (.int .i64 0)) ev, hi.elim (DV.p (.int .i64 s.size)) ev with
      | .p (.int _ l), .p (.int _ r) => if 0 ≤ l ∧ l ≤ r ∧ r ≤ s.size then some (.p (.string (s.extract l.toNat r.toNat)), h) else none
      | _, _ => none
    | _ => none
  | .idxs x i => match ev x, ev i with
    | .p (.string s), .p (.int _ j) => if 0 ≤ j ∧ j < s.size then some (byteD (s.data.toList.getD j.toNat 0), h) else none
    | _, _ => none
  | .idxa n sz g x i => match ev x, ev i with
    | .agg cs, .p (.int _ j) => if 0 ≤ j ∧ j < n ∧ cs.length = n * sz then some (sub (.agg cs) (j.toNat * sz) sz g, h) else none
    | _, _ => none
  | .fld o sz g x => match ev x with
    | .agg cs => if o + sz ≤ cs.length then some (sub (.agg cs) o sz g, h) else none
    | _ => none
  | .bld zero parts =>
    match parts.foldl (fun (acc : Option (List DV)) p => acc.bind fun cs => if (ev p.2.2).size = p.2.1 ∧ (ev p.2.2).storable = true ∧ p.1 + p.2.1 ≤ cs.length then some (cs.take p.1 ++ (ev p.2.2).cells ++ cs.drop (p.1 + p.2.1)) else none) (some zero) with
    | some cs => some (.agg cs, h)
    | none => none
  | .lit sz els => if els.all (fun x => decide ((ev x).size = sz) && (ev x).storable) = true then some (.sl h.length 0 els.length els.length, h ++ [.cells sz (els.map ev)]) else none
  | .litz sz els => if els.all (fun x => decide ((ev x).size = sz) && (ev x).storable) = true then some (.fz sz (els.map ev), h) else none
  | .alloc sz zero => some (.ptr h.length 0 0 1, h ++ [.cells sz [zero]])
  | .box x => if (ev x).storable = true then some (.ptr h.length 0 0 1, h ++ [.cells (ev x).size [ev x]]) else none
  | .load g sz a => match ev a with
    | .ptr b i o x => match h[b]? with
      | some (.cells bsz els) => if x = els.length ∧ o + sz ≤ bsz then some (sub (els.getD i .any) o sz g, h) else none
      | _ => none
    | .fp d => if sz ≤ d.size then some (sub d 0 sz g, h) else none
    | _ => none
  | .store sz a x => match ev a with
    | .ptr b i o n => match h[b]? with
      | some (.cells bsz els) => if n = els.length ∧ (0 < sz ∨ bsz = 0) ∧ o + sz ≤ bsz ∧ (ev x).size = sz ∧ (ev x).storable = true then some (.any, h.set b (.cells bsz (els.set i (put (els.getD i .any) o (ev x) sz)))) else none
      | _ => none
    | _ => none
  | .nilchk k x => match isNilD h k (ev x) with
    | some false => some (ev x, h)
    | _ => none
  | .faddr g o sz a => match ev a with
    | .ptr b i o' x => match h[b]? with
      | some (.cells _ els) => if x = els.length then some (.ptr b i (o' + o) x, h) else none
      | _ => none
    | .fp d => if o + sz ≤ d.size then some (.fp (sub d o sz g), h) else none
    | _ => none
  | .iaddr sz x i => match ev x, ev i with
    | .sl b s n y, .p (.int _ j) => match h[b]? with
      | some (.cells bsz els) => if (y = els.length ∧ bsz = sz) ∧ 0 ≤ j ∧ j < n then some (.ptr b (s + j.toNat) 0 y, h) else none
      | _ => none
    | .fz sz' l, .p (.int _ j) => if sz' = sz ∧ 0 ≤ j ∧ j < l.length then some (.fp (l.getD j.toNat .any), h) else none
    | .sa g z b i o n c x, .p (.int _ j) => match h[b]? with
      | some (.cells _ els) => if (x = els.length ∧ z = sz) ∧ 0 ≤ j ∧ j < n then some (.ptr b i (o + j.toNat * z) x, h) else none
      | _ => none
    | _, _ => none
  | .iaddra n sz g x i => match ev x, ev i with
    | .ptr b s o y, .p (.int _ j) => match h[b]? with
      | some (.cells _ els) => if y = els.length ∧ 0 ≤ j ∧ j < n then some (.ptr b s (o + j.toNat * sz) y, h) else none
      | _ => none
    | .fp d, .p (.int _ j) => if d.size = n * sz ∧ 0 ≤ j ∧ j < n then some (.fp (sub d (j.toNat * sz) sz g), h) else none
    | _, _ => none
  | .slca m z g x lo hi => match ev x with
    | .ptr b i o y => match lo.elim (DV.p (.int .i64 0)) ev, hi.elim (DV.p (.int .i64 m)) ev with
      | .p (.int _ l), .p (.int _ r) => match h[b]? with
        | some (.cells bsz els) => if (y = els.length ∧ o + m * z ≤ bsz) ∧ 0 ≤ l ∧ l ≤ r ∧ r ≤ m then some (.sa g z b i (o + l.toNat * z) (r.toNat - l.toNat) (m - l.toNat) y, h) else none
        | _ => none
      | _, _ => none
    | _ => none
  | .slcl sz x lo hi => match ev x with
    | .fz sz' xs => match lo.elim (DV.p (.int .i64 0)) ev, hi.elim (DV.p (.int .i64 xs.length)) ev with
      | .p (.int _ l), .p (.int _ r) => if sz' = sz ∧ 0 ≤ l ∧ l ≤ r ∧ r ≤ xs.length then some (.fz sz ((xs.drop l.toNat).take (r.toNat - l.toNat)), h) else none
      | _, _ => none
    | .sl b i n x => match lo.elim (DV.p (.int .i64 0)) ev, hi.elim (DV.p (.int .i64 n)) ev with
      | .p (.int _ l), .p (.int _ r) => match h[b]? with
        | some (.cells bsz els) => if (x = els.length ∧ bsz = sz) ∧ 0 ≤ l ∧ l ≤ r ∧ r ≤ n then some (.sl b (i + l.toNat) (r.toNat - l.toNat) x, h) else none
        | _ => none
      | _, _ => none
    | .sa g z b i o n c x => match lo.elim (DV.p (.int .i64 0)) ev, hi.elim (DV.p (.int .i64 n)) ev with
      | .p (.int _ l), .p (.int _ r) => match h[b]? with
        | some (.cells _ els) => if (x = els.length ∧ z = sz) ∧ 0 ≤ l ∧ l ≤ r ∧ r ≤ c then some (.sa g z b i (o + l.toNat * z) (r.toNat - l.toNat) (c - l.toNat) x, h) else none
        | _ => none
      | _, _ => none
    | _ => none
  | .ext x i => match ev x with
    | .tup vs => if i < vs.length then some (vs.getD i .any, h) else none
    | _ => none
  | .ifc t x => some (.iface t (ev x), h)
  | .app sz bytes x y => match elemsOf h sz (ev y), ev x with
    | some ys, .p (.slice none 0 0) => if ys.length * bytes ≤ 140737488355328 then (if ys.isEmpty = true then some (.p (.slice none 0 0), h) else some (.sl h.length 0 ys.length ys.length, h ++ [.cells sz ys])) else none
    | some ys, .sl b i n z => match h[b]? with
      | some (.cells bsz els) => if z = els.length ∧ bsz = sz ∧ (n + ys.length) * bytes ≤ 140737488355328 ∧ i = 0 ∧ n ≤ els.length ∧ (n = els.length ∨ els.length < n + ys.length) then
          some (.sl b 0 (n + ys.length) (n + ys.length), h.set b (.cells sz ((if n = els.length then els else els.take n) ++ ys))) else none
      | _ => none
    | _, _ => none
  | .rngs x => match ev x with
    | .p (.string s) => some (.it h.length, h ++ [.sit s 0])
    | _ => none
  | .nxts a => match ev a with
    | .it b => match h[b]? with
      | some (.sit s pos) => if pos < s.size then some (.tup [.p (.bool true), .p (.int .i64 pos), .p (.int .i32 (Utf8.decode s pos).1)], h.set b (.sit s (pos + (Utf8.decode s pos).2))) else some (.tup [.p (.bool false)], h)
      | _ => none
    | _ => none
  | .call f args => call f (args.map ev) h
  | .callr f args => call f (args.map ev) h
  | _ => none

section
variable {P : Program} {G : Nat → DV} {call : FuncId → List DV → List Blk → Rs} {ev : Opd → DV} {h : List Blk} {v : DV} {h' : List Blk} {K : DV → List Blk → Prop}
theorem evO_sound (hc : ∀ f args h v h', call f args h = some (v, h') → Ok P G f args h v h') {o : DO} (H : evO P G call o ev h = some (v, h')) (hK : K v h') : vcO P G o ev h K := by
  cases o
  case call f args => exact ⟨v, h', hc _ _ _ _ _ H, hK⟩
  case callr f args => exact ⟨_, (hc _ _ _ _ _ H).toR, by rintro v1 h1 ⟨rfl, rfl⟩; exact hK⟩
  case bin op x y =>
    simp only [evO] at H
    simp only [vcO]
    split at H
    · rename_i a b h1 h2
      obtain ⟨u, hu, hv⟩ := Option.map_eq_some_iff.1 H
      cases hv
      simp only [h1, h2]
      exact binE_sound hu hK
    · cases H
  case un op x =>
    simp only [evO] at H
    simp only [vcO]
    split at H
    · rename_i a h1
      obtain ⟨u, hu, hv⟩ := Option.map_eq_some_iff.1 H
      cases hv
      simp only [h1]
      exact unE_sound hu hK
    · cases H
  case b2s x =>
    simp only [evO] at H
    simp only [vcO]
    split at H
    · rename_i l h1
      split at H
      · rename_i hl
        cases H
        simp only [h1]
        exact ⟨fun d hd => List.all_eq_true.1 hl d hd, hK⟩
      · cases H
    · cases H
  case lit sz els =>
    simp only [evO] at H
    simp only [vcO]
    split at H
    · rename_i hl
      cases H
      exact ⟨fun x hx => by have := List.all_eq_true.1 hl x hx; rw [Bool.and_eq_true, decide_eq_true_eq] at this; exact this, hK⟩
    · cases H
  case litz sz els =>
    simp only [evO] at H
    simp only [vcO]
    split at H
    · rename_i hl
      cases H
      exact ⟨fun x hx => by have := List.all_eq_true.1 hl x hx; rw [Bool.and_eq_true, decide_eq_true_eq] at this; exact this, hK⟩
    · cases H
  case app sz bytes x y =>
    simp only [evO] at H
    simp only [vcO]
    split at H
    · rename_i ys h1 h2
      simp only [h1, h2]
      split at H
      · rename_i hb
        split at H
        · rename_i he
          cases H
          have : ys = [] := by simpa using he
          exact ⟨hb, fun _ => hK, fun h => (h this).elim⟩
        · rename_i he
          cases H
          have : ys ≠ [] := by simpa using he
          exact ⟨hb, fun h => (this h).elim, fun _ => hK⟩
      · cases H
    · rename_i ys b i n z h1 h2
      simp only [h1, h2]
      split at H
      · rename_i bsz els h3
        simp only [h3]
        split at H
        · rename_i hb
          cases H
          exact ⟨hb.1, hb.2.1, hb.2.2.1, hb.2.2.2.1, hb.2.2.2.2.1, hb.2.2.2.2.2, hK⟩
        · cases H
      · cases H
    · cases H
  case nxts a =>
    simp only [evO] at H
    simp only [vcO]
    split at H
    · rename_i b h1
      simp only [h1]
      split at H
      · rename_i s pos h2
        simp only [h2]
        split at H
        · rename_i hp
          cases H
          exact ⟨fun _ => hK, fun h => absurd hp (by omega)⟩
        · rename_i hp
          cases H
          exact ⟨fun h => (hp h).elim, fun _ => hK⟩
      · cases H
    · cases H
  case slcs x lo hi =>
    simp only [evO] at H
    simp only [vcO]
    split at H
    · rename_i s h1
      simp only [h1]
      split at H
      · rename_i kl l kr r h2 h3
        simp only [h2, h3]
        split at H
        · rename_i hb
          cases H
          exact ⟨hb.1, hb.2.1, hb.2.2, hK⟩
        · cases H
      · cases H
    · cases H
  case mm mx x y =>
    simp only [evO] at H
    simp only [vcO]
    split at H
    · rename_i k a k' b h1 h2
      cases H
      simp only [h1, h2]
      exact hK
    · cases H
  all_goals first
    | (simp only [evO] at H; cases H; done)
    | (simp only [evO] at H; simp only [vcO]; repeat' split at H
       all_goals first | (cases H; done) | (cases H; simp_all; done))
end


def evL (P : Program) (G : Nat → DV) (call : FuncId → List DV → List Blk → Rs) : List DOper → St → Option St
  | [], s => some s
  | o :: l, s => match o.guard with
    | none => match evO P G call o.op (Opd.ev G s.t) s.h with
      | some (v, h) => evL P G call l (s.put o.dst v h)
      | none => none
    | some (g, want) => match s.t.getD g .any with
      | .p (.bool b) => if b = want then (match evO P G call o.op (Opd.ev G s.t) s.h with
          | some (v, h) => evL P G call l (s.put o.dst v h)
          | none => none) else evL P G call l (s.put o.dst (.tup []) s.h)
      | .tup [] => evL P G call l (s.put o.dst (.tup []) s.h)
      | _ => none

section
variable {P : Program} {G : Nat → DV} {call : FuncId → List DV → List Blk → Rs}
theorem evL_sound (hc : ∀ f args h v h', call f args h = some (v, h') → Ok P G f args h v h') : ∀ (l : List DOper) (s s' : St) (K : St → Prop), evL P G call l s = some s' → K s' → vcL P G l s K
  | [], s, s', K, H, hK => by
    simp only [evL] at H
    cases H
    exact hK
  | o :: l, s, s', K, H, hK => by
    simp only [evL] at H
    rw [vcL]
    split at H
    · rename_i hg
      split at H
      · rename_i v h he
        simp only [hg]
        exact evO_sound hc he (evL_sound hc l _ _ K H hK)
      · cases H
    · rename_i g want hg
      simp only [hg]
      split at H
      · rename_i b hb
        simp only [hb]
        by_cases hbw : b = want
        · rw [if_pos hbw] at H ⊢
          split at H
          · rename_i v h he
            exact evO_sound hc he (evL_sound hc l _ _ K H hK)
          · cases H
        · rw [if_neg hbw] at H ⊢
          exact evL_sound hc l _ _ K H hK
      · rename_i hb
        simp only [hb]
        exact evL_sound hc l _ _ K H hK
      · cases H
end

/-- What only lays new blocks. -/
def DO.pushes : DO → Bool
  | .s2b .. | .lit .. | .alloc .. | .box .. | .rngs .. | .call .. => true
  | _ => false

/-- One of a region that is drawn; pre: from which of the heaps on nothing has been written. -/
def evS (P : Program) (G : Nat → DV) (call : FuncId → List DV → List Blk → Rs) (d : DDOp) (t : List DV) (Hs : List (List Blk)) (h : List Blk) (pre : Nat) : Option (DV × List (List Blk) × List Blk × Nat) :=
  if d.o.op.heavy = true then
    (if d.o.op.pushes = true then
      (if d.fr.all (fun m => decide (pre ≤ m) && decide (m < Hs.length)) = true then (evO P G call d.o.op (Opd.ev G t) h).map fun r => (r.1, Hs ++ [r.2], r.2, pre) else none)
    else (if d.fr.isEmpty = true then (evO P G call d.o.op (Opd.ev G t) h).map fun r => (r.1, Hs ++ [r.2], r.2, Hs.length) else none))
  else (evO P G call d.o.op (Opd.ev G t) (Hs.getD d.a [])).map fun r => (r.1, Hs, h, pre)

def evD (P : Program) (G : Nat → DV) (call : FuncId → List DV → List Blk → Rs) : List DDOp → List DV → List (List Blk) → List Blk → Nat → Option (List DV × List Blk)
  | [], t, _, h, _ => some (t, h)
  | d :: l, t, Hs, h, pre => match d.o.guard with
    | none => match evS P G call d t Hs h pre with
      | some (v, Hs', h', pre') => evD P G call l (putL t d.o.dst v) Hs' h' pre'
      | none => none
    | some (g, want) => match t.getD g .any with
      | .p (.bool b) => if b = want then (match evS P G call d t Hs h pre with
          | some (v, Hs', h', pre') => evD P G call l (putL t d.o.dst v) Hs' h' pre'
          | none => none)
        else evD P G call l (putL t d.o.dst (.tup [])) (if d.o.op.heavy = true then Hs ++ [h] else Hs) h pre
      | .tup [] => evD P G call l (putL t d.o.dst (.tup [])) (if d.o.op.heavy = true then Hs ++ [h] else Hs) h pre
      | _ => none

section
variable {P : Program} {G : Nat → DV} {call : FuncId → List DV → List Blk → Rs}
theorem pushes_pre (hp : ∀ f args h v h', call f args h = some (v, h') → h' = h) {o : DO} (hq : o.pushes = true) {ev : Opd → DV} {h : List Blk} {v : DV} {h' : List Blk} (H : evO P G call o ev h = some (v, h')) : HPre h h' := by
  cases o <;> simp only [DO.pushes, Bool.false_eq_true] at hq
  case call f args => rw [hp _ _ _ _ _ H]; exact HPre.refl _
  all_goals
    simp only [evO] at H
    repeat' split at H
    all_goals first | (cases H; done) | (cases H; exact HPre.append _ _)

structure SnapI (Hs : List (List Blk)) (h : List Blk) (pre : Nat) : Prop where
  ok : ∀ j, pre ≤ j → j < Hs.length → HPre (Hs.getD j []) h
theorem evS_sound (hc : ∀ f args h v h', call f args h = some (v, h') → Ok P G f args h v h') (hp : ∀ f args h v h', call f args h = some (v, h') → h' = h) {d : DDOp} {t : List DV} {Hs : List (List Blk)} {h : List Blk} {pre : Nat} (hS : SnapI Hs h pre)
    {v : DV} {Hs' : List (List Blk)} {h' : List Blk} {pre' : Nat} (H : evS P G call d t Hs h pre = some (v, Hs', h', pre')) {K : DV → List (List Blk) → List Blk → Prop} (hK : SnapI Hs' h' pre' → K v Hs' h') : stepD P G d t Hs h K := by
  unfold evS at H
  unfold stepD
  split at H
  · rename_i hh
    rw [if_pos hh]
    split at H
    · rename_i hq
      split at H
      · rename_i hf
        obtain ⟨⟨v1, h1⟩, he, hr⟩ := Option.map_eq_some_iff.1 H
        simp only [Prod.mk.injEq] at hr
        obtain ⟨rfl, rfl, rfl, rfl⟩ := hr
        have hpre := pushes_pre hp hq he
        refine evO_sound hc he ⟨fun m hm => ?_, hK ⟨fun j hj hl => ?_⟩⟩
        · have := List.all_eq_true.1 hf m hm
          simp only [Bool.and_eq_true, decide_eq_true_eq] at this
          exact (hS.ok m this.1 this.2).trans hpre
        · simp only [List.length_append, List.length_singleton] at hl
          by_cases hjl : j < Hs.length
          · have : (Hs ++ [h1]).getD j [] = Hs.getD j [] := by simp [List.getD, List.getElem?_append_left hjl]
            rw [this]
            exact (hS.ok j hj hjl).trans hpre
          · obtain rfl : j = Hs.length := by omega
            simp only [List.getD, List.getElem?_append_right (Nat.le_refl _), Nat.sub_self]
            exact HPre.refl _
      · cases H
    · split at H
      · rename_i hf
        obtain ⟨⟨v1, h1⟩, he, hr⟩ := Option.map_eq_some_iff.1 H
        simp only [Prod.mk.injEq] at hr
        obtain ⟨rfl, rfl, rfl, rfl⟩ := hr
        have hfn : d.fr = [] := by simpa using hf
        refine evO_sound hc he ⟨fun m hm => by rw [hfn] at hm; simp at hm, hK ⟨fun j hj hl => ?_⟩⟩
        simp only [List.length_append, List.length_singleton] at hl
        obtain rfl : j = Hs.length := by omega
        simp only [List.getD, List.getElem?_append_right (Nat.le_refl _), Nat.sub_self]
        exact HPre.refl _
      · cases H
  · rename_i hh
    rw [if_neg hh]
    obtain ⟨⟨v1, h1⟩, he, hr⟩ := Option.map_eq_some_iff.1 H
    simp only [Prod.mk.injEq] at hr
    obtain ⟨rfl, rfl, rfl, rfl⟩ := hr
    exact evO_sound hc he (hK hS)
theorem SnapI.skip {Hs : List (List Blk)} {h : List Blk} {pre : Nat} (hS : SnapI Hs h pre) (b : Bool) : SnapI (if b = true then Hs ++ [h] else Hs) h pre := by
  cases b
  · exact hS
  · refine ⟨fun j hj hl => ?_⟩
    simp only [if_true, List.length_append, List.length_singleton] at hl ⊢
    by_cases hjl : j < Hs.length
    · have : (Hs ++ [h]).getD j [] = Hs.getD j [] := by simp [List.getD, List.getElem?_append_left hjl]
      rw [this]
      exact hS.ok j hj hjl
    · obtain rfl : j = Hs.length := by omega
      simp only [List.getD, List.getElem?_append_right (Nat.le_refl _), Nat.sub_self]
      exact HPre.refl _
theorem evD_sound (hc : ∀ f args h v h', call f args h = some (v, h') → Ok P G f args h v h') (hp : ∀ f args h v h', call f args h = some (v, h') → h' = h) {K : List DV → List Blk → Prop} : ∀ (l : List DDOp) (t : List DV) (Hs : List (List Blk)) (h : List Blk) (pre : Nat) (t' : List DV) (h' : List Blk), SnapI Hs h pre → evD P G call l t Hs h pre = some (t', h') → K t' h' → vcD P G l t Hs h K
  | [], t, Hs, h, pre, t', h', hS, H, hK => by
    simp only [evD] at H
    cases H
    rw [vcD]
    exact hK
  | d :: l, t, Hs, h, pre, t', h', hS, H, hK => by
    simp only [evD] at H
    rw [vcD]
    split at H
    · rename_i hg
      simp only [hg]
      split at H
      · rename_i v Hs1 h1 pre1 he
        exact evS_sound hc hp hS he fun hS1 => evD_sound hc hp l _ _ _ _ _ _ hS1 H hK
      · cases H
    · rename_i g want hg
      simp only [hg]
      split at H
      · rename_i b hb
        simp only [hb]
        by_cases hbw : b = want
        · rw [if_pos hbw] at H ⊢
          split at H
          · rename_i v Hs1 h1 pre1 he
            exact evS_sound hc hp hS he fun hS1 => evD_sound hc hp l _ _ _ _ _ _ hS1 H hK
          · cases H
        · rw [if_neg hbw] at H ⊢
          exact evD_sound hc hp l _ _ _ _ _ _ (hS.skip d.o.op.heavy) H hK
      · rename_i hb
        simp only [hb]
        exact evD_sound hc hp l _ _ _ _ _ _ (hS.skip d.o.op.heavy) H hK
      · cases H
end

/-- The codes of functions: code, results, slots. -/
abbrev Tab := FuncId → Option (DC × List DR × Nat)
def TabOk (P : Program) (tb : Tab) : Prop := ∀ f d rs n, tb f = some (d, rs, n) → ∃ fn, P.funcs[f]? = some fn ∧ fn.body.bind (cCode P) = some d ∧ cRes P fn.results.toList = some rs ∧ fn.ntmps = n

/-- A call of plain values, its code run by rn. -/
def callE (tb : Tab) (rn : DC → St → Option (DX × St)) (f : FuncId) (args : List DV) (h : List Blk) : Rs :=
  if pureV.pureL args = true then match tb f with
    | some (d, rs, n) => if args.length ≤ n then match rn d ⟨args ++ List.replicate (n - args.length) .any, []⟩ with
      | some (x, s') => if x = .nrm ∨ x = .ret then match resD s'.h s'.t rs with
        | some ds => if pureV (mkRes ds) = true then some (mkRes ds, h) else none
        | none => none else none
      | none => none else none
    | none => none
  else none

def run (P : Program) (G : Nat → DV) (tb : Tab) : Nat → DC → St → Option (DX × St)
  | 0, _, _ => none
  | n + 1, c, s => match c with
    | .skip => some (.nrm, s)
    | .rg ops => (evL P G (callE tb (run P G tb n)) ops s).map fun s' => (.nrm, s')
    | .rgd ops => (evD P G (callE tb (run P G tb n)) ops s.t [s.h] s.h 0).map fun r => (.nrm, ⟨r.1, r.2⟩)
    | .seq a b => match run P G tb n a s with
      | some (.nrm, s') => run P G tb n b s'
      | r => r
    | .cond c a b => match c.ev G s.t with
      | .p (.bool t) => if t = true then run P G tb n a s else run P G tb n b s
      | _ => none
    | .block id a => match run P G tb n a s with
      | some (.ext i, s') => if i = id then some (.nrm, s') else some (.ext i, s')
      | r => r
    | .loop a => match run P G tb n a s with
      | some (.nrm, s') => run P G tb n (.loop a) s'
      | r => r
    | .exit id => some (.ext id, s)
    | .ret => some (.ret, s)

section
variable {P : Program} {G : Nat → DV} {tb : Tab}
theorem pureL_frz {h : List Blk} : ∀ {l : List DV}, pureV.pureL l = true → FrzL h [] l l
  | [], _ => .nil
  | d :: l, hl => by
    simp only [pureV.pureL, Bool.and_eq_true] at hl
    exact .cons (fun e v he hr hv => hv.pure hl.1) (pureL_frz hl.2)

theorem callE_sound (hG : GZ G) (ht : TabOk P tb) {rn : DC → St → Option (DX × St)} (hrn : ∀ c s x s' Q, rn c s = some (x, s') → Q x s' → vc P G [] c s Q) : ∀ f args h v h', callE tb rn f args h = some (v, h') → Ok P G f args h v h' := by
  intro f args h v h' H
  unfold callE at H
  split at H
  · rename_i hpa
    split at H
    · rename_i d rs n htb
      split at H
      · rename_i hle
        split at H
        · rename_i x s' hr
          split at H
          · rename_i hx
            split at H
            · rename_i ds hds
              split at H
              · rename_i hpv
                cases H
                obtain ⟨fn, h1, h2, h3, h4⟩ := ht f d rs n htb
                refine Ok.lend hG ?_ (pureL_frz hpa) hpv
                refine Ok_of_code h1 h2 h3 (n - args.length) (by omega) (hrn _ _ _ _ _ hr ?_)
                rcases hx with rfl | rfl
                · exact ⟨ds, hds, WkV.ofPure (by simp) hpv⟩
                · exact ⟨ds, hds, WkV.ofPure (by simp) hpv⟩
              · cases H
            · cases H
          · cases H
        · cases H
      · cases H
    · cases H
  · cases H
theorem callE_heap {rn : DC → St → Option (DX × St)} : ∀ f args h v h', callE tb rn f args h = some (v, h') → h' = h := by
  intro f args h v h' H
  unfold callE at H
  repeat' split at H
  all_goals first | (cases H; done) | (cases H; rfl)

theorem run_sound (hG : GZ G) (ht : TabOk P tb) : ∀ (n : Nat) (c : DC) (s : St) (x : DX) (s' : St) (Q : DX → St → Prop), run P G tb n c s = some (x, s') → Q x s' → vc P G [] c s Q := by
  intro n
  induction n using Nat.strongRecOn with
  | _ n ih =>
    intro c s x s' Q H hQ
    cases n with
    | zero => cases H
    | succ n =>
      have ihn := ih n (Nat.lt_succ_self _)
      have hc := callE_sound hG ht (rn := run P G tb n) ihn
      cases c with
      | skip => simp only [run] at H; cases H; rw [vc_skip]; exact hQ
      | rg ops =>
        simp only [run] at H
        obtain ⟨s1, h1, h2⟩ := Option.map_eq_some_iff.1 H
        cases h2
        rw [vc_rg]
        exact evL_sound hc _ _ _ _ h1 hQ
      | rgd ops =>
        simp only [run] at H
        obtain ⟨⟨t1, hh1⟩, h1, h2⟩ := Option.map_eq_some_iff.1 H
        cases h2
        rw [vc_rgd]
        refine evD_sound hc callE_heap _ _ _ _ 0 _ _ ⟨fun j _ hj => ?_⟩ h1 hQ
        simp only [List.length_singleton] at hj
        obtain rfl : j = 0 := by omega
        exact HPre.refl _
      | seq a b =>
        simp only [run] at H
        rw [vc_seq]
        split at H
        · rename_i s1 h1
          exact ihn _ _ _ _ _ h1 (ihn _ _ _ _ _ H hQ)
        · rename_i r hr
          cases hra : run P G tb n a s with
          | none => rw [hra] at H; cases H
          | some r1 =>
            obtain ⟨x1, s1⟩ := r1
            rw [hra] at H
            cases H
            refine ihn _ _ _ _ _ hra ?_
            cases x with
            | nrm => exact absurd hra (hr _)
            | _ => exact hQ
      | cond c a b =>
        simp only [run] at H
        rw [vc_cond]
        split at H
        · rename_i t h1
          simp only [h1]
          split at H
          · rename_i h2; rw [if_pos h2]; exact ihn _ _ _ _ _ H hQ
          · rename_i h2; rw [if_neg h2]; exact ihn _ _ _ _ _ H hQ
        · cases H
      | block id a =>
        simp only [run] at H
        rw [vc_block]
        cases hra : run P G tb n a s with
        | none => rw [hra] at H; cases H
        | some r1 =>
          obtain ⟨x1, s1⟩ := r1
          rw [hra] at H
          refine ihn _ _ _ _ _ hra ?_
          cases x1 with
          | ext i =>
            simp only at H ⊢
            split at H
            · rename_i hi; cases H; rw [if_pos hi]; exact hQ
            · rename_i hi; cases H; rw [if_neg hi]; exact hQ
          | nrm => cases H; exact hQ
          | ret => cases H; exact hQ
      | loop a =>
        rw [vc_loop]
        let I : St → Nat → Prop := fun s1 k => k ≤ n + 1 ∧ run P G tb k (.loop a) s1 = some (x, s')
        have key : ∀ s1, ∃ m, (∃ k, I s1 k) → I s1 m ∧ ∀ j, I s1 j → m ≤ j := fun s1 => by
          by_cases h : ∃ k, I s1 k
          · obtain ⟨k, hk⟩ := h
            obtain ⟨j, hj⟩ := least_of k hk
            exact ⟨j, fun _ => hj⟩
          · exact ⟨0, fun h' => (h h').elim⟩
        obtain ⟨μ, hμ⟩ : ∃ μ : St → Nat, ∀ s1, (∃ k, I s1 k) → I s1 (μ s1) ∧ ∀ j, I s1 j → μ s1 ≤ j := ⟨fun s1 => Classical.choose (key s1), fun s1 => Classical.choose_spec (key s1)⟩
        refine ⟨fun s1 => ∃ k, I s1 k, μ, ⟨s, Wk.refl, n + 1, Nat.le_refl _, H⟩, fun s1 hs1 => ?_⟩
        obtain ⟨⟨hk1, hk2⟩, hk3⟩ := hμ s1 hs1
        cases hk : μ s1 with
        | zero => rw [hk] at hk2; cases hk2
        | succ m =>
          rw [hk] at hk1 hk2
          simp only [run] at hk2
          cases hra : run P G tb m a s1 with
          | none => rw [hra] at hk2; cases hk2
          | some r1 =>
            obtain ⟨x1, s2⟩ := r1
            rw [hra] at hk2
            refine ih m (by omega) _ _ _ _ _ hra ?_
            cases x1 with
            | nrm =>
              simp only at hk2 ⊢
              have hex : ∃ k, I s2 k := ⟨m, by omega, hk2⟩
              have := (hμ s2 hex).2 m ⟨by omega, hk2⟩
              exact ⟨s2, Wk.refl, hex, by omega⟩
            | ext i => cases hk2; exact hQ
            | ret => cases hk2; exact hQ
      | exit id => simp only [run] at H; cases H; rw [vc_exit]; exact hQ
      | ret => simp only [run] at H; cases H; rw [vc_ret]; exact hQ

/-- A CALL OF PLAIN VALUES, BY RECKONING. -/
theorem Ok.eval (hG : GZ G) (ht : TabOk P tb) (n : Nat) {f : FuncId} {args : List DV} {v : DV} (H : (callE tb (run P G tb n) f args []).map Prod.fst = some v) (h : List Blk) : Ok P G f args h v h := by
  obtain ⟨⟨v1, h1⟩, he, hv⟩ := Option.map_eq_some_iff.1 H
  cases hv
  have := callE_heap _ _ _ _ _ he
  subst this
  have h2 : callE tb (run P G tb n) f args h = some (v1, h) := by
    unfold callE at he ⊢
    repeat' split at he
    all_goals first | (cases he; done) | (simp_all; done)
  exact callE_sound hG ht (run_sound hG ht n) _ _ _ _ _ h2

/-- What is still to be done, by reckoning. -/
def evK (rn : DC → St → Option (DX × St)) : List Fr → DX × St → Option (DX × St)
  | [], r => some r
  | .seq b :: st, (.nrm, s) => match rn b s with
    | some r => evK rn st r
    | none => none
  | .seq _ :: st, r => evK rn st r
  | .blk id :: st, (.ext i, s) => if i = id then evK rn st (.nrm, s) else evK rn st (.ext i, s)
  | .blk _ :: st, r => evK rn st r
theorem evK_sound {n : List Blk} {rn : DC → St → Option (DX × St)} {Q : DX → St → Prop} (hrn : ∀ c s x s' Q, rn c s = some (x, s') → Q x s' → vc P G n c s Q) : ∀ (st : List Fr) (r : DX × St) (x : DX) (s' : St), evK rn st r = some (x, s') → Q x s' → kon0 P G n st Q r.1 r.2
  | [], r, x, s', H, hQ => by
    simp only [evK] at H
    cases H
    exact hQ
  | .seq b :: st, (.nrm, s), x, s', H, hQ => by
    simp only [evK] at H
    split at H
    · rename_i r hr
      rw [kon0_seq_nrm]
      exact hrn _ _ _ _ _ hr (evK_sound hrn st r x s' H hQ)
    · cases H
  | .seq b :: st, (.ret, s), x, s', H, hQ => by
    simp only [evK] at H
    rw [kon0_seq_ret]
    exact evK_sound hrn st _ x s' H hQ
  | .seq b :: st, (.ext i, s), x, s', H, hQ => by
    simp only [evK] at H
    rw [kon0_seq_ext]
    exact evK_sound hrn st _ x s' H hQ
  | .blk id :: st, (.ext i, s), x, s', H, hQ => by
    simp only [evK] at H
    by_cases hi : i = id
    · subst hi
      rw [if_pos rfl] at H
      rw [kon0_blk_same]
      exact evK_sound hrn st _ x s' H hQ
    · rw [if_neg hi] at H
      rw [kon0_blk_ext hi]
      exact evK_sound hrn st _ x s' H hQ
  | .blk id :: st, (.nrm, s), x, s', H, hQ => by
    simp only [evK] at H
    rw [kon0_blk_nrm]
    exact evK_sound hrn st _ x s' H hQ
  | .blk id :: st, (.ret, s), x, s', H, hQ => by
    simp only [evK] at H
    rw [kon0_blk_ret]
    exact evK_sound hrn st _ x s' H hQ

/-- From here on by reckoning: the rest of a function that was called on an empty memory. -/
theorem VV_eval (hG : GZ G) (ht : TabOk P tb) (n : Nat) {c : DC} {s : St} {st : List Fr} {rs : List DR} {v : Value}
    (H : ((run P G tb n c s).bind (evK (run P G tb n) st)).bind (fun r => if r.1 = .ret ∨ r.1 = .nrm then resD r.2.h r.2.t rs else none) = some [.p v]) : VV P G [] c s st (RR [] rs (.p v) []) := by
  obtain ⟨⟨x, s'⟩, h1, h2⟩ := Option.bind_eq_some_iff.1 H
  obtain ⟨⟨x1, s1⟩, h3, h4⟩ := Option.bind_eq_some_iff.1 h1
  simp only at h2
  split at h2
  · rename_i hx
    refine ⟨?_⟩
    rw [VV0]
    have hrn := run_sound hG ht n
    refine hrn _ _ _ _ _ h3 (evK_sound hrn st _ _ _ h4 ?_)
    have key : RR0 [] rs (.p v) [] x s' := by
      rcases hx with rfl | rfl
      · exact ⟨_, h2, WkV.ofPure (by simp) rfl⟩
      · exact ⟨_, h2, WkV.ofPure (by simp) rfl⟩
    exact ⟨key⟩
  · cases h2
end

end Go.Den
