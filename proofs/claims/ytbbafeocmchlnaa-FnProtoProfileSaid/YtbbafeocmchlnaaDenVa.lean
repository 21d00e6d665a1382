/- The library: contracts of functions over denoted values (V). -/
import Derived.Test.YtbbafeocmchlnaaDenV
set_option linter.unusedVariables false
set_option linter.unusedSimpArgs false
set_option linter.unusedSectionVars false
set_option linter.unnecessarySimpa false
namespace Go.Den
open Go

/-- A function that puts off a call: what comes ahead, the region up to the putting off, the call, the rest. -/
structure DfC where
  a : DC
  init : List DOper
  dst : Option Nat
  f : FuncId
  args : List Opd
  rest : DC

def cDefOp (P : Program) (o : Oper) : Option (FuncId × List Opd) :=
  match o.op, o.guard with
  | .defer c, none => match c.callee with
    | .value (.func f) => if cFunc P f = true then some (f, c.args.toList.map cOpd) else none
    | _ => none
  | _, _ => none
def cDef (P : Program) : Code → Option DfC
  | .seq a (.seq (.region _ ops false) rest) => match ops.toList.getLast? with
    | some o => match cDefOp P o, cCode P a, cOps P ops ops.toList.dropLast, cCode P rest with
      | some (f, args), some da, some dl, some dr => some ⟨da, dl.map DOper.rel, o.dst, f, args, dr⟩
      | _, _, _, _ => none
    | none => none
  | _ => none

section
variable {P : Program} {G : Nat → DV}

/-- THE CONTRACT OF A FUNCTION THAT PUTS OFF A CALL. -/
theorem OkR_of_defer {f : FuncId} {fn : Func} {d : DfC} {rs : List DR} (hf : P.funcs[f]? = some fn) (hc : fn.body.bind (cDef P) = some d) (hrs : cRes P fn.results.toList = some rs) {args : List DV} {h : List Blk} {R : DV → List Blk → Prop} (n : Nat) (hn : fn.ntmps = args.length + n)
    (H : vc P G h (.seq d.a (.rg d.init)) ⟨args ++ List.replicate n .any, h⟩ fun x s1 => match x with
      | .nrm => (∀ y, y ∈ d.args → WF (· < h.length) (y.ev G s1.t)) ∧ vc P G h d.rest (s1.put d.dst (.tup []) s1.h) fun x s2 => match x with
        | .nrm | .ret => ∃ R', OkD P G d.f (d.args.map (Opd.ev G s1.t)) s2.h R' ∧ ∀ v1 h2, R' v1 h2 → ∃ ds, resD h2 s2.t rs = some ds ∧ ∃ v h', WkV h (mkRes ds) h2 v h' ∧ R v h'
        | _ => False
      | _ => False) : OkR P G f args h R := by
  cases hb : fn.body with
  | none => rw [hb] at hc; cases hc
  | some c =>
  rw [hb] at hc
  simp only [Option.bind_some] at hc
  unfold cDef at hc
  split at hc
  case h_2 => cases hc
  rename_i ca id ops rest
  split at hc
  case h_2 => cases hc
  rename_i o hlast
  split at hc
  case h_2 => cases hc
  rename_i df dargs da dl dr hdo hca hcl hcr
  cases hc
  intro e w vs he hH hr hg ht
  refine calls_of_wp_defers hf hb ?_
  have hw : HWF h := by rw [← he]; exact hr.hwf
  obtain ⟨n', hn'⟩ : ∃ n', n' = fn.ntmps - vs.size := ⟨_, rfl⟩
  have hnn : n' = n := by rw [hn', ← ht.1, hn]; omega
  have hrel : RelE G [] h.length e w e ⟨args ++ List.replicate n .any, h⟩ { tmps := vs ++ Array.replicate (fn.ntmps - vs.size) undef, defers := [] } w := by
    refine ⟨⟨he, hH, hr, hg, ⟨by simp [ht.1, ← hn', hnn], fun i hi hi' => ?_⟩, rfl⟩, by rw [← he]; exact Ev.refl e, WS.refl w, by rw [he]; exact Nat.le_refl _⟩
    by_cases hia : i < args.length
    · have := ht.2 i hia (ht.1 ▸ hia)
      simp only [List.getElem_append_left hia]
      rw [Array.getElem_append_left (ht.1 ▸ hia)]
      exact this
    · simp only [List.getElem_append_right (Nat.le_of_not_lt hia), List.getElem_replicate]
      exact .any
  rw [vc_seq] at H
  -- what comes ahead
  refine wp_seq (wp_mono (vc_sound hw ca da hca _ e _ _ w hrel H) fun ex a1 w1 hq => ?_)
  cases ex with
  | exit i => obtain ⟨e1, s1, hr1, hq⟩ := hq; exact hq.elim
  | ret => obtain ⟨e1, s1, hr1, hq⟩ := hq; exact hq.elim
  | normal =>
    obtain ⟨e1, s1, hr1, hq⟩ := hq
    simp only [vc_rg] at hq
    have hne : ops.toList ≠ [] := fun h => by rw [h] at hlast; cases hlast
    have hsize : ops.size = ops.toList.dropLast.length + 1 := by
      have := List.length_pos_iff.2 hne
      simp at this ⊢
      omega
    have hsplit : ops.toList = ops.toList.dropLast ++ [o] := by
      have h1 := List.dropLast_concat_getLast hne
      rw [List.getLast?_eq_some_getLast hne] at hlast
      rw [← Option.some.inj hlast]
      exact h1.symm
    have hoi : ops[ops.toList.dropLast.length]? = some o := by
      have : ops.toList[ops.toList.dropLast.length]? = some o := by
        conv => lhs; rw [hsplit]
        simp
      simpa using this
    refine wp_seq (wp_region ?_)
    rw [List.range_eq_range', hsize, show List.range' 0 (ops.toList.dropLast.length + 1) = List.range' 0 ops.toList.dropLast.length ++ [ops.toList.dropLast.length] by rw [List.range'_concat]; simp]
    refine vcL_soundT [ops.toList.dropLast.length] ops.toList.dropLast dl 0 hcl (fun j hj => ?_) e1 s1 a1 w1 hr1 hq fun e2 s2 a2 w2 hr2 hq2 => ?_
    · have : ops.toList[j]? = ops.toList.dropLast[j]? := by
        conv => lhs; rw [hsplit]
        rw [List.getElem?_append_left hj]
      rw [← this]
      simp
    · -- the putting off
      simp only [wpOps, hoi]
      unfold cDefOp at hdo
      split at hdo
      case h_2 => cases hdo
      rename_i cc hop hgd
      split at hdo
      case h_2 => cases hdo
      rename_i fd hcal
      split at hdo
      case isFalse => cases hdo
      rename_i hcf
      cases hdo
      rw [if_pos (by simp [Region.wanted, hgd])]
      left
      obtain ⟨callee, cargs, cats⟩ := cc
      simp only at hcal
      subst hcal
      have hex : (execOp a2.eval o).run P w2 = .ok (.defer ⟨.fn (.func df) #[], cargs.map a2.eval⟩) w2 := by
        simp only [execOp, hop, resolve, Act.eval, Deferred.ofValue, Sem.run_bind, Sem.run_pure, Result.andThen_ok]
        simp
      unfold Oper.wp
      rw [hex, Oper.upon_defer]
      obtain ⟨hwf, hrest⟩ := hq2
      have hdf := hr2.r.df
      have hr3 : RelE G [⟨.fn (.func df) #[], cargs.map a2.eval⟩] h.length e2 w2 e2 (s2.put o.dst (.tup []) s2.h) ({ a2 with defers := ⟨.fn (.func df) #[], cargs.map a2.eval⟩ :: a2.defers }.put o.dst undef) w2 := by
        refine ⟨⟨?_, hr2.r.H, hr2.r.hr, hr2.r.gr, ?_, ?_⟩, Ev.refl' e2 hr2.ev.len, WS.refl w2, hr2.ev.len⟩
        · rw [hr2.r.h]; cases o.dst <;> rfl
        · have := TR.put (s := s2) (a := { a2 with defers := ⟨.fn (.func df) #[], cargs.map a2.eval⟩ :: a2.defers }) hr2.r.tr o.dst vr_undef s2.h
          exact this
        · cases o.dst <;> simp [Act.put, hdf]
      have hdv : TR e2 ((cargs.toList.map cOpd).map (Opd.ev G s2.t)) (cargs.map a2.eval) := by
        have := tr_map hr2.r.gr hr2.r.tr cargs.toList
        simpa [← Array.toList_map] using this
      refine wp_mono (vc_sound hw rest dr hcr _ e2 _ _ w2 hr3 hrest) fun ex a4 w4 hq => ?_
      have fin : ∀ e4 s4, RelE G [⟨.fn (.func df) #[], cargs.map a2.eval⟩] h.length e2 w2 e4 s4 a4 w4 → (∃ R', OkD P G df ((cargs.toList.map cOpd).map (Opd.ev G s2.t)) s4.h R' ∧ ∀ v1 h2, R' v1 h2 → ∃ ds, resD h2 s4.t rs = some ds ∧ ∃ v h', WkV h (mkRes ds) h2 v h' ∧ R v h') →
          Leaves P fn a4.tmps (fun en w' => ∃ v' e' v h', en = .returned v' ∧ e'.H = w'.heap ∧ e'.h = h' ∧ WS w w' ∧ HR e' ∧ VR e' v v' ∧ Ev e.h.length e e' ∧ R v h') a4.defers .returning w4 := by
        rintro e4 s4 hr4 ⟨R', hok, hR'⟩
        rw [hr4.r.df]
        have hdv4 : TR e4 ((cargs.toList.map cOpd).map (Opd.ev G s2.t)) (cargs.map a2.eval) := by
          refine ⟨hdv.1, fun i hi hi' => ?_⟩
          refine (hdv.2 i hi hi').gen hr4.ev.toB ?_
          simp only [List.getElem_map]
          exact hwf _ (List.mem_map.2 ⟨_, List.getElem_mem _, rfl⟩)
        have hcall := hok e4 w4 (cargs.map a2.eval) hr4.r.h hr4.r.H hr4.r.hr hr4.r.gr hdv4
        have hinv : (invoke (.fn (.func df) #[]) (cargs.map a2.eval)).run P w4 = .ok (.enter df (cargs.map a2.eval)) w4 := by
          unfold cFunc at hcf
          split at hcf
          · rename_i fn2 hfn2
            simp only [Bool.and_eq_true, Bool.not_eq_true', beq_eq_false_iff_ne] at hcf
            simp only [invoke, callFunc, Sem.run_bind, Sem.run_pure, Result.andThen_ok, run_program, hfn2]
            have h2 : fn2.body.isNone = false := by simp [Option.isNone_iff_eq_none, ← Option.isSome_iff_ne_none, hcf.1]
            rw [if_neg (by simpa using hcf.2), if_neg (by rw [h2]; simp)]
            simp
          · cases hcf
        refine leaves_cons (by simp) hinv (hcall.mono ?_)
        rintro en u' w' ⟨rfl, v', e5, v1, h2, rfl, g1, g2, g3, g4, g5, g6, g7⟩
        obtain ⟨ds, hds, v, h', hwk, hR⟩ := hR' v1 h2 g7
        have hr5 : RelS G [⟨.fn (.func df) #[], cargs.map a2.eval⟩] e5 ⟨s4.t, h2⟩ a4 w' := ⟨g2, g1, g4, hr4.r.gr.mono g6, hr4.r.tr.mono g6, hr4.r.df⟩
        obtain ⟨us, k1, k2, k3⟩ := run_res (P := P) hr5 fn.results.toList rs ds hrs hds
        have hres : (results fn a4.tmps).run P w' = .ok (if h : us.toArray.size = 1 then us.toArray[0] else .tuple us.toArray) w' := by
          unfold results
          rw [Array.mapM_eq_mapM_toList]
          rw [Sem.run_bind, Sem.run_map]
          erw [k1]
          rfl
        have hv : VR e5 (mkRes ds) (if h : us.toArray.size = 1 then us.toArray[0] else .tuple us.toArray) := by
          match ds, us, k2, k3 with
          | [d], [u], _, h3 => simpa [mkRes] using h3 0 (by simp) (by simp)
          | [], [], _, _ => exact .tup (by simp) (fun i hi => by simp at hi)
          | d1 :: d2 :: dr, u1 :: u2 :: ur, h2, h3 =>
            rw [dif_neg (by simp)]
            exact .tup (by simpa using h2) (fun i hi hi' => by simpa using h3 i hi (by simpa using hi'))
        have ev05 : Ev h.length e e5 := (hr2.ev.trans hr4.ev (Nat.le_refl _)).trans g6 hr4.ev.len
        obtain ⟨e6, m1, m2, m3, m4, m5⟩ := hwk hw e5 _ g2 g4 hv (by rw [← g2]; exact ev05.len)
        refine ⟨_, hres, _, e6, v, h', rfl, by rw [m2]; exact g1, m1, (hr2.ws.trans hr4.ws).trans g3, m3, m4, ?_, hR⟩
        rw [he]
        exact ev05.trans m5 (Nat.le_refl _)
      cases ex with
      | normal => obtain ⟨e4, s4, hr4, hq4⟩ := hq; exact fin e4 s4 hr4 hq4
      | ret => obtain ⟨e4, s4, hr4, hq4⟩ := hq; exact fin e4 s4 hr4 hq4
      | exit i => obtain ⟨e4, s4, hr4, hq4⟩ := hq; exact hq4.elim
      | _ => exact hq.elim
  | _ => exact hq.elim
end
end Go.Den
