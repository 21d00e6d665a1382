/- The law FnProtoQuery: whatever the input, it returns true, and the input reads as it did. -/
import Derived.Test.YtdgnjngbheecnaaDoorRows
import Derived.Test.YtdgnjngbheecnaaDoorTie
import Derived.Test.YtdgnjngbheecnaaDoorCards
import Derived.Test.YtdgnjngbheecnaaDoorQlC
import Derived.Test.YtdgnjngbheecnaaDoorLibE
import Derived.WalkKit
import Derived.ProofKit
import Derived.OpenShut
import Derived.ShutString
import Derived.ChangeOld
import Derived.Below
import Derived.SizedLaws
import Derived.Lay
import Derived.LaidOnce
import Derived.Handed
import Derived.MakeChecks
import Derived.SevenTiedAt
import Derived.Carry
import Derived.OpenVars
import Derived.ChangeVars
namespace Go.Proofs.YtdgnjngbheecnaaDoor.fnProtoQuery
open Go.ChangeShapes Go.WideShapes Go.ChangeAt Go.RowKit Go.Den
open Go.ChangeMaps (open_string shut_string)
set_option linter.unusedVariables false
theorem own : ownKnob Tryd.prog.godebug = none := by kernel_rfl
theorem laidOut : laidOutB Tryd.prog = true := by kernel_rfl
set_option maxRecDepth 100000 in
theorem lifted (os : Os) (started : os.Started) (H : Type) (enc : TypeId × Value → H) :
    ReturnsInHanded {} Tryd.checked os 4 .any (fun w args => (Rows.fnProtoQuerySpec.pre enc Tryd.prog Tryd.f4 [] false w args ∧ laidMetH Tryd.prog Rows.fnProtoQueryRow.laid w) ∧ sizedMet enc Tryd.prog Tryd.f4 (OpenSpec.ofChange Rows.fnProtoQuerySpec) false w args) (Rows.fnProtoQuerySpec.post enc Tryd.prog Tryd.f4 false true false false) := by
  refine returnsInHanded_of_change_and (C := Tryd.checked) (X := fun w _ => laidMetH Tryd.prog Rows.fnProtoQueryRow.laid w) (fun _ _ _ hh h => h.of_heap hh) own started (by kernel_rfl) Tryd.func4
    (ChangeSpec.witness_shaped (enc := enc) (C := Tryd.checked) (os := os) (X := fun w _ => laidMetH Tryd.prog Rows.fnProtoQueryRow.laid w) false (World.laidAll Tryd.prog os Rows.fnProtoQueryRow.laid) #[.agg #[.string ByteArray.empty, .string ByteArray.empty, .string ByteArray.empty, .string ByteArray.empty, .string ByteArray.empty, .string ByteArray.empty, .int .u64 0, .int .u64 0, .int .u64 0, .int .u64 0, .slice none 0 0, .slice none 0 0, .bool false, .string ByteArray.empty, .string ByteArray.empty, .string ByteArray.empty, .int .u8 0], .int .u64 0] 8 (World.laidAll_os _ _ _)
      (World.shaped_of_ZipB (by kernel_rfl) (by kernel_rfl)) (by kernel_rfl) (by kernel_rfl) (by kernel_rfl)
      (by rw [MakeChecks.laidMetH_plain _ _ _ (by kernel_rfl)]; exact laidMet_laidAll _ (by kernel_rfl) (by kernel_rfl))) ?_
  intro W base args ds gs before hval0 hW hcnd hsz0 hL _
  rw [MakeChecks.laidMetH_plain _ _ _ (by kernel_rfl)] at hL
  have hsz : (DataW.weightsEach Tryd.prog (Tryd.f4.params.toList ++ Rows.fnProtoQuerySpec.plain.varTypes Tryd.prog) (ds ++ gs)).all (· ≤ reachBytes) = true := hsz0
  have hval : ∀ (j : Nat) t v, Tryd.f4.params[j]? = some t → args[j]? = some v → Value.okWide Tryd.prog W .any base t v := hval0
  have hW' := hW
  obtain ⟨p, q, hA0, hV, rfl, hfz, hnd⟩ := hW
  have hA : DataW.TrodAll enc Tryd.prog W 0 (fun _ => true) true Tryd.f4.params.toList args.toList ds p := hA0
  rw [Tryd.params4] at hA hval hsz
  obtain ⟨v0, vs0, d0, ds0, p0, q0, hargs, rfl, rfl, h0, r0⟩ := trodAll_cons hA
  obtain ⟨v1, vs1, d1, ds1, p1, q1, rfl, rfl, rfl, h1, r1⟩ := trodAll_cons r0
  obtain ⟨rfl, rfl, rfl⟩ := trodAll_nil r1
  obtain rfl : args = #[v0, v1] := by cases args; simp_all
  have hV2 := hV
  obtain ⟨_, _, _, _, gd, _, rfl, _, _, _, _, _⟩ := trodVars_one hV
  have k0 := h0
  have lt0 : ∀ x ∈ p0, x.block < W.heap.size := by
    obtain ⟨m, hm⟩ := k0
    exact DataW.trod_lt m _ _ _ hm
  obtain ⟨a0, w0, y0⟩ := open_arg (m := 9) (sh := pqSh) (by kernel_rfl) (hval 0 40 v0 rfl rfl) h0
  obtain ⟨a1, rfl, rfl, rfl, w1⟩ := open_int Tryd.underlying34 (hval 1 34 v1 rfl rfl) h1
  clear hA0 hval0 hsz0 hsz
  refine (Ok.lawG (protoQuery_walk a0 a1 w0 w1) W [_, _] (gT W hL) ⟨y0, .p rfl, trivial⟩).mono fun e W' ⟨he, bel⟩ => ?_
  subst he
  exact ⟨_, rfl, _, _, _, [], _, _, hW', trodAll_mk1 (shut_bool Tryd.underlying4 _), (trodAll_cons_mk (Below.trod laidOut (by kernel_rfl) (of_decide_eq_true (by kernel_rfl)) k0 bel lt0) (trodAll_cons_mk (shut_int Tryd.underlying34 w1) trodAll_mk0)), Below.trodVars laidOut bel (by kernel_rfl) hV2, bel.frame _, fun h => by cases h⟩
theorem over : Rows.fnProtoQueryRow.holds Tryd.pinned (OpenSpec.ofChange Rows.fnProtoQuerySpec) :=
  OpenClaim.holds_of_wide 4 Tryd.f4 rfl rfl rfl rfl rfl rfl rfl ⟨rfl, rfl, rfl, rfl, rfl⟩ rfl rfl rfl rfl rfl (by kernel_rfl) Tryd.func4 (by kernel_rfl)
    (of_decide_eq_true (by kernel_rfl)) (by unfold Func.isWrapper; first | (rw [if_pos (by decide +kernel)]; kernel_rfl) | (rw [if_neg (by decide +kernel)]; exact ⟨rfl, rfl⟩))
    (fun os started H enc _ => lifted os started H enc)
theorem carded : Rows.FnProtoQueryCardSaid :=
  Claim7.holds_tied_plain_at .later [] [.data] true (true, "8d321e0e739ee3883678724173cd538a3bde06c7488022316335304b0f12ca9b") true
    over (fun _ h => by cases h) (by kernel_rfl) (fun _ h => by cases h) fnProtoQuery_row_tie rfl ⟨rfl, rfl⟩ (by kernel_rfl) rfl
    (fun f fn hf hfn => by
      obtain rfl : f = 4 := Option.some.inj ((show Tryd.prog.funcNamed "given.example/pub-assaymark/laws.FnProtoQuery" = some 4 by kernel_rfl).symm.trans hf) |>.symm
      obtain rfl : fn = Tryd.f4 := (Option.some.inj (Tryd.func4.symm.trans hfn)).symm
      exact ⟨by kernel_rfl, fun j t ht => by
        rw [Tryd.params4] at ht
        have hm : t ∈ [40, 34] := by simpa using Array.mem_of_getElem? ht
        have hall : ([40, 34].all fun u => !Tryd.prog.wantsStandIn u) = true := by kernel_rfl
        exact (show Tryd.prog.wantsStandIn t = false by simpa using List.all_eq_true.1 hall t hm)⟩)
    (by kernel_rfl)
end Go.Proofs.YtdgnjngbheecnaaDoor.fnProtoQuery
namespace Go.Proofs.YtdgnjngbheecnaaDoor
/-- The card, under a short name, for the claim. -/
theorem fnProtoQuery_holds : Rows.FnProtoQueryCardSaid := fnProtoQuery.carded
end Go.Proofs.YtdgnjngbheecnaaDoor
