/- The law FnObject: whatever the input, it returns true, and the input reads as it did. -/
import Derived.Test.YtbbafeocmchlnaaDoorRows
import Derived.Test.YtbbafeocmchlnaaDoorTie
import Derived.Test.YtbbafeocmchlnaaDoorCards
import Derived.Test.YtbbafeocmchlnaaDoorUtH
import Derived.Test.YtbbafeocmchlnaaDoorLibE
import Derived.WalkKit
import Derived.ProofKit
import Derived.OpenShut
import Derived.ShutString
import Derived.ChangeOld
import Derived.Below
import Derived.SizedLaws
import Derived.Lay
import Derived.LaidOnce
import Derived.Handed
import Derived.MakeChecks
import Derived.SevenTiedAt
namespace Go.Proofs.YtbbafeocmchlnaaDoor.fnObject
open Go.ChangeShapes Go.WideShapes Go.ChangeAt Go.RowKit Go.Den
open Go.ChangeMaps (open_string shut_string)
set_option linter.unusedVariables false
theorem own : ownKnob Tryd.prog.godebug = none := by kernel_rfl
set_option maxRecDepth 100000 in
theorem lifted (os : Os) (started : os.Started) (H : Type) (enc : TypeId × Value → H) :
    ReturnsInHanded {} Tryd.checked os 4 .any (fun w args => (Rows.fnObjectSpec.pre enc Tryd.prog Tryd.f4 [] false w args ∧ laidMetH Tryd.prog Rows.fnObjectRow.laid w) ∧ sizedMet enc Tryd.prog Tryd.f4 (OpenSpec.ofChange Rows.fnObjectSpec) false w args) (Rows.fnObjectSpec.post enc Tryd.prog Tryd.f4 false true false false) := by
  refine returnsInHanded_of_change_and (C := Tryd.checked) (X := fun w _ => laidMetH Tryd.prog Rows.fnObjectRow.laid w) (fun _ _ _ hh h => h.of_heap hh) own started (by kernel_rfl) Tryd.func4
    (ChangeSpec.witness_shaped (enc := enc) (C := Tryd.checked) (os := os) (X := fun w _ => laidMetH Tryd.prog Rows.fnObjectRow.laid w) false (World.laidAll Tryd.prog os Rows.fnObjectRow.laid) #[.string ByteArray.empty, .bool false] 8 (World.laidAll_os _ _ _)
      (World.shaped_of_ZipB (by kernel_rfl) (by kernel_rfl)) (by kernel_rfl) (by kernel_rfl) (by kernel_rfl)
      (by rw [MakeChecks.laidMetH_plain _ _ _ (by kernel_rfl)]; exact laidMet_laidAll _ (by kernel_rfl) (by kernel_rfl))) ?_
  intro W base args ds gs before hval0 hW hcnd hsz0 hL _
  rw [MakeChecks.laidMetH_plain _ _ _ (by kernel_rfl)] at hL
  have hsz : (DataW.weightsEach Tryd.prog (Tryd.f4.params.toList ++ Rows.fnObjectSpec.plain.varTypes Tryd.prog) (ds ++ gs)).all (· ≤ reachBytes) = true := hsz0
  have hval : ∀ (j : Nat) t v, Tryd.f4.params[j]? = some t → args[j]? = some v → Value.okWide Tryd.prog W .any base t v := hval0
  have hW' := hW
  obtain ⟨p, q, hA0, hV, rfl, hfz, hnd⟩ := hW
  have hA : DataW.TrodAll enc Tryd.prog W 0 (fun _ => true) true Tryd.f4.params.toList args.toList ds p := hA0
  rw [Tryd.params4] at hA hval hsz
  obtain ⟨v0, vs0, d0, ds0, p0, q0, hargs, rfl, rfl, h0, r0⟩ := trodAll_cons hA
  obtain ⟨v1, vs1, d1, ds1, p1, q1, rfl, rfl, rfl, h1, r1⟩ := trodAll_cons r0
  obtain ⟨rfl, rfl, rfl⟩ := trodAll_nil r1
  obtain rfl : args = #[v0, v1] := by cases args; simp_all
  obtain ⟨rfl, rfl⟩ := trodVars_none hV
  obtain ⟨a0, rfl, rfl, rfl, y0⟩ := open_string Tryd.underlying9 (hval 0 9 v0 rfl rfl) h0
  have w0 : a0.size ≤ 140737488351232 := by
    have z := sized_string hsz (j := 0) (t := 9) rfl rfl
    rw [Array.length_toList] at z
    exact z
  obtain ⟨a1, rfl, rfl, rfl⟩ := open_bool Tryd.underlying4 (hval 1 4 v1 rfl rfl) h1
  clear hA0 hval0 hsz0 hsz
  refine (Ok.lawG (fnObject_walk a0 a1 w0) W [_, _] (gT W hL) ⟨.p rfl, .p rfl, trivial⟩).mono fun e W' ⟨he, bel⟩ => ?_
  subst he
  exact ⟨_, rfl, _, _, _, [], _, [], hW', trodAll_mk1 (shut_bool Tryd.underlying4 _), (trodAll_cons_mk (shut_string Tryd.underlying9 y0) (trodAll_cons_mk (shut_bool Tryd.underlying4 _) trodAll_mk0)), rfl, bel.frame _, fun h => by cases h⟩
theorem over : Rows.fnObjectRow.holds Tryd.pinned (OpenSpec.ofChange Rows.fnObjectSpec) :=
  OpenClaim.holds_of_wide 4 Tryd.f4 rfl rfl rfl rfl rfl rfl rfl ⟨rfl, rfl, rfl, rfl, rfl⟩ rfl rfl rfl rfl rfl (by kernel_rfl) Tryd.func4 (by kernel_rfl)
    (of_decide_eq_true (by kernel_rfl)) (by unfold Func.isWrapper; first | (rw [if_pos (by decide +kernel)]; kernel_rfl) | (rw [if_neg (by decide +kernel)]; exact ⟨rfl, rfl⟩))
    (fun os started H enc _ => lifted os started H enc)
theorem carded : Rows.FnObjectCardSaid :=
  Claim7.holds_tied_plain_at .later [] [.data, .pinned] true (true, "99e6e75621ee693ba38e5f51b20028d89355660228ee4cb365f689c70c876439") false
    over (fun _ h => by cases h) (by kernel_rfl) (fun _ h => by cases h) fnObject_row_tie rfl ⟨rfl, rfl⟩ (by kernel_rfl) rfl
    (fun f fn hf hfn => by
      obtain rfl : f = 4 := Option.some.inj ((show Tryd.prog.funcNamed "given.example/pub-assaymark/laws.FnObject" = some 4 by kernel_rfl).symm.trans hf) |>.symm
      obtain rfl : fn = Tryd.f4 := (Option.some.inj (Tryd.func4.symm.trans hfn)).symm
      exact ⟨by kernel_rfl, fun j t ht => by
        rw [Tryd.params4] at ht
        have hm : t ∈ [9, 4] := by simpa using Array.mem_of_getElem? ht
        have hall : ([9, 4].all fun u => !Tryd.prog.wantsStandIn u) = true := by kernel_rfl
        exact (show Tryd.prog.wantsStandIn t = false by simpa using List.all_eq_true.1 hall t hm)⟩)
    (by kernel_rfl)
end Go.Proofs.YtbbafeocmchlnaaDoor.fnObject
namespace Go.Proofs.YtbbafeocmchlnaaDoor
/-- The card, under a short name, for the claim. -/
theorem fnObject_holds : Rows.FnObjectCardSaid := fnObject.carded
end Go.Proofs.YtbbafeocmchlnaaDoor
