/- The library: contracts of functions over denoted values (X). -/
import Derived.Test.YtbbafeocmchlnaaDenW
set_option linter.unusedVariables false
set_option linter.unusedSimpArgs false
set_option linter.unusedSectionVars false
set_option linter.unnecessarySimpa false
namespace Go.Den
open Go

/-- Values one by one. -/
def VRs (e : Env) : List DV → List Value → Prop
  | [], [] => True
  | d :: ds, v :: vs => VR e d v ∧ VRs e ds vs
  | _, _ => False

theorem VRs.tr {e : Env} : ∀ (ds : List DV) (vs : List Value), VRs e ds vs → TR e ds vs.toArray
  | [], [], _ => ⟨rfl, fun i hi => absurd hi (by simp)⟩
  | d :: ds, v :: vs, h => by
    obtain ⟨h1, h2⟩ := VRs.tr ds vs h.2
    refine ⟨by simpa using h1, fun i hi hi' => ?_⟩
    cases i with
    | zero => simpa using h.1
    | succ i =>
      have := h2 i (by simpa using hi) (by simpa using hi')
      simpa using this
  | [], _ :: _, h => h.elim
  | _ :: _, [], h => h.elim

/-- The call of a law that returns a plain value. -/
theorem Ok.lawP {P : Program} {f : FuncId} {args : List DV} {v : Value} (h : Ok P (fun _ => .any) f args [] (.p v) []) (w : World) (vs : List Value) (ht : VRs ⟨fun _ => none, [], w.heap⟩ args vs) :
    Calls P f vs.toArray w fun en w' => en = .returned v ∧ Go.RowKit.Below w.heap.size w w' := by
  refine (Ok.law h w vs.toArray ht.tr).mono fun en w' ⟨⟨v', e', h1, h2⟩, h3⟩ => ⟨?_, h3⟩
  cases h2
  exact h1

end Go.Den
