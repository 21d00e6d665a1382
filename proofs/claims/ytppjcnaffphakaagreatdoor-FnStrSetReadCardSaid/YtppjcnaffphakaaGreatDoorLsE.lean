/- The law FnStrSetRead: what the arguments and the variables hold. -/
import Derived.Test.YtppjcnaffphakaaGreatDoorLsD
import Derived.Test.YtppjcnaffphakaaGreatDoorRows
import Derived.Test.YtppjcnaffphakaaGreatDoorLibE
set_option linter.unusedVariables false
set_option linter.unusedSimpArgs false
set_option maxRecDepth 100000
set_option maxHeartbeats 4000000
namespace Go.Proofs.YtppjcnaffphakaaGreatDoor
open Go Go.Den Go.Proofs

/-- No variable is read. -/
def GT : Nat → DV := fun _ => .any
theorem gzT : GZ GT := fun g => .any
theorem gT (W : World) (hL : laidMet Tryz.prog Rows.fnStrSetReadRow.laid W) : GR (env0 W) GT := fun g => ⟨.any, trivial⟩
theorem fnStrSetRead_walk (j : Bool) (d : DV) (ways : Int) (rest : ByteArray) (cut : Int) (sd : Shaped (.sl 1 .str) d) (hw : (Lit.int IntKind.u16 ways).wf = true) (hr : rest.size ≤ 140737488351232) (hc : (Lit.int IntKind.u8 cut).wf = true) :
    Ok Tryz.prog GT 3 [.p (.bool j), d, .p (.int .u16 ways), .p (.string rest), .p (.int .u8 cut)] [] (.p (.bool true)) [] := by
  obtain ⟨a, rfl, h1, h2⟩ := sd.strs
  have b1 : IntKind.u16.min ≤ ways ∧ ways ≤ IntKind.u16.max := by simpa [Lit.wf] using hw
  have b2 : IntKind.u8.min ≤ cut ∧ cut ≤ IntKind.u8.max := by simpa [Lit.wf] using hc
  rw [show IntKind.u16.min = 0 from rfl, show IntKind.u16.max = 65535 from rfl] at b1
  rw [show IntKind.u8.min = 0 from rfl, show IntKind.u8.max = 255 from rfl] at b2
  obtain ⟨w, rfl⟩ := Int.eq_ofNat_of_zero_le b1.1
  obtain ⟨c, rfl⟩ := Int.eq_ofNat_of_zero_le b2.1
  rw [txt_of rest]
  exact ok3 gzT [] j a w c rest.data.toList (by omega) (by omega) h1 (by simpa using hr)
end Go.Proofs.YtppjcnaffphakaaGreatDoor
