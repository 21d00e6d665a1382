/- Faults: the tables of package utf8, as they are listed. -/
import Derived.Test.YtdgnjngbheecnaaDoorFaJ
import Derived.Test.YtdgnjngbheecnaaDoorRows
import Derived.Test.YtdgnjngbheecnaaDoorLibE
set_option linter.unusedVariables false
set_option linter.unusedSimpArgs false
set_option maxRecDepth 100000
namespace Go.Proofs.YtdgnjngbheecnaaDoor
open Go Go.Den Go.Proofs

theorem gT (W : World) (hL : laidMet Tryd.prog Rows.fnProtoFaultRow.laid W) : GR (env0 W) GT := by
  have hacc : VR (env0 W) (.fp accD) (.pointer (some ⟨3, 0, none⟩)) := by
    have := laid_flat (n := "unicode/utf8.acceptRanges") (d := Rows.laid_unicode_utf8_acceptRanges) (g := 3) (vs := accL.flatMap fun p => [Value.int .u8 (p.1 : Int), Value.int .u8 (p.2 : Int)]) hL (.head _) 9 (by kernel_rfl) (by kernel_rfl) (by kernel_rfl) (by simp [accL]) (by kernel_rfl)
    exact this
  intro g
  unfold GT
  split
  · rename_i h
    subst h
    have := laid_flat (n := "unicode/utf8.first") (d := Rows.laid_unicode_utf8_first) (g := 2) (vs := Go.Pinned.utf8FirstZ.map fun n : Nat => Value.int .u8 (n : Int)) hL (.tail _ (.head _)) 9 (by kernel_rfl) (by kernel_rfl) (by kernel_rfl) (by simp [← List.length_pos_iff, first_len]) (by kernel_rfl)
    rw [List.map_map] at this
    exact this
  · split
    · rename_i h
      subst h
      exact hacc
    · split
      · rename_i h
        subst h
        have hro : RO (env0 W) 3 := by
          cases hacc with
          | fp v0 hs hr hv hc => exact hr
        refine .fp (.agg #[]) rfl ⟨Nat.lt_trans (by decide : 1 < 3) hro.1, fun b q hk => absurd rfl hk⟩ (.agg rfl (fun i hi => absurd hi (by simp)) fun i hi => absurd hi (by simp)) fun k hk => absurd hk (by simp [Value.cells])
      · exact .any
end Go.Proofs.YtdgnjngbheecnaaDoor
