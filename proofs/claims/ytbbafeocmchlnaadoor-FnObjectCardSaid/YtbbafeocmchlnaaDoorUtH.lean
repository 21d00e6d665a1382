/- Objects: the tables of package utf8, as they are listed. -/
import Derived.Test.YtbbafeocmchlnaaDoorUtG
import Derived.Test.YtbbafeocmchlnaaDoorRows
import Derived.Test.YtbbafeocmchlnaaDoorLibE
set_option linter.unusedVariables false
set_option linter.unusedSimpArgs false
set_option maxRecDepth 100000
namespace Go.Proofs.YtbbafeocmchlnaaDoor
open Go Go.Den Go.Proofs

theorem gT (W : World) (hL : laidMet Tryd.prog Rows.fnObjectRow.laid W) : GR (env0 W) GT := by
  intro g
  unfold GT
  split
  · rename_i h
    subst h
    have := laid_flat (n := "unicode/utf8.first") (d := Rows.laid_unicode_utf8_first) (g := 0) (vs := Go.Pinned.utf8FirstZ.map fun n : Nat => Value.int .u8 (n : Int)) hL (.tail _ (.head _)) 9 (by kernel_rfl) (by kernel_rfl) (by kernel_rfl) (by simp [← List.length_pos_iff, first_len]) (by kernel_rfl)
    rw [List.map_map] at this
    exact this
  · split
    · rename_i h
      subst h
      have := laid_flat (n := "unicode/utf8.acceptRanges") (d := Rows.laid_unicode_utf8_acceptRanges) (g := 1) (vs := accL.flatMap fun p => [Value.int .u8 (p.1 : Int), Value.int .u8 (p.2 : Int)]) hL (.head _) 9 (by kernel_rfl) (by kernel_rfl) (by kernel_rfl) (by simp [accL]) (by kernel_rfl)
      exact this
    · exact .any
theorem fnObject_walk (a : ByteArray) (b : Bool) (_ : a.size ≤ 140737488351232) : Ok Tryd.prog GT 4 [.p (.string a), .p (.bool b)] [] (.p (.bool true)) [] := by
  have := ok4 a.data.toList b
  rwa [← txt_of] at this
end Go.Proofs.YtbbafeocmchlnaaDoor
