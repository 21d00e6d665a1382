/- Checksums: their kinds. -/
import Derived.Test.YtdgnjngbheecnaaCodB
import Derived.Test.YtdgnjngbheecnaaLibE
set_option linter.unusedVariables false
set_option linter.unusedSimpArgs false
set_option maxRecDepth 100000
namespace Go.Proofs.Ytdgnjngbheecnaa
open Go Go.Den Go.Proofs

/-- What the variables hold: the first is of no size. -/
def GB (g : Nat) : DV := if g = 0 then .p (.pointer (some ⟨0, 0, none⟩)) else .any
theorem gzB : GZ GB := fun g => by unfold GB; split; exact .p; exact .any
theorem gB (W : World) : GR (env0 W) GB := fun g => by
  unfold GB
  split
  · rename_i h
    subst h
    exact .p rfl
  · exact .any
def sumLen (k : Nat) : Nat := [32, 20, 4, 4, 8, 16, 64, 8, 8, 16].getD k 0
theorem ten {p : Nat → Prop} (h0 : p 0) (h1 : p 1) (h2 : p 2) (h3 : p 3) (h4 : p 4) (h5 : p 5) (h6 : p 6) (h7 : p 7) (h8 : p 8) (h9 : p 9) (k : Nat) (hk : k < 10) : p k := by
  match k, hk with
  | 0, _ => exact h0
  | 1, _ => exact h1
  | 2, _ => exact h2
  | 3, _ => exact h3
  | 4, _ => exact h4
  | 5, _ => exact h5
  | 6, _ => exact h6
  | 7, _ => exact h7
  | 8, _ => exact h8
  | 9, _ => exact h9
theorem ok45 (k : Nat) (hk : k < 10) (h : List Blk) : Ok Try.prog GB 45 [.p (.int .i64 k)] h (.p (.int .u32 (2 ^ k : Nat))) h := by
  refine ten (p := fun k => ∀ h, Ok Try.prog GB 45 [.p (.int .i64 k)] h (.p (.int .u32 (2 ^ k : Nat))) h) ?_ ?_ ?_ ?_ ?_ ?_ ?_ ?_ ?_ ?_ k hk h
  all_goals exact fun h => Ok.eval gzB tab_ok 40 (by kernel_rfl) h
theorem ok106 (k : Nat) (hk : k < 10) (h : List Blk) : Ok Try.prog GB 106 [.p (.int .u32 (2 ^ k : Nat))] h (.p (.bool true)) h := by
  refine ten (p := fun k => ∀ h, Ok Try.prog GB 106 [.p (.int .u32 (2 ^ k : Nat))] h (.p (.bool true)) h) ?_ ?_ ?_ ?_ ?_ ?_ ?_ ?_ ?_ ?_ k hk h
  all_goals exact fun h => Ok.eval gzB tab_ok 40 (by kernel_rfl) h
theorem ok106z (h : List Blk) : Ok Try.prog GB 106 [.p (.int .u32 0)] h (.p (.bool false)) h := Ok.eval gzB tab_ok 40 (by kernel_rfl) h
theorem ok107 (k : Nat) (hk : k < 10) (h : List Blk) : Ok Try.prog GB 107 [.p (.int .u32 (2 ^ k : Nat))] h (.p (.int .i64 (sumLen k))) h := by
  refine ten (p := fun k => ∀ h, Ok Try.prog GB 107 [.p (.int .u32 (2 ^ k : Nat))] h (.p (.int .i64 (sumLen k))) h) ?_ ?_ ?_ ?_ ?_ ?_ ?_ ?_ ?_ ?_ k hk h
  all_goals exact fun h => Ok.eval gzB tab_ok 40 (by kernel_rfl) h
theorem ok20 (k : Nat) (hk : k < 10) (h : List Blk) : Ok Try.prog GB 20 [.p (.int .i64 k)] h (.p (.int .i64 (sumLen k))) h := by
  refine ten (p := fun k => ∀ h, Ok Try.prog GB 20 [.p (.int .i64 k)] h (.p (.int .i64 (sumLen k))) h) ?_ ?_ ?_ ?_ ?_ ?_ ?_ ?_ ?_ ?_ k hk h
  all_goals exact fun h => Ok.eval gzB tab_ok 40 (by kernel_rfl) h
end Go.Proofs.Ytdgnjngbheecnaa
