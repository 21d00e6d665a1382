/- The law FnIntSetCode: what the arguments and the variables hold. -/
import Derived.Test.YtppjcnaffphakaaGreatDoorIcC
import Derived.Test.YtppjcnaffphakaaGreatDoorRows
import Derived.Test.YtppjcnaffphakaaGreatDoorLibE
set_option linter.unusedVariables false
set_option linter.unusedSimpArgs false
set_option maxRecDepth 100000
set_option maxHeartbeats 4000000
namespace Go.Proofs.YtppjcnaffphakaaGreatDoor
open Go Go.Den Go.Proofs

theorem gT (W : World) (hL : laidMet Tryz.prog Rows.fnIntSetCodeRow.laid W) : GR (env0 W) GP := by
  intro g
  unfold GP
  split
  · rename_i h
    subst h
    exact ⟨laid_flat (n := "internal/strconv.uint64pow10") (d := Rows.laid_internal_strconv_uint64pow10) (g := 0) (vs := Lib.pow10Tab.map (Value.int .u64)) hL (by simp [Rows.fnIntSetCodeRow]) 9 (by kernel_rfl) (by kernel_rfl) (by kernel_rfl) (by decide) (by kernel_rfl),
      laid_GX (n := "internal/strconv.uint64pow10") (d := Rows.laid_internal_strconv_uint64pow10) (g := 0) (vs := Lib.pow10Tab.map (Value.int .u64)) hL (by simp [Rows.fnIntSetCodeRow]) 9 (by kernel_rfl) (by kernel_rfl) (by kernel_rfl)⟩
  · exact ⟨.any, trivial⟩
theorem shaped_intsB {d : DV} (h : Shaped (.sl 1 (.int .i64)) d) : ∃ l : List Int, d = .fz 1 (ints l) ∧ l.length ≤ maxLen ∧ ∀ n, n ∈ l → I64 n := by
  cases h with
  | @sl _ _ l hl h =>
    have : ∃ l' : List Int, l = ints l' ∧ ∀ n, n ∈ l' → I64 n := by
      clear hl
      induction l with
      | nil => exact ⟨[], rfl, by simp⟩
      | cons d l ih =>
        obtain ⟨l', h1, h2⟩ := ih fun d hd => h d (by simp [hd])
        have h3 := h d (by simp)
        cases h3 with
        | @int _ s hs =>
          have hb : IntKind.i64.min ≤ s ∧ s ≤ IntKind.i64.max := by simpa [Lit.wf] using hs
          refine ⟨s :: l', by simp [ints, h1], fun n hn => ?_⟩
          rcases List.mem_cons.1 hn with rfl | hn
          · exact hb
          · exact h2 n hn
    obtain ⟨l', rfl, h2⟩ := this
    exact ⟨l', rfl, by simpa using hl, h2⟩
theorem fnIntSetCode_walk (d : DV) (ahead : ByteArray) (sd : Shaped (.sl 1 (.int .i64)) d) (hr : ahead.size ≤ 140737488351232) :
    Ok Tryz.prog GP 4 [d, .p (.string ahead)] [] (.p (.bool true)) [] := by
  obtain ⟨a, rfl, h1, h2⟩ := shaped_intsB sd
  rw [txt_of ahead]
  exact ok4 [] a ahead.data.toList h1 h2 (by simpa using hr)
end Go.Proofs.YtppjcnaffphakaaGreatDoor
