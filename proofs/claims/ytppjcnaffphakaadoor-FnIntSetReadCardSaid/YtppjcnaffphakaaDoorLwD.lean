/- The law FnIntSetRead: what the arguments and the variables hold. -/
import Derived.Test.YtppjcnaffphakaaDoorLwC
import Derived.Test.YtppjcnaffphakaaDoorRows
import Derived.Test.YtppjcnaffphakaaDoorLibE
set_option linter.unusedVariables false
set_option linter.unusedSimpArgs false
set_option maxRecDepth 100000
set_option maxHeartbeats 4000000
namespace Go.Proofs.YtppjcnaffphakaaDoor
open Go Go.Den Go.Proofs

theorem gT (W : World) (hL : laidMet Tryd.prog Rows.fnIntSetReadRow.laid W) : GR (env0 W) GT := by
  intro g
  unfold GT
  split
  · rename_i h
    subst h
    exact ⟨laid_flat (n := "internal/strconv.uint64pow10") (d := Rows.laid_internal_strconv_uint64pow10) (g := 0) (vs := Lib.pow10Tab.map (Value.int .u64)) hL (by simp [Rows.fnIntSetReadRow]) 9 (by kernel_rfl) (by kernel_rfl) (by kernel_rfl) (by decide) (by kernel_rfl),
      laid_GX (n := "internal/strconv.uint64pow10") (d := Rows.laid_internal_strconv_uint64pow10) (g := 0) (vs := Lib.pow10Tab.map (Value.int .u64)) hL (by simp [Rows.fnIntSetReadRow]) 9 (by kernel_rfl) (by kernel_rfl) (by kernel_rfl)⟩
  · exact ⟨.any, trivial⟩
theorem shaped_intsB {d : DV} (h : Shaped (.sl 1 (.int .i64)) d) : ∃ l : List Int, d = .fz 1 (ints l) ∧ l.length ≤ maxLen ∧ ∀ n, n ∈ l → I64 n := by
  cases h with
  | @sl _ _ l hl h =>
    have : ∃ l' : List Int, l = ints l' ∧ ∀ n, n ∈ l' → I64 n := by
      clear hl
      induction l with
      | nil => exact ⟨[], rfl, by simp⟩
      | cons d l ih =>
        obtain ⟨l', h1, h2⟩ := ih fun d hd => h d (by simp [hd])
        have h3 := h d (by simp)
        cases h3 with
        | @int _ s hs =>
          have hb : IntKind.i64.min ≤ s ∧ s ≤ IntKind.i64.max := by simpa [Lit.wf] using hs
          refine ⟨s :: l', by simp [ints, h1], fun n hn => ?_⟩
          rcases List.mem_cons.1 hn with rfl | hn
          · exact hb
          · exact h2 n hn
    obtain ⟨l', rfl, h2⟩ := this
    exact ⟨l', rfl, by simpa using hl, h2⟩
theorem fnIntSetRead_walk (j : Bool) (d : DV) (ways : Int) (rest : ByteArray) (cut : Int) (sd : Shaped (.sl 1 (.int .i64)) d) (hw : (Lit.int IntKind.u16 ways).wf = true) (hr : rest.size ≤ 140737488351232) (hc : (Lit.int IntKind.u8 cut).wf = true) :
    Ok Tryd.prog GT 3 [.p (.bool j), d, .p (.int .u16 ways), .p (.string rest), .p (.int .u8 cut)] [] (.p (.bool true)) [] := by
  obtain ⟨a, rfl, h1, h2⟩ := shaped_intsB sd
  have b1 : IntKind.u16.min ≤ ways ∧ ways ≤ IntKind.u16.max := by simpa [Lit.wf] using hw
  have b2 : IntKind.u8.min ≤ cut ∧ cut ≤ IntKind.u8.max := by simpa [Lit.wf] using hc
  rw [show IntKind.u16.min = 0 from rfl, show IntKind.u16.max = 65535 from rfl] at b1
  rw [show IntKind.u8.min = 0 from rfl, show IntKind.u8.max = 255 from rfl] at b2
  obtain ⟨w, rfl⟩ := Int.eq_ofNat_of_zero_le b1.1
  obtain ⟨c, rfl⟩ := Int.eq_ofNat_of_zero_le b2.1
  rw [txt_of rest]
  exact ok3 [] j a w c rest.data.toList (by omega) (by omega) h1 h2 (by simpa using hr)
end Go.Proofs.YtppjcnaffphakaaDoor
