/- The table of the codes (printed by gen.py .. TAB). -/
import Derived.Test.YthkgekkpnldbmaaNfP
set_option linter.unusedVariables false
set_option linter.unusedSimpArgs false
set_option maxRecDepth 100000
set_option maxHeartbeats 4000000
namespace Go.Proofs.Ythkgekkpnldbmaa
open Go Go.Den Go.Proofs


def tab : Tab := fun f => match f with
  | 4 => some (c4, r4, 18)
  | 5 => some (c5, r5, 21)
  | 6 => some (c6, r6, 127)
  | 7 => some (c7, r7, 120)
  | 8 => some (c8, r8, 61)
  | 9 => some (c9, r9, 7)
  | 10 => some (c10, r10, 19)
  | 11 => some (c11, r11, 27)
  | 12 => some (c12, r12, 20)
  | 13 => some (c13, r13, 28)
  | 14 => some (c14, r14, 27)
  | 15 => some (c15, r15, 9)
  | 16 => some (c16, r16, 60)
  | 17 => some (c17, r17, 66)
  | 18 => some (c18, r18, 26)
  | 19 => some (c19, r19, 19)
  | 20 => some (c20, r20, 26)
  | 21 => some (c21, r21, 41)
  | 22 => some (c22, r22, 17)
  | 23 => some (c23, r23, 51)
  | 24 => some (c24, r24, 10)
  | 25 => some (c25, r25, 37)
  | 26 => some (c26, r26, 85)
  | 27 => some (c27, r27, 85)
  | 28 => some (c28, r28, 85)
  | 29 => some (c29, r29, 30)
  | 30 => some (c30, r30, 30)
  | 31 => some (c31, r31, 30)
  | 32 => some (c32, r32, 47)
  | 33 => some (c33, r33, 14)
  | 34 => some (c34, r34, 23)
  | 35 => some (c35, r35, 18)
  | 36 => some (c36, r36, 26)
  | 37 => some (c37, r37, 7)
  | 38 => some (c38, r38, 14)
  | 39 => some (c39, r39, 13)
  | 40 => some (c40, r40, 17)
  | 43 => some (c43, r43, 22)
  | 44 => some (c44, r44, 2)
  | 45 => some (c45, r45, 7)
  | 47 => some (c47, r47, 5)
  | 48 => some (c48, r48, 9)
  | 49 => some (c49, r49, 58)
  | 50 => some (c50, r50, 58)
  | 51 => some (c51, r51, 58)
  | 52 => some (c52, r52, 17)
  | 53 => some (c53, r53, 2)
  | 54 => some (c54, r54, 7)
  | 56 => some (c56, r56, 6)
  | 57 => some (c57, r57, 55)
  | 58 => some (c58, r58, 42)
  | 59 => some (c59, r59, 52)
  | 60 => some (c60, r60, 8)
  | 61 => some (c61, r61, 28)
  | _ => none
theorem tab_ok : TabOk Try.prog tab := by
  intro f d rs n h
  unfold tab at h
  split at h
  · cases h; exact ⟨_, Try.func4, c4_ok, r4_ok, rfl⟩
  · cases h; exact ⟨_, Try.func5, c5_ok, r5_ok, rfl⟩
  · cases h; exact ⟨_, Try.func6, c6_ok, r6_ok, rfl⟩
  · cases h; exact ⟨_, Try.func7, c7_ok, r7_ok, rfl⟩
  · cases h; exact ⟨_, Try.func8, c8_ok, r8_ok, rfl⟩
  · cases h; exact ⟨_, Try.func9, c9_ok, r9_ok, rfl⟩
  · cases h; exact ⟨_, Try.func10, c10_ok, r10_ok, rfl⟩
  · cases h; exact ⟨_, Try.func11, c11_ok, r11_ok, rfl⟩
  · cases h; exact ⟨_, Try.func12, c12_ok, r12_ok, rfl⟩
  · cases h; exact ⟨_, Try.func13, c13_ok, r13_ok, rfl⟩
  · cases h; exact ⟨_, Try.func14, c14_ok, r14_ok, rfl⟩
  · cases h; exact ⟨_, Try.func15, c15_ok, r15_ok, rfl⟩
  · cases h; exact ⟨_, Try.func16, c16_ok, r16_ok, rfl⟩
  · cases h; exact ⟨_, Try.func17, c17_ok, r17_ok, rfl⟩
  · cases h; exact ⟨_, Try.func18, c18_ok, r18_ok, rfl⟩
  · cases h; exact ⟨_, Try.func19, c19_ok, r19_ok, rfl⟩
  · cases h; exact ⟨_, Try.func20, c20_ok, r20_ok, rfl⟩
  · cases h; exact ⟨_, Try.func21, c21_ok, r21_ok, rfl⟩
  · cases h; exact ⟨_, Try.func22, c22_ok, r22_ok, rfl⟩
  · cases h; exact ⟨_, Try.func23, c23_ok, r23_ok, rfl⟩
  · cases h; exact ⟨_, Try.func24, c24_ok, r24_ok, rfl⟩
  · cases h; exact ⟨_, Try.func25, c25_ok, r25_ok, rfl⟩
  · cases h; exact ⟨_, Try.func26, c26_ok, r26_ok, rfl⟩
  · cases h; exact ⟨_, Try.func27, c27_ok, r27_ok, rfl⟩
  · cases h; exact ⟨_, Try.func28, c28_ok, r28_ok, rfl⟩
  · cases h; exact ⟨_, Try.func29, c29_ok, r29_ok, rfl⟩
  · cases h; exact ⟨_, Try.func30, c30_ok, r30_ok, rfl⟩
  · cases h; exact ⟨_, Try.func31, c31_ok, r31_ok, rfl⟩
  · cases h; exact ⟨_, Try.func32, c32_ok, r32_ok, rfl⟩
  · cases h; exact ⟨_, Try.func33, c33_ok, r33_ok, rfl⟩
  · cases h; exact ⟨_, Try.func34, c34_ok, r34_ok, rfl⟩
  · cases h; exact ⟨_, Try.func35, c35_ok, r35_ok, rfl⟩
  · cases h; exact ⟨_, Try.func36, c36_ok, r36_ok, rfl⟩
  · cases h; exact ⟨_, Try.func37, c37_ok, r37_ok, rfl⟩
  · cases h; exact ⟨_, Try.func38, c38_ok, r38_ok, rfl⟩
  · cases h; exact ⟨_, Try.func39, c39_ok, r39_ok, rfl⟩
  · cases h; exact ⟨_, Try.func40, c40_ok, r40_ok, rfl⟩
  · cases h; exact ⟨_, Try.func43, c43_ok, r43_ok, rfl⟩
  · cases h; exact ⟨_, Try.func44, c44_ok, r44_ok, rfl⟩
  · cases h; exact ⟨_, Try.func45, c45_ok, r45_ok, rfl⟩
  · cases h; exact ⟨_, Try.func47, c47_ok, r47_ok, rfl⟩
  · cases h; exact ⟨_, Try.func48, c48_ok, r48_ok, rfl⟩
  · cases h; exact ⟨_, Try.func49, c49_ok, r49_ok, rfl⟩
  · cases h; exact ⟨_, Try.func50, c50_ok, r50_ok, rfl⟩
  · cases h; exact ⟨_, Try.func51, c51_ok, r51_ok, rfl⟩
  · cases h; exact ⟨_, Try.func52, c52_ok, r52_ok, rfl⟩
  · cases h; exact ⟨_, Try.func53, c53_ok, r53_ok, rfl⟩
  · cases h; exact ⟨_, Try.func54, c54_ok, r54_ok, rfl⟩
  · cases h; exact ⟨_, Try.func56, c56_ok, r56_ok, rfl⟩
  · cases h; exact ⟨_, Try.func57, c57_ok, r57_ok, rfl⟩
  · cases h; exact ⟨_, Try.func58, c58_ok, r58_ok, rfl⟩
  · cases h; exact ⟨_, Try.func59, c59_ok, r59_ok, rfl⟩
  · cases h; exact ⟨_, Try.func60, c60_ok, r60_ok, rfl⟩
  · cases h; exact ⟨_, Try.func61, c61_ok, r61_ok, rfl⟩
  · cases h
end Go.Proofs.Ythkgekkpnldbmaa
