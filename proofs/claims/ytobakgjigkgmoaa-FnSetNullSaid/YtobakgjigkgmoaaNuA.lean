/- Sets that are nil: what is told of them. -/
import Derived.Test.YtobakgjigkgmoaaCodA
import Derived.Test.YtobakgjigkgmoaaLibE
set_option linter.unusedVariables false
set_option linter.unusedSimpArgs false
set_option maxRecDepth 100000
namespace Go.Proofs.Ytobakgjigkgmoaa
open Go Go.Den Go.Proofs

/-- An empty slice with room of its own. -/
def e0 (b : Nat) : DV := .sa false 1 b 0 0 0 0 1
theorem ok44 {G : Nat → DV} (h : List Blk) : Ok Try.prog G 44 [.p (.int .u64 0)] h (.p (.int .i64 0)) h := by
  refine Ok_by Try.func44 c44_ok r44_ok 24 rfl ?_
  simp [c44, r44, show IntKind.u8.wrap 0 = 0 from by decide, show IntKind.i64.wrap 0 = 0 from by decide, bytesD, byteD]
theorem ok32 {G : Nat → DV} (h : List Blk) : Ok Try.prog G 32 [.p (.int .u64 0)] h (.p (.int .i64 0)) h := by
  refine Ok_by Try.func32 c32_ok r32_ok 7 rfl ?_
  simp [c32, r32]
  refine FF_by (ok44 h) ?_
  simp
theorem ok34 {G : Nat → DV} (h : List Blk) (d : DV) : Ok Try.prog G 34 [d, .p (.int .i64 0), .p (.int .i64 0)] h (.tup []) h := by
  refine Ok_by Try.func34 c34_ok r34_ok 46 rfl ?_
  simp [c34, r34, show IntKind.i64.wrap 1 = 1 from by decide]
  refine VV_once fun B he hr => ?_
  simp
  refine he _ _ ?_
  simp
theorem ok45 {G : Nat → DV} (h : List Blk) (d : DV) : Ok Try.prog G 45 [d, .p (.int .i64 0), .p (.int .i64 0)] h (.tup []) h := by
  refine Ok_by Try.func45 c45_ok r45_ok 46 rfl ?_
  simp [c45, r45, show IntKind.i64.wrap 1 = 1 from by decide]
  refine VV_once fun B he hr => ?_
  simp
  refine he _ _ ?_
  simp
theorem ok31 {G : Nat → DV} (h : List Blk) (d lim : DV) : Ok Try.prog G 31 [d, .p (.int .i64 0), .p (.int .i64 0), lim] h (.tup []) h := by
  refine Ok_by Try.func31 c31_ok r31_ok 130 rfl ?_
  simp [c31, r31]
  refine VV_once fun B he hr => ?_
  simp [show IntKind.i64.wrap 0 = 0 from by decide]
  refine FF_by (ok34 h d) ?_
  simp
  refine hr _ ?_
  simp
theorem ok33 {G : Nat → DV} (h : List Blk) (d lim : DV) : Ok Try.prog G 33 [d, .p (.int .i64 0), .p (.int .i64 0), lim] h (.tup []) h := by
  refine Ok_by Try.func33 c33_ok r33_ok 130 rfl ?_
  simp [c33, r33]
  refine VV_once fun B he hr => ?_
  simp [show IntKind.i64.wrap 0 = 0 from by decide]
  refine FF_by (ok45 h d) ?_
  simp
  refine hr _ ?_
  simp
theorem ok29 {G : Nat → DV} (h : List Blk) (b : Nat) : Ok Try.prog G 29 [e0 b] h (.tup []) h := by
  refine Ok_by Try.func29 c29_ok r29_ok 10 rfl ?_
  simp [c29, r29, e0, show IntKind.u64.wrap 0 = 0 from by decide]
  refine FF_by (ok32 h) ?_
  simp
  refine FF_by (ok31 h _ _) ?_
  simp
theorem ok30 {G : Nat → DV} (h : List Blk) (b : Nat) : Ok Try.prog G 30 [e0 b] h (.tup []) h := by
  refine Ok_by Try.func30 c30_ok r30_ok 10 rfl ?_
  simp [c30, r30, e0, show IntKind.u64.wrap 0 = 0 from by decide]
  refine FF_by (ok32 h) ?_
  simp
  refine FF_by (ok33 h _ _) ?_
  simp

/-- An empty slice of one's own. -/
def EmR (h : List Blk) (v : DV) (h' : List Blk) : Prop := HPre h h' ∧ ∃ b, v = e0 b ∧ h'[b]? = some (.cells 0 [.agg []])
theorem ok25 {G : Nat → DV} (h : List Blk) : OkR Try.prog G 25 [.p (.map none)] h (EmR h) := by
  refine OkR_by Try.func25 c25_ok r25_ok 20 rfl ?_
  simp [c25, r25]
  refine MK_sa (.inr rfl) (by decide) (by decide) (by decide) ?_
  simp
  refine VV_once fun B he hr => ?_
  simp
  refine he _ _ ?_
  simp
  refine FF_by (ok29 _ h.length) ?_
  simp
  exact REr_by _ _ .refl ⟨HPre.append _ _, h.length, rfl, by simp⟩
theorem ok28 {G : Nat → DV} (h : List Blk) : OkR Try.prog G 28 [.p (.map none)] h (EmR h) := by
  refine OkR_by Try.func28 c28_ok r28_ok 20 rfl ?_
  simp [c28, r28]
  refine MK_sa (.inr rfl) (by decide) (by decide) (by decide) ?_
  simp
  refine VV_once fun B he hr => ?_
  simp
  refine he _ _ ?_
  simp
  refine FF_by (ok30 _ h.length) ?_
  simp
  exact REr_by _ _ .refl ⟨HPre.append _ _, h.length, rfl, by simp⟩
theorem ok17 {G : Nat → DV} (h : List Blk) : OkR Try.prog G 17 [.p (.map none)] h (EmR h) := by
  refine OkR_by Try.func17 c17_ok r17_ok 4 rfl ?_
  simp [c17, r17]
  refine FF_byR (ok25 h) ?_
  intro v h' hv
  simp
  exact REr_by _ _ .refl hv
theorem ok22 {G : Nat → DV} (h : List Blk) : OkR Try.prog G 22 [.p (.map none)] h (EmR h) := by
  refine OkR_by Try.func22 c22_ok r22_ok 4 rfl ?_
  simp [c22, r22]
  refine FF_byR (ok28 h) ?_
  intro v h' hv
  simp
  exact REr_by _ _ .refl hv

/-- A map of one's own. -/
def MpR (h : List Blk) (v : DV) (h' : List Blk) : Prop := HPre h h' ∧ ∃ b, v = .mp b
theorem ok15 {G : Nat → DV} (h : List Blk) : OkR Try.prog G 15 [.p (.slice none 0 0)] h (MpR h) := by
  refine OkR_by Try.func15 c15_ok r15_ok 19 rfl ?_
  simp [c15, r15]
  refine VV_once fun B he hr => ?_
  simp
  refine he _ _ ?_
  simp
  exact REr_by _ _ .refl ⟨HPre.append _ _, _, rfl⟩
theorem ok21 {G : Nat → DV} (h : List Blk) : OkR Try.prog G 21 [.p (.slice none 0 0)] h (MpR h) := by
  refine OkR_by Try.func21 c21_ok r21_ok 19 rfl ?_
  simp [c21, r21]
  refine VV_once fun B he hr => ?_
  simp
  refine he _ _ ?_
  simp
  exact REr_by _ _ .refl ⟨HPre.append _ _, _, rfl⟩
theorem ok6 {G : Nat → DV} (h : List Blk) : OkR Try.prog G 6 [.p (.slice none 0 0)] h (MpR h) := by
  refine OkR_by Try.func6 c6_ok r6_ok 4 rfl ?_
  simp [c6, r6]
  refine FF_byR (ok15 h) ?_
  intro v h' hv
  obtain ⟨_, _, rfl⟩ := id hv
  simp
  exact REr_by _ _ .refl hv
theorem ok10 {G : Nat → DV} (h : List Blk) : OkR Try.prog G 10 [.p (.slice none 0 0)] h (MpR h) := by
  refine OkR_by Try.func10 c10_ok r10_ok 4 rfl ?_
  simp [c10, r10]
  refine FF_byR (ok21 h) ?_
  intro v h' hv
  obtain ⟨_, _, rfl⟩ := id hv
  simp
  exact REr_by _ _ .refl hv

/-- The byte of nil. -/
def NbR (h0 : List Blk) (v : DV) (h' : List Blk) : Prop := Own h0 1 h' v (bts [192])
theorem ok18 {G : Nat → DV} (h0 h : List Blk) (d : DV) (ho : Own h0 1 h d (bts [])) : OkR Try.prog G 18 [d] h (NbR h0) := by
  refine OkR_by Try.func18 c18_ok r18_ok 5 rfl ?_
  simp [c18, r18]
  refine AA_lit1 ho (by simp) ?_
  intro d2 h2 ho2 _ _
  simp
  exact REr_by _ _ .refl (by simpa [NbR, bts, byteD] using ho2)
def NmR (h0 : List Blk) (v : DV) (h' : List Blk) : Prop := ∃ d, v = .tup [d, .p .nilIface] ∧ Own h0 1 h' d (bts [192])
theorem ok8 {G : Nat → DV} (h0 h : List Blk) (d : DV) (ho : Own h0 1 h d (bts [])) : OkR Try.prog G 8 [.p (.map none), d] h (NmR h0) := by
  refine OkR_by Try.func8 c8_ok r8_ok 26 rfl ?_
  simp [c8, r8]
  refine FF_byR (ok18 h0 h d ho) ?_
  intro v h' hv
  simp
  exact REr_by _ _ .refl ⟨v, rfl, hv⟩
theorem ok12 {G : Nat → DV} (h0 h : List Blk) (d : DV) (ho : Own h0 1 h d (bts [])) : OkR Try.prog G 12 [.p (.map none), d] h (NmR h0) := by
  refine OkR_by Try.func12 c12_ok r12_ok 26 rfl ?_
  simp [c12, r12]
  refine FF_byR (ok18 h0 h d ho) ?_
  intro v h' hv
  simp
  exact REr_by _ _ .refl ⟨v, rfl, hv⟩
theorem ok9 {G : Nat → DV} (h0 h : List Blk) (d : DV) (ho : Own h0 1 h d (bts [])) : OkR Try.prog G 9 [.p (.map none), d] h (NmR h0) := by
  refine OkR_by Try.func9 c9_ok r9_ok 9 rfl ?_
  simp [c9, r9]
  refine FF_byR (ok8 h0 h d ho) ?_
  rintro v h' ⟨d2, rfl, h2⟩
  simp
  exact REr_by _ _ .refl ⟨d2, rfl, h2⟩
theorem ok13 {G : Nat → DV} (h0 h : List Blk) (d : DV) (ho : Own h0 1 h d (bts [])) : OkR Try.prog G 13 [.p (.map none), d] h (NmR h0) := by
  refine OkR_by Try.func13 c13_ok r13_ok 9 rfl ?_
  simp [c13, r13]
  refine FF_byR (ok12 h0 h d ho) ?_
  rintro v h' ⟨d2, rfl, h2⟩
  simp
  exact REr_by _ _ .refl ⟨d2, rfl, h2⟩
end Go.Proofs.Ytobakgjigkgmoaa
