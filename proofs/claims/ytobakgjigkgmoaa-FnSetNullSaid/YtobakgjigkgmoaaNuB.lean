/- Sets that are nil: as JSON; the law. -/
import Derived.Test.YtobakgjigkgmoaaNuA
set_option linter.unusedVariables false
set_option linter.unusedSimpArgs false
set_option maxRecDepth 100000
namespace Go.Proofs.Ytobakgjigkgmoaa
open Go Go.Den Go.Proofs

theorem ok87 {G : Nat → DV} (h : List Blk) (x b : Nat) (d2 : DV) (hx : h[x]? = some (.cells 1 [e0 b])) : Ok Try.prog G 87 [.ptr x 0 0 1, d2] h (.tup []) h := by
  refine Ok_by Try.func87 c87_ok r87_ok 14 rfl ?_
  unfold e0 at hx
  simp [c87, r87, hx]
  refine VV_once fun B he hr => ?_
  simp
  refine he _ _ ?_
  simp
theorem ok97 {G : Nat → DV} (h : List Blk) (x b : Nat) (d2 : DV) (hx : h[x]? = some (.cells 1 [e0 b])) : Ok Try.prog G 97 [.ptr x 0 0 1, d2] h (.tup []) h := by
  refine Ok_by Try.func97 c97_ok r97_ok 14 rfl ?_
  unfold e0 at hx
  simp [c97, r97, hx]
  refine VV_once fun B he hr => ?_
  simp
  refine he _ _ ?_
  simp

/-- A writer in block w: what stands there when a list of nothing was put; the blocks of h0 stand. -/
def W0 : Blk := .cells 3 [.agg [.p (.bool false), .p (.slice none 0 0), .p (.bool false)]]
def WrR (h0 : List Blk) (w : Nat) (v : DV) (h' : List Blk) : Prop := v = .tup [] ∧ HPre h0 h' ∧ ∃ b, h'[w]? = some (.cells 3 [.agg [.p (.bool false), .sl b 0 2 2, .p (.bool true)]]) ∧ h'[b]? = some (.cells 1 (bts [91, 93]))
theorem ok90 {G : Nat → DV} (h0 x : List Blk) (f : Nat) (cap : List DV) (hc : cFunc Try.prog f = true)
    (hf : ∀ (W : Blk) (y : List Blk), Ok Try.prog G f cap (h0 ++ W :: (x ++ y)) (.tup []) (h0 ++ W :: (x ++ y))) :
    OkR Try.prog G 90 [.ptr h0.length 0 0 1, .p (.int .u8 91), .p (.int .u8 93), .fn (.func f) [] cap] (h0 ++ W0 :: x) (WrR h0 h0.length) := by
  refine OkR_by Try.func90 c90_ok r90_ok 32 rfl ?_
  simp [c90, r90, W0]
  refine AA_at ?_
  simp
  refine CV_by hc ?_
  simp
  refine FF_by (hf _ _) ?_
  simp
  refine AA_at ?_
  simp
  refine REr_by _ _ .refl ⟨rfl, HPre.append _ _, h0.length + (x.length + 1 + 1), by simp, by simp [bts, byteD]⟩

theorem ok86 {G : Nat → DV} (h0 x : List Blk) (f : Nat) (cap : List DV) (hc : cFunc Try.prog f = true)
    (hf : ∀ (W : Blk) (y : List Blk), Ok Try.prog G f cap (h0 ++ W :: (x ++ y)) (.tup []) (h0 ++ W :: (x ++ y))) :
    OkR Try.prog G 86 [.ptr h0.length 0 0 1, .fn (.func f) [] cap] (h0 ++ W0 :: x) (WrR h0 h0.length) := by
  refine OkR_by Try.func86 c86_ok r86_ok 5 rfl ?_
  simp [c86, r86]
  refine FF_byR (ok90 h0 x f cap hc hf) ?_
  intro v h' hv
  obtain ⟨rfl, _⟩ := id hv
  simp
  exact REr_by _ _ .refl hv

theorem cf87 : cFunc Try.prog 87 = true := by kernel_rfl
theorem cf97 : cFunc Try.prog 97 = true := by kernel_rfl
theorem ok85 {G : Nat → DV} (h0 : List Blk) (b : Nat) : OkR Try.prog G 85 [e0 b, .ptr h0.length 0 0 1] (h0 ++ [W0]) (WrR h0 h0.length) := by
  refine OkR_by Try.func85 c85_ok r85_ok 5 rfl ?_
  simp [c85, r85, e0]
  refine FF_byR (ok86 h0 [.cells 1 [e0 b], .cells 1 [.ptr h0.length 0 0 1]] 87 _ cf87 fun W y => ok87 _ (h0.length + 1) b _ (by simp)) ?_
  intro v h' hv
  obtain ⟨rfl, _⟩ := id hv
  simp
  exact REr_by _ _ .refl hv
theorem ok95 {G : Nat → DV} (h0 : List Blk) (b : Nat) (hb : h0[b]? = some (.cells 0 [.agg []])) : OkR Try.prog G 95 [.ptr h0.length 0 0 1, e0 b] (h0 ++ [W0]) (WrR h0 h0.length) := by
  refine OkR_by Try.func95 c95_ok r95_ok 9 rfl ?_
  have hb1 : ∀ y : List Blk, (h0 ++ y)[b]? = some (.cells 0 [.agg []]) := fun y => get_pre hb y
  simp [c95, r95, e0, hb1]
  refine FF_byR (ok86 h0 [.cells 1 [.ptr h0.length 0 0 1], .cells 1 [e0 b]] 97 _ cf97 fun W y => ok97 _ (h0.length + 2) b _ (by simp)) ?_
  intro v h' hv
  obtain ⟨rfl, _⟩ := id hv
  simp
  exact REr_by _ _ .refl hv
theorem ok94 {G : Nat → DV} (h0 : List Blk) (b : Nat) (hb : h0[b]? = some (.cells 0 [.agg []])) : OkR Try.prog G 94 [e0 b, .ptr h0.length 0 0 1] (h0 ++ [W0]) (WrR h0 h0.length) := by
  refine OkR_by Try.func94 c94_ok r94_ok 5 rfl ?_
  simp [c94, r94]
  refine FF_byR (ok95 h0 b hb) ?_
  intro v h' hv
  obtain ⟨rfl, _⟩ := id hv
  simp
  exact REr_by _ _ .refl hv

/-- Bytes, and no error. -/
def JsR (h : List Blk) (v : DV) (h' : List Blk) : Prop := HPre h h' ∧ ∃ b, v = .tup [.sl b 0 2 2, .p .nilIface] ∧ h'[b]? = some (.cells 1 (bts [91, 93]))
theorem me46 : methOf Try.prog 46 "ZzPut" = some 85 := by kernel_rfl
theorem me53 : methOf Try.prog 53 "ZzPut" = some 94 := by kernel_rfl
theorem cf85 : cFunc Try.prog 85 = true := by kernel_rfl
theorem cf94 : cFunc Try.prog 94 = true := by kernel_rfl
theorem ok16 {G : Nat → DV} (h : List Blk) (ty b : Nat) (f : Nat) (hm : methOf Try.prog ty "ZzPut" = some f) (hc : cFunc Try.prog f = true) (hf : OkR Try.prog G f [e0 b, .ptr h.length 0 0 1] (h ++ [W0]) (WrR h h.length)) :
    OkR Try.prog G 16 [.iface ty (e0 b)] h (JsR h) := by
  refine OkR_by Try.func16 c16_ok r16_ok 18 rfl ?_
  simp [c16, r16]
  refine IV_by hm hc ?_
  refine FF_byR hf ?_
  rintro v h' ⟨rfl, hp, b2, h1, h2⟩
  simp [h1]
  exact REr_by _ _ .refl ⟨hp, b2, rfl, h2⟩
theorem ok7 {G : Nat → DV} (h : List Blk) : OkR Try.prog G 7 [.p (.map none)] h (JsR h) := by
  refine OkR_by Try.func7 c7_ok r7_ok 9 rfl ?_
  simp [c7, r7]
  refine FF_byR (ok17 h) ?_
  rintro v h1 ⟨hp1, b, rfl, hb⟩
  simp
  refine FF_byR (ok16 h1 46 b 85 me46 cf85 (ok85 h1 b)) ?_
  rintro v h' ⟨hp, b2, rfl, h2⟩
  simp
  exact REr_by _ _ .refl ⟨hp1.trans hp, b2, rfl, h2⟩
theorem ok11 {G : Nat → DV} (h : List Blk) : OkR Try.prog G 11 [.p (.map none)] h (JsR h) := by
  refine OkR_by Try.func11 c11_ok r11_ok 9 rfl ?_
  simp [c11, r11]
  refine FF_byR (ok22 h) ?_
  rintro v h1 ⟨hp1, b, rfl, hb⟩
  simp
  refine FF_byR (ok16 h1 53 b 94 me53 cf94 (ok94 h1 b hb)) ?_
  rintro v h' ⟨hp, b2, rfl, h2⟩
  simp
  exact REr_by _ _ .refl ⟨hp1.trans hp, b2, rfl, h2⟩

theorem ok14 {G : Nat → DV} (h : List Blk) : OkR Try.prog G 14 [.p (.map none)] h (EmR h) := by
  refine OkR_by Try.func14 c14_ok r14_ok 85 rfl ?_
  simp [c14, r14]
  refine VV_once fun B he hr => ?_
  simp
  refine he _ _ ?_
  simp
  refine MK_sa (.inr rfl) (by decide) (by decide) (by decide) ?_
  simp
  refine MK_sa (.inr rfl) (by decide) (by decide) (by decide) ?_
  simp
  refine VV_once fun B2 he2 hr2 => ?_
  simp
  refine he2 _ _ ?_
  simp
  refine VV_once fun B3 he3 hr3 => ?_
  simp
  refine he3 _ _ ?_
  simp
  exact REr_by _ _ .refl ⟨HPre.append _ _, h.length + 2, rfl, by simp⟩

def C4 (h : List Blk) (v : DV) (h' : List Blk) : Prop := HPre h h' ∧ ∃ a c : ByteArray, v = .tup [.p (.string a), .p (.string ⟨#[192]⟩), .p (.string c), .p (.bool true)]
theorem ok4 {G : Nat → DV} (h : List Blk) : OkR Try.prog G 4 [.p (.slice none 0 0), .p (.bool true), .p (.string ⟨#[]⟩)] h (C4 h) := by
  refine OkR_by Try.func4 c4_ok r4_ok 50 rfl ?_
  simp [c4, r4]
  refine FF_byR (ok6 h) ?_
  rintro v h1 ⟨hp1, b, rfl⟩
  simp
  refine FF_byR (ok7 h1) ?_
  rintro v h2 ⟨hp2, b2, rfl, hb2⟩
  simp
  refine FF_byR (ok8 h2 h2 _ .nil) ?_
  rintro v h3 ⟨d, rfl, ho3⟩
  simp
  refine FF_byR (ok9 h3 _ (.sl h3.length 0 0 0) ⟨HPre.append _ _, .inr ⟨h3.length, rfl, Nat.le_refl _, by simp [bts]⟩⟩) ?_
  rintro v h4 ⟨d', rfl, ho4⟩
  have e1 : h4[b2]? = some (.cells 1 (bts [91, 93])) := ho4.pre _ _ (ho3.pre _ _ hb2)
  have e2 : sliceOf h4 1 d = some (bts [192]) := (ho3.mono ho4.pre).slice
  have e3 : sliceOf h4 1 d' = some (bts [192]) := ho4.slice
  simp [e1, e2, e3]
  exact REr_by _ _ .refl ⟨hp1.trans (hp2.trans (ho3.pre.trans ho4.pre)), _, _, rfl⟩

def C5 (h : List Blk) (v : DV) (h' : List Blk) : Prop := HPre h h' ∧ ∃ (a c : ByteArray) (x : DV), v = .tup [.p (.string a), .p (.string ⟨#[192]⟩), .p (.string c), x, .p (.bool true)]
theorem ok5 {G : Nat → DV} (h : List Blk) : OkR Try.prog G 5 [.p (.slice none 0 0), .p (.bool true), .p (.string ⟨#[]⟩)] h (C5 h) := by
  refine OkR_by Try.func5 c5_ok r5_ok 67 rfl ?_
  simp [c5, r5]
  refine FF_byR (ok10 h) ?_
  rintro v h1 ⟨hp1, b, rfl⟩
  simp
  refine FF_byR (ok11 h1) ?_
  rintro v h2 ⟨hp2, b2, rfl, hb2⟩
  simp
  refine FF_byR (ok12 h2 h2 _ .nil) ?_
  rintro v h3 ⟨d, rfl, ho3⟩
  simp
  refine FF_byR (ok13 h3 _ (.sl h3.length 0 0 0) ⟨HPre.append _ _, .inr ⟨h3.length, rfl, Nat.le_refl _, by simp [bts]⟩⟩) ?_
  rintro v h4 ⟨d', rfl, ho4⟩
  simp
  refine FF_byR (ok14 h4) ?_
  rintro v h5 ⟨hp5, b5, rfl, hb5⟩
  simp [e0]
  refine VV_once fun B he hr => ?_
  simp
  refine he _ _ ?_
  have e1 : h5[b2]? = some (.cells 1 (bts [91, 93])) := hp5 _ _ (ho4.pre _ _ (ho3.pre _ _ hb2))
  have e2 : sliceOf h5 1 d = some (bts [192]) := (ho3.mono (ho4.pre.trans hp5)).slice
  have e3 : sliceOf h5 1 d' = some (bts [192]) := (ho4.mono hp5).slice
  simp [e1, e2, e3]
  exact REr_by _ _ .refl ⟨hp1.trans (hp2.trans (ho3.pre.trans (ho4.pre.trans hp5))), _, _, _, rfl⟩

theorem setNull_walk (ints : Bool) : Ok Try.prog (fun _ => .any) 3 [.p (.bool ints)] [] (.p (.bool true)) [] := by
  refine Ok_by Try.func3 c3_ok r3_ok 35 rfl ?_
  cases ints with
  | true =>
    simp [c3, r3]
    refine FF_byR (ok4 []) ?_
    rintro v h1 ⟨hp, a, c, rfl⟩
    simp
  | false =>
    simp [c3, r3]
    refine FF_byR (ok5 []) ?_
    rintro v h1 ⟨hp, a, c, x, rfl⟩
    simp
end Go.Proofs.Ytobakgjigkgmoaa
