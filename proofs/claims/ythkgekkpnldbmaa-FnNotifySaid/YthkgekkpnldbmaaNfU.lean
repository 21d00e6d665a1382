/- The law: its loop over the steps. -/
import Derived.Test.YthkgekkpnldbmaaNfT
set_option linter.unusedVariables false
set_option linter.unusedSimpArgs false
set_option maxRecDepth 100000
set_option maxHeartbeats 4000000
namespace Go.Proofs.Ythkgekkpnldbmaa
open Go Go.Den Go.Proofs
theorem frz_sts {h : List Blk} {n0 k : Nat} (l : List (Int × N)) : omap (Den.frz h n0 (k + 2)) (sts l) = some (sts l) := omap_self fun d hd => by
  obtain ⟨x, _, rfl⟩ := List.mem_map.1 hd
  have hl : omap (Den.frz h n0 (k + 1)) [.p (.int .i64 x.1), .p (.int .i64 x.2.k), .p (.string (S x.2.a)), .p (.string (S x.2.b)), .p (.string (S x.2.c)), .p (.string (S x.2.d)), .p (.string (S x.2.e)), .fz 1 (strs x.2.ev), .fz 1 (strs x.2.p), .fz 1 (strs x.2.s)] = some [.p (.int .i64 x.1), .p (.int .i64 x.2.k), .p (.string (S x.2.a)), .p (.string (S x.2.b)), .p (.string (S x.2.c)), .p (.string (S x.2.d)), .p (.string (S x.2.e)), .fz 1 (strs x.2.ev), .fz 1 (strs x.2.p), .fz 1 (strs x.2.s)] := omap_self fun d hd => by
    simp only [List.mem_cons, List.not_mem_nil, or_false] at hd
    rcases hd with rfl | rfl | rfl | rfl | rfl | rfl | rfl | rfl | rfl | rfl <;> first | exact frz_p | exact frz_fz strs_plain
  exact frz_agg' hl
theorem Own.frzS {h0 h : List Blk} {d : DV} {l : List (Int × N)} (ho : Own h0 10 h d (sts l)) (hw : HWF h0) : FrzR h h0 d (.fz 10 (sts l)) := by
  have hd : ∀ (b : Nat) (k : Blk), h0[b]? = some k → h[b]? = some k ∨ k = .dead := fun b k hb => .inl (ho.pre b k hb)
  rcases ho.2 with ⟨rfl, h1⟩ | ⟨b, rfl, h2, h3⟩
  · rw [h1]; exact .nil
  · refine FrzR.of 3 hd hw ?_
    exact frz_sl' (frz_sts l) h3 h2
theorem w3e {G : Nat → DV} (hG : GZ G) : VV Try.prog G [] c3T0 ⟨fr 200 [(3, .fz 10 (sts [])), (4, .fz 9 (nts [])), (5, .fz 1 (bls [])), (6, .fz 1 (bls []))], []⟩ [] (RR [] r3 (.p (.bool true)) []) := by
  have e : fr 200 [(3, .fz 10 (sts [])), (4, .fz 9 (nts [])), (5, .fz 1 (bls [])), (6, .fz 1 (bls []))] = fr 200 [(3, .fz 10 []), (4, .fz 9 []), (5, .fz 1 []), (6, .fz 1 [])] := rfl
  rw [e]
  exact VV_eval hG tab_ok 400 (by kernel_rfl)
end Go.Proofs.Ythkgekkpnldbmaa
