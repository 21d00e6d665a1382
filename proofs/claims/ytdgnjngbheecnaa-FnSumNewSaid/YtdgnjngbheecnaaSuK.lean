/- The law FnSumNew's walk. -/
import Derived.Test.YtdgnjngbheecnaaSuJ
set_option linter.unusedVariables false
set_option linter.unusedSimpArgs false
set_option maxRecDepth 100000
namespace Go.Proofs.Ytdgnjngbheecnaa
open Go Go.Den Go.Proofs

theorem ok5 (n : Int) (b : Bool) (s : List UInt8) (h0 : 0 ≤ n) (h1 : n < 256) : Ok Try.prog GB 5 [.p (.int .u8 n), .p (.bool b), .p (.string (txt s))] [] (.p (.bool true)) [] := by
  refine Ok_by Try.func5 c5_ok r5_ok 61 rfl ?_
  have hm : n.tmod 10 = n % 10 := Int.tmod_eq_emod_of_nonneg h0
  obtain ⟨k, hk, hkn⟩ : ∃ k : Nat, k < 10 ∧ IntKind.i64.wrap (n.tmod 10) = (k : Int) := by
    refine ⟨(n % 10).toNat, by omega, ?_⟩
    rw [hm]
    simp [IntKind.wrap, IntKind.bits, IntKind.signed]; omega
  simp [c5, r5]
  refine CC_by (fun hc => ?_) (fun hc => ?_)
  · simp
  · simp [hkn]
    have hl : (s.take (min s.length 100)).length ≤ 1000 := by simp; omega
    generalize s.take (min s.length 100) = u at *
    have hb18 : ∀ h : List Blk, Ok Try.prog GB 18 [.sl h.length 0 u.length u.length] (h ++ [.cells 1 (bts u)]) (.p (.string (txt (b64 u)))) (h ++ [.cells 1 (bts u)]) := fun h => by
      have hf := FrzR.sl (h := h ++ [.cells 1 (bts u)]) (b := h.length) (i := 0) (n := u.length) (x := u.length) (sz := 1) (els := bts u) (by simp) (by simp) bts_plain
      have htk : u.take u.length = u := List.take_length
      simp only [List.drop_zero, bts_take, htk] at hf
      exact Ok.lend gzB (ok18 [] u hl) (.cons hf .nil) rfl
    cases b
    · simp
      refine FF_by (ok19r k hk [] u hl) ?_
      by_cases hu : u.length = sumLen k
      · simp [told, hu]
        refine FF_by (ok20 k hk _) ?_
        simp [hu]
        have hx := hb18 []
        rw [hu] at hx
        refine FF_by hx ?_
        simp [hu]
      · have hne : ((u.length : Int) != (sumLen k : Int)) = true := by simp; omega
        simp [told, hu]
        refine FF_by (ok20 k hk _) ?_
        simp [hu, hne]
    · simp
      refine FF_by (hb18 []) ?_
      simp
      refine FF_by (ok19t k hk _ u hl) ?_
      by_cases hu : u.length = sumLen k
      · simp [told, hu]
        refine FF_by (ok20 k hk _) ?_
        simp [hu]
        have hx := hb18 [.cells 1 (bts u)]
        rw [hu] at hx
        refine FF_by hx ?_
        simp [hu]
      · have hne : ((u.length : Int) != (sumLen k : Int)) = true := by simp; omega
        simp [told, hu]
        refine FF_by (ok20 k hk _) ?_
        simp [hu, hne]
theorem sumNew_walk (n : Int) (b : Bool) (s : ByteArray) (hn : (Lit.int .u8 n).wf = true) (hs : s.size ≤ 140737488351232) : Ok Try.prog GB 5 [.p (.int .u8 n), .p (.bool b), .p (.string s)] [] (.p (.bool true)) [] := by
  have h : IntKind.u8.min ≤ n ∧ n ≤ IntKind.u8.max := by simpa [Lit.wf] using hn
  have h1 : IntKind.u8.min = 0 := rfl
  have h2 : IntKind.u8.max = 255 := rfl
  rw [txt_of s]
  exact ok5 n b _ (by omega) (by omega)
end Go.Proofs.Ytdgnjngbheecnaa
