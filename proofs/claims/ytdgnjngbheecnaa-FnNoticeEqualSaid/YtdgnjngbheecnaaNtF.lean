/- Notices: the law FnNoticeEqual. -/
import Derived.Test.YtdgnjngbheecnaaNtE
set_option linter.unusedVariables false
set_option linter.unusedSimpArgs false
set_option maxRecDepth 100000
namespace Go.Proofs.Ytdgnjngbheecnaa
open Go Go.Den Go.Proofs

theorem rlK_inj {n x y : ByteArray} : rlK (n, x) = rlK (n, y) ↔ x = y := by
  unfold rlK
  rw [S_of n, S_of x, S_of y]
  simp [S, S_inj]
theorem rlK_ps {x y : ByteArray} : rlK (pfx, x) ≠ rlK (sfx, y) := by
  have e1 : rlK (pfx, x) = S ([112, 114, 101, 102, 105, 120, 45] ++ x.data.toList) := by
    conv => lhs; rw [S_of x]
    simp only [rlK, pfx, mk_S, S_append]
    rfl
  have e2 : rlK (sfx, y) = S ([115, 117, 102, 102, 105, 120, 45] ++ y.data.toList) := by
    conv => lhs; rw [S_of y]
    simp only [rlK, sfx, mk_S, S_append]
    rfl
  rw [e1, e2]
  simp
theorem rlK_sp {x y : ByteArray} : rlK (sfx, x) ≠ rlK (pfx, y) := fun h => rlK_ps h.symm
theorem nEq_spec {ev p s evs : List ByteArray} {pre suf : ByteArray} (h1 : ev.Nodup) (h2 : evs.Nodup) (hp : p.length ≤ 1) (hs : s.length ≤ 1) (hp0 : ∀ x ∈ p, x ≠ ⟨#[]⟩) (hs0 : ∀ x ∈ s, x ≠ ⟨#[]⟩) :
    nEq ev p s evs pre suf = (decide (setOf ev = setOf evs) && (decide (fstOf p = pre) && decide (fstOf s = suf))) := by
  rw [nEq, evEq_spec h1 h2]
  congr 1
  match p, hp, s, hs with
  | [], _, [], _ =>
    by_cases a : pre = ⟨#[]⟩ <;> by_cases b : suf = ⟨#[]⟩ <;> simp [rls, evEq, fstOf, a, b, setHas, eq_comm]
  | [x], _, [], _ =>
    have := hp0 x (by simp)
    by_cases a : pre = ⟨#[]⟩ <;> by_cases b : suf = ⟨#[]⟩ <;> simp [rls, evEq, fstOf, a, b, setHas, this, rlK_inj, rlK_ps, rlK_sp, eq_comm]
  | [], _, [y], _ =>
    have := hs0 y (by simp)
    by_cases a : pre = ⟨#[]⟩ <;> by_cases b : suf = ⟨#[]⟩ <;> simp [rls, evEq, fstOf, a, b, setHas, this, rlK_inj, rlK_ps, rlK_sp, eq_comm]
  | [x], _, [y], _ =>
    have := hs0 y (by simp)
    have := hp0 x (by simp)
    by_cases a : pre = ⟨#[]⟩ <;> by_cases b : suf = ⟨#[]⟩ <;> simp [rls, evEq, fstOf, a, b, setHas, *, rlK_inj, rlK_ps, rlK_sp, eq_comm]
theorem ok3 {G : Nat → DV} (hG : GZ G) (k : Int) (a b c d e : List UInt8) (ev p s evs : List ByteArray) (pre suf : ByteArray) (same : Bool) (he : ev.length ≤ maxLen) (hp : p.length ≤ maxLen) (hs : s.length ≤ maxLen) (hv : evs.length ≤ maxLen) :
    Ok Try.prog G 3 [ntD k a b c d e ev p s, .fz 1 (strs evs), .p (.string pre), .p (.string suf), .p (.bool same)] [] (.p (.bool true)) [] := by
  refine Ok_by Try.func3 c3_ok r3_ok 69 rfl ?_
  have h8 := fun h => ok8 (G := G) h k a b c d e ev p s he hp hs
  have h9 := fun h => ok9 (G := G) h evs hv
  have h10 := fun h => ok10 hG h k a b c d e ev p s
  simp only [ntD] at h8 h10
  simp [c3, r3, ntD]
  refine FF_by (h8 _) ?_
  generalize (fits9 a b c d e && (fits8 ev && (fits8 p && fits8 s))) = f1
  cases f1 with
  | false => simp
  | true =>
  simp
  refine FF_by (h9 _) ?_
  cases fits8 evs with
  | false => simp
  | true =>
  simp
  cases hc1 : decide ((2147483647 : Int) < (pre.size : Int)) with
  | true => simp [hc1]
  | false =>
  simp [hc1]
  cases hc2 : decide ((2147483647 : Int) < (suf.size : Int)) with
  | true => simp [hc2]
  | false =>
  simp [hc2]
  refine FF_by (h10 _) ?_
  have hE := ntEvents_length ev
  have hV := ntEvents_length evs
  have hEn := ntEvents_nodup ev
  have hVn := ntEvents_nodup evs
  have hP := ntOne_length p
  have hS := ntOne_length s
  have hP1 := ntOne_size p
  have hS1 := ntOne_size s
  have hP0 := ntOne_ne p
  have hS0 := ntOne_ne s
  have hA := ntOne_length [pre]
  have hB := ntOne_length [suf]
  have hA1 := ntOne_size [pre]
  have hB1 := ntOne_size [suf]
  simp
  refine FF_by (ok11 hG _ evs) ?_
  simp
  refine FF_by (ok12_rest _ _ [pre] (.inr ⟨pre, _, rfl, rfl, by simp⟩)) ?_
  simp
  refine FF_by (ok12_rest _ _ [suf] (.inr ⟨suf, _, rfl, rfl, by simp⟩)) ?_
  have fsz : ∀ l : List ByteArray, (∀ x ∈ l, x.size ≤ 20) → (fstOf l).size ≤ 100 := fun l hl => by
    cases l with
    | nil => simp [fstOf]
    | cons x l => have := hl x (by simp); simp [fstOf]; omega
  generalize ntEvents ev = E at *
  generalize ntEvents evs = V at *
  generalize ntOne p = P at *
  generalize ntOne s = Z at *
  generalize ntOne [pre] = PP at *
  generalize ntOne [suf] = SS at *
  -- the two answers, of any lists
  have h14 : ∀ h dv L x y, Ls h dv L → L.length ≤ 4 → x.size ≤ 100 → y.size ≤ 100 → Ok Try.prog G 14 [ntD (kd k) (noColon a) (noColon b) (noColon c) (noColon d) (noColon e) E P Z, dv, .p (.string x), .p (.string y)] h (.p (.bool (nEq E P Z L x y))) h := fun h dv L x y hd hl hx hy =>
    ok14 hG h _ _ _ _ _ _ E P Z L dv x y hd (by omega) (by omega) hP hS (fun x hx => by have := hP1 x hx; omega) (fun x hx => by have := hS1 x hx; omega) hx hy
  have h15 : ∀ h dv L x y, Ls h dv L → L.length ≤ 4 → Ok Try.prog G 15 [ntD (kd k) (noColon a) (noColon b) (noColon c) (noColon d) (noColon e) E P Z, dv, .p (.string x), .p (.string y)] h (.p (.bool (decide (setOf E = setOf L) && (decide (fstOf P = x) && decide (fstOf Z = y))))) h := fun h dv L x y hd hl =>
    ok15 hG h _ _ _ _ _ _ E P Z L dv x y hd (by omega) (by omega) (by omega) (by omega)
  have hz : ∀ h, Ok Try.prog G 14 [.agg [.p (.int .i64 0), .p (.string ⟨#[]⟩), .p (.string ⟨#[]⟩), .p (.string ⟨#[]⟩), .p (.string ⟨#[]⟩), .p (.string ⟨#[]⟩), .p (.slice none 0 0), .p (.slice none 0 0), .p (.slice none 0 0)], .p (.slice none 0 0), .p (.string ⟨#[]⟩), .p (.string ⟨#[]⟩)] h (.p (.bool true)) h := fun h => by
    have := ok14 hG [] 0 [] [] [] [] [] [] [] [] [] (.fz 1 (strs [])) ⟨#[]⟩ ⟨#[]⟩ (.inl rfl) (by simp) (by simp) (by simp) (by simp) (by simp) (by simp) (by simp) (by simp)
    have e1 : nEq [] [] [] [] ⟨#[]⟩ ⟨#[]⟩ = true := by simp [nEq, evEq, rls]
    rw [e1] at this
    exact Ok.lend hG this (.cons (FrzR.agg (.cons .p (.cons .p (.cons .p (.cons .p (.cons .p (.cons .p (.cons .nil (.cons .nil (.cons .nil .nil)))))))))) (.cons .nil (.cons .p (.cons .p .nil)))) rfl
  simp only [ntD] at h14 h15
  have c13 : cFunc Try.prog 13 = true := by kernel_rfl
  cases same with
  | false =>
    simp
    refine DCV_by c13 ?_
    refine DF_by (ok13 _ PP (by omega)) ?_
    simp
    refine DCV_by c13 ?_
    refine DF_by (ok13 _ SS (by omega)) ?_
    simp
    refine DF_by (h14 _ (.fz 1 (strs V)) V _ _ (.inl rfl) (by omega) (fsz _ hA1) (fsz _ hB1)) ?_
    simp
    refine DCV_by c13 ?_
    refine DF_by (ok13 _ PP (by omega)) ?_
    simp
    refine DCV_by c13 ?_
    refine DF_by (ok13 _ SS (by omega)) ?_
    simp
    refine DF_by (h15 _ (.fz 1 (strs V)) V _ _ (.inl rfl) (by omega)) ?_
    rw [nEq_spec hEn hVn hP hS hP0 hS0]
    simp
    refine DF_by (hz _) ?_
    simp
  | true =>
    simp
    rw [DA_raw]
    have hE16 : E.length * 16 ≤ 140737488355328 := by omega
    simp [elemsOf, hE16]
    refine DCV_by c13 ?_
    refine DF_by (ok13 _ P (by omega)) ?_
    simp
    refine DCV_by c13 ?_
    refine DF_by (ok13 _ Z (by omega)) ?_
    simp
    refine DF_by (h14 _ (.sl 3 0 E.length E.length) E _ _ (.inr ⟨3, rfl, by simp⟩) (by omega) (fsz _ hP1) (fsz _ hS1)) ?_
    simp
    refine DCV_by c13 ?_
    refine DF_by (ok13 _ P (by omega)) ?_
    simp
    refine DCV_by c13 ?_
    refine DF_by (ok13 _ Z (by omega)) ?_
    simp
    refine DF_by (h15 _ (.sl 3 0 E.length E.length) E _ _ (.inr ⟨3, rfl, by simp⟩) (by omega)) ?_
    rw [nEq_spec hEn hEn hP hS hP0 hS0]
    simp
    refine DF_by (hz _) ?_
    simp
end Go.Proofs.Ytdgnjngbheecnaa
