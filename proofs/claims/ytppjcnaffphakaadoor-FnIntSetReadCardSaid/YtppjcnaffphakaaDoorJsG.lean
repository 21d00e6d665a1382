/- JSON: numbers are taken. -/
import Derived.Test.YtppjcnaffphakaaDoorJsE
import Derived.Test.YtppjcnaffphakaaDoorJsF
import Derived.Test.YtppjcnaffphakaaDoorSeB
set_option linter.unusedVariables false
set_option linter.unusedSimpArgs false
set_option maxRecDepth 100000
set_option maxHeartbeats 4000000
namespace Go.Proofs.YtppjcnaffphakaaDoor
open Go Go.Den Go.Proofs

theorem ok91 {G : Nat → DV} (h : List Blk) (n m : Int) (xb : Nat) (hn : I64 n) (hx : h[xb]? = some (.cells 1 [.p (.int .i64 m)])) :
    Ok Tryd.prog G 91 [.agg (numD' (decI n)), .ptr xb 0 0 1] h (.p (.bool true)) (h.set xb (.cells 1 [.p (.int .i64 n)])) := by
  refine Ok.wf fun hw => ?_
  refine Ok_by Tryd.func91 c91_ok r91_ok 24 rfl ?_
  have hxl : xb < h.length := (List.getElem?_eq_some_iff.1 hx).1
  simp [c91, r91, numD']
  refine FF_by (ok92 _ n hn) ?_
  simp [get_pre hx]
  rw [List.set_append_left _ _ hxl]
  refine WkV.drop (by simp) (fun hh => hh.set ?_) (by simp)
  intro j hj
  simp at hj
  subst hj
  simp
theorem ok89 {G : Nat → DV} (h : List Blk) (b n : Nat) (hb : h[b]? = some (.cells 1 [])) (hn : n ≤ 1000) :
    Ok Tryd.prog G 89 [.sl b 0 0 0, .p (.int .i64 n)] h (.sl h.length 0 n n) (h ++ [.cells 1 (ints (List.replicate n 0))]) := by
  refine Ok_by Tryd.func89 c89_ok r89_ok 12 rfl ?_
  have hnn : ¬ (n : Int) < 0 := by omega
  simp [c89, r89, hnn]
  refine MK_sl (by simp) (by simp) (by omega) ?_
  have e : List.replicate n (DV.p (.int .i64 0)) = ints (List.replicate n 0) := by simp [ints]
  simp [get_pre hb, e]
  exact WkV.refl
theorem ok88 {G : Nat → DV} (h : List Blk) (lb sb b n : Nat) (hl : h[lb]? = some (.cells 1 [.ptr sb 0 0 1])) (hs : h[sb]? = some (.cells 1 [.sl b 0 0 0])) (hb : h[b]? = some (.cells 1 [])) (hn : n ≤ 1000) :
    Ok Tryd.prog G 88 [.p (.int .i64 n), .ptr lb 0 0 1] h (.tup []) ((h ++ [Blk.cells 1 (ints (List.replicate n 0))]).set sb (.cells 1 [.sl h.length 0 n n])) := by
  refine Ok_by Tryd.func88 c88_ok r88_ok 8 rfl ?_
  simp [c88, r88, hl, hs]
  refine DF_by (ok89 h b n hb hn) ?_
  simp [get_pre hs]
  exact WkV.refl
theorem ints_set {l : List Int} {i : Nat} {n : Int} : (ints l).set i (.p (.int .i64 n)) = ints (l.set i n) := by simp [ints, List.map_set]
theorem wf_ints' {B : Nat → Prop} {l : List Int} : (Blk.cells 1 (ints l)).wf B := fun j hj => by simp
theorem ok90 {G : Nat → DV} (h : List Blk) (lb sb nb N i : Nat) (vals : List Int) (n : Int) (hl : h[lb]? = some (.cells 1 [.ptr sb 0 0 1])) (hs : h[sb]? = some (.cells 1 [.sl nb 0 N N])) (hb : h[nb]? = some (.cells 1 (ints vals))) (hN : vals.length = N) (hi : i < N) (hn : I64 n) (hN1 : N ≤ 1000) :
    Ok Tryd.prog G 90 [.p (.int .i64 i), .agg (numD' (decI n)), .ptr lb 0 0 1] h (.p (.bool true)) (h.set nb (.cells 1 (ints (vals.set i n)))) := by
  subst hN
  refine Ok.wf fun hw => ?_
  refine Ok_by Tryd.func90 c90_ok r90_ok 20 rfl ?_
  have hnl : nb < h.length := (List.getElem?_eq_some_iff.1 hb).1
  have e5 : (ints vals)[i]?.getD .any = .p (.int .i64 vals[i]) := ints_get hi
  have hiI : (i : Int) < (vals.length : Int) := by omega
  simp [c90, r90, numD', hl, hs, hb, get_pre hl, get_pre hs, get_pre hb, e5, hi, hiI]
  rw [← numD']
  refine FF_by (ok91 _ n _ _ hn (by simp; rfl)) ?_
  simp [hl, hs, hb, get_pre hl, get_pre hs, get_pre hb, e5, hi, hiI, ints_set]
  rw [List.set_append_left _ _ hnl]
  refine WkV.drop (by simp) (fun hh => hh.set wf_ints') (by simp)
end Go.Proofs.YtppjcnaffphakaaDoor
