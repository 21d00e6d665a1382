/- impl.ProtoQueryWrite. -/
import Derived.Test.YtdgnjngbheecnaaDoorQwD
set_option linter.unusedVariables false
set_option linter.unusedSimpArgs false
set_option maxRecDepth 100000
set_option maxHeartbeats 4000000
namespace Go.Proofs.YtdgnjngbheecnaaDoor
open Go Go.Den Go.Proofs

/-- A query without a trace, as the law has it. -/
def pqD (q : Qy) : DV := .agg [.p (.string (txt q.id)), .p (.string (txt q.cl)), .p (.string (txt q.body)), .p (.string (txt q.quota)), .p (.string (txt q.user)), .p (.string (txt q.addr)), .p (.int .u64 q.a), .p (.int .u64 q.b), .p (.int .u64 q.c), .p (.int .u64 q.p), .fz 6 (sets q.ss), .fz 2 (pars q.ps), .p (.bool q.comp), .p (.string ⟨#[]⟩), .p (.string ⟨#[]⟩), .p (.string ⟨#[]⟩), .p (.int .u8 0)]

theorem ok15 {G : Nat → DV} (hg : G 1 = .fp (.agg [])) (h : List Blk) (q : Qy) (rev : Int) (hf : QFine q) (h1 : 54430 ≤ rev) (h2 : rev ≤ 54489) : Ok Tryd.prog G 15 [pqD q, .p (.int .u64 rev)] h (.tup [.p (.string (txt (encR q rev))), .p (.bool true)]) h := by
  refine Ok_by Tryd.func15 c15_ok r15_ok 62 rfl ?_
  simp [c15, r15, pqD]
  refine DPC_by (fun h' _ => ok30 h' q.a q.b q.c) (fun h1' => ?_)
  simp [verD]
  refine DPC_by (fun h' _ => ok31 h' q.ss hf.ss hf.sx) (fun h1' => ?_)
  simp
  refine DPC_by (fun h' _ => ok32 h' q.ps (by have := hf.ps; omega)) (fun h1' => ?_)
  simp
  refine FF_byR (ok33 hg _ (h.length + 1) (h.length + 2) (.p (.slice none 0 0)) q rev hf h1 h2 ⟨by simp, .nil, fun h => h⟩ (by simp [qyD]) (by omega) (fun h => h)) ?_
  rintro v h1' ⟨rfl, d1, k1, m1⟩
  have hpre : HPre h h1' := by
    intro b k hk
    have hlt := (List.getElem?_eq_some_iff.1 hk).1
    rw [m1.old b (by simp; omega) (by omega) fun h => h, List.getElem?_append_left hlt]
    exact hk
  simp [k1.at_, k1.sl.slice]
  exact WkV.ofPure hpre rfl
end Go.Proofs.YtdgnjngbheecnaaDoor
