/- A query's bytes, by the revision (printed by genen.py). -/
import Derived.Test.YtdgnjngbheecnaaDoorQwC
set_option linter.unusedVariables false
set_option linter.unusedSimpArgs false
set_option maxRecDepth 100000
set_option maxHeartbeats 4000000
namespace Go.Proofs.YtdgnjngbheecnaaDoor
open Go Go.Den Go.Proofs

def encW (q : Qy) (f49 f48 f42 f53 f41 f59 : Bool) : List UInt8 := lng q.id ++ (cliW q f49 f48 f42 f53 ++ (sesW q.ss ++ (lng [] ++ (sel f41 (lng []) ++ ([2] ++ ([ynB q.comp] ++ (lng q.body ++ sel f59 (parsW q.ps ++ lng []))))))))
theorem cliW_length {q : Qy} (hf : QFine q) (f49 f48 f42 f53 : Bool) : (cliW q f49 f48 f42 f53).length ≤ 30000 := by
  have o1 := hf.user
  have o2 := hf.addr
  have o3 := hf.cl
  have o4 := hf.quota
  have u1 := uv_length q.user.length (by simp [B64]; omega)
  have u2 := uv_length q.addr.length (by simp [B64]; omega)
  have u3 := uv_length q.cl.length (by simp [B64]; omega)
  have u4 := uv_length q.quota.length (by simp [B64]; omega)
  have u5 := uv_length q.a hf.a
  have u6 := uv_length q.b hf.b
  have u7 := uv_length q.p hf.p
  have u8 := uv_length 0 (by decide)
  have u9 := uv_length 4 (by decide)
  cases f49 <;> cases f48 <;> cases f42 <;> cases f53 <;> (simp [cliW, lng, sel, z8, usr, hst]; omega)
theorem ok33_0 {G : Nat → DV} (hg : G 1 = .fp (.agg [])) (h : List Blk) (qb bb : Nat) (d : DV) (q : Qy) (rev : Int) (hf : QFine q) (h1 : 54430 ≤ rev) (h2 : rev ≤ 54440) (hs : BufS h bb d []) (hq : h[qb]? = some (.cells 41 [qyD q])) (hne : qb ≠ bb) (hni : ¬ inBlk d qb) :
    OkR Tryd.prog G 33 [.ptr qb 0 0 1, .ptr bb 0 0 1, .p (.int .u64 rev)] h (BufE h bb d (encW q false false false false false false)) := by
  refine OkR_by Tryd.func33 c33_ok r33_ok 66 rfl ?_
  have hqb : qb < h.length := (List.getElem?_eq_some_iff.1 hq).1
  have hrev : ¬ rev ≤ 54429 := by omega
  have t54441 : ¬ (54441 : Int) ≤ rev := by omega
  have t54459 : ¬ (54459 : Int) ≤ rev := by omega
  have o1 := hf.id
  have o2 := hf.body
  have lc := cliW_length hf false false false false
  have ls := sesW_length q.ss hf.sx
  have lp := parsW_length q.ps hf.px
  have ps := hf.ps
  have ss := hf.ss
  have M0 : BufK h h bb d d := .refl
  have k0 := hs
  simp [c33, r33, hq, qyD, t54441, t54459]
  refine FF_byR (ok49 _ bb d [] q.id (by omega) (by first | omega | simp) k0) ?_
  rintro v h1' ⟨rfl, d1, k1, m1⟩
  have M1 := M0.trans m1
  have g1 := (M1.old qb hqb hne hni).trans hq
  have b1 : ¬ inBlk d1 qb := fun hh => (M1.new qb hh).elim hni (fun h => absurd hqb (Nat.not_lt.2 h))
  generalize hl1 : [] ++ (uv (q.id).length ++ q.id) = l1 at k1
  have n1 : l1.length ≤ 6000 := by
    rw [← hl1]; have := uv_length (q.id).length (by simp [B64]; omega); (try simp at this); (try simp); omega
  simp [g1, qyD, t54441, t54459]
  refine FF_byR (ok50_0 hg _ qb bb d1 l1 q rev hf h1 h2 (by omega) k1 g1 hne b1) ?_
  rintro v h2' ⟨rfl, d2, k2, m2⟩
  have M2 := M1.trans m2
  have g2 := (M2.old qb hqb hne hni).trans hq
  have b2 : ¬ inBlk d2 qb := fun hh => (M2.new qb hh).elim hni (fun h => absurd hqb (Nat.not_lt.2 h))
  generalize hl2 : l1 ++ cliW q false false false false = l2 at k2
  have n2 : l2.length ≤ 36000 := by
    rw [← hl2]; simp; omega
  simp [g2, qyD, t54441, t54459]
  refine FF_byR (ok51 _ bb d2 rev q.ss hrev hf.sx hf.ss l2 (by omega) k2) ?_
  rintro v h3' ⟨rfl, d3, k3, m3⟩
  have M3 := M2.trans m3
  have g3 := (M3.old qb hqb hne hni).trans hq
  have b3 : ¬ inBlk d3 qb := fun hh => (M3.new qb hh).elim hni (fun h => absurd hqb (Nat.not_lt.2 h))
  generalize hl3 : l2 ++ sesW q.ss = l3 at k3
  have n3 : l3.length ≤ 236000 := by
    rw [← hl3]; simp; omega
  simp [g3, qyD, t54441, t54459]
  refine FF_byR (ok49 _ bb d3 l3 ([] : List UInt8) (by simp) (by first | omega | simp) k3) ?_
  rintro v h4' ⟨rfl, d4, k4, m4⟩
  have M4 := M3.trans m4
  have g4 := (M4.old qb hqb hne hni).trans hq
  have b4 : ¬ inBlk d4 qb := fun hh => (M4.new qb hh).elim hni (fun h => absurd hqb (Nat.not_lt.2 h))
  generalize hl4 : l3 ++ (uv (([] : List UInt8)).length ++ ([] : List UInt8)) = l4 at k4
  have n4 : l4.length ≤ 242000 := by
    rw [← hl4]; have := uv_length (([] : List UInt8)).length (by simp [B64]); (try simp at this); (try simp); omega
  simp [g4, qyD, t54441, t54459]
  refine FF_byR (ok53 _ bb d4 l4 2 _ (by simp [byteD]) (by omega) k4) ?_
  rintro v h5' ⟨rfl, d5, k5, m5⟩
  have M5 := M4.trans m5
  have g5 := (M5.old qb hqb hne hni).trans hq
  have b5 : ¬ inBlk d5 qb := fun hh => (M5.new qb hh).elim hni (fun h => absurd hqb (Nat.not_lt.2 h))
  generalize hl5 : l4 ++ [2] = l5 at k5
  have n5 : l5.length ≤ 248000 := by
    rw [← hl5]; simp; omega
  simp [g5, qyD, t54441, t54459]
  refine FF_byR (ok54 _ bb d5 l5 q.comp (by omega) k5) ?_
  rintro v h6' ⟨rfl, d6, k6, m6⟩
  have M6 := M5.trans m6
  have g6 := (M6.old qb hqb hne hni).trans hq
  have b6 : ¬ inBlk d6 qb := fun hh => (M6.new qb hh).elim hni (fun h => absurd hqb (Nat.not_lt.2 h))
  generalize hl6 : l5 ++ [ynB q.comp] = l6 at k6
  have n6 : l6.length ≤ 254000 := by
    rw [← hl6]; simp; omega
  simp [g6, qyD, t54441, t54459]
  refine FF_byR (ok49 _ bb d6 l6 q.body (by omega) (by first | omega | simp) k6) ?_
  rintro v h7' ⟨rfl, d7, k7, m7⟩
  have M7 := M6.trans m7
  have g7 := (M7.old qb hqb hne hni).trans hq
  have b7 : ¬ inBlk d7 qb := fun hh => (M7.new qb hh).elim hni (fun h => absurd hqb (Nat.not_lt.2 h))
  generalize hl7 : l6 ++ (uv (q.body).length ++ q.body) = l7 at k7
  have n7 : l7.length ≤ 260000 := by
    rw [← hl7]; have := uv_length (q.body).length (by simp [B64]; omega); (try simp at this); (try simp); omega
  simp [g7, qyD, t54441, t54459]
  refine REr_by _ _ .refl ⟨rfl, d7, ?_, M7⟩
  subst hl1
  subst hl2
  subst hl3
  subst hl4
  subst hl5
  subst hl6
  subst hl7
  simpa [encW, lng, sel, List.append_assoc] using k7
theorem ok33_1 {G : Nat → DV} (hg : G 1 = .fp (.agg [])) (h : List Blk) (qb bb : Nat) (d : DV) (q : Qy) (rev : Int) (hf : QFine q) (h1 : 54441 ≤ rev) (h2 : rev ≤ 54441) (hs : BufS h bb d []) (hq : h[qb]? = some (.cells 41 [qyD q])) (hne : qb ≠ bb) (hni : ¬ inBlk d qb) :
    OkR Tryd.prog G 33 [.ptr qb 0 0 1, .ptr bb 0 0 1, .p (.int .u64 rev)] h (BufE h bb d (encW q false false false false true false)) := by
  refine OkR_by Tryd.func33 c33_ok r33_ok 66 rfl ?_
  have hqb : qb < h.length := (List.getElem?_eq_some_iff.1 hq).1
  have hrev : ¬ rev ≤ 54429 := by omega
  have t54441 : (54441 : Int) ≤ rev := by omega
  have t54459 : ¬ (54459 : Int) ≤ rev := by omega
  have o1 := hf.id
  have o2 := hf.body
  have lc := cliW_length hf false false false false
  have ls := sesW_length q.ss hf.sx
  have lp := parsW_length q.ps hf.px
  have ps := hf.ps
  have ss := hf.ss
  have M0 : BufK h h bb d d := .refl
  have k0 := hs
  simp [c33, r33, hq, qyD, t54441, t54459]
  refine FF_byR (ok49 _ bb d [] q.id (by omega) (by first | omega | simp) k0) ?_
  rintro v h1' ⟨rfl, d1, k1, m1⟩
  have M1 := M0.trans m1
  have g1 := (M1.old qb hqb hne hni).trans hq
  have b1 : ¬ inBlk d1 qb := fun hh => (M1.new qb hh).elim hni (fun h => absurd hqb (Nat.not_lt.2 h))
  generalize hl1 : [] ++ (uv (q.id).length ++ q.id) = l1 at k1
  have n1 : l1.length ≤ 6000 := by
    rw [← hl1]; have := uv_length (q.id).length (by simp [B64]; omega); (try simp at this); (try simp); omega
  simp [g1, qyD, t54441, t54459]
  refine FF_byR (ok50_1 hg _ qb bb d1 l1 q rev hf h1 h2 (by omega) k1 g1 hne b1) ?_
  rintro v h2' ⟨rfl, d2, k2, m2⟩
  have M2 := M1.trans m2
  have g2 := (M2.old qb hqb hne hni).trans hq
  have b2 : ¬ inBlk d2 qb := fun hh => (M2.new qb hh).elim hni (fun h => absurd hqb (Nat.not_lt.2 h))
  generalize hl2 : l1 ++ cliW q false false false false = l2 at k2
  have n2 : l2.length ≤ 36000 := by
    rw [← hl2]; simp; omega
  simp [g2, qyD, t54441, t54459]
  refine FF_byR (ok51 _ bb d2 rev q.ss hrev hf.sx hf.ss l2 (by omega) k2) ?_
  rintro v h3' ⟨rfl, d3, k3, m3⟩
  have M3 := M2.trans m3
  have g3 := (M3.old qb hqb hne hni).trans hq
  have b3 : ¬ inBlk d3 qb := fun hh => (M3.new qb hh).elim hni (fun h => absurd hqb (Nat.not_lt.2 h))
  generalize hl3 : l2 ++ sesW q.ss = l3 at k3
  have n3 : l3.length ≤ 236000 := by
    rw [← hl3]; simp; omega
  simp [g3, qyD, t54441, t54459]
  refine FF_byR (ok49 _ bb d3 l3 ([] : List UInt8) (by simp) (by first | omega | simp) k3) ?_
  rintro v h4' ⟨rfl, d4, k4, m4⟩
  have M4 := M3.trans m4
  have g4 := (M4.old qb hqb hne hni).trans hq
  have b4 : ¬ inBlk d4 qb := fun hh => (M4.new qb hh).elim hni (fun h => absurd hqb (Nat.not_lt.2 h))
  generalize hl4 : l3 ++ (uv (([] : List UInt8)).length ++ ([] : List UInt8)) = l4 at k4
  have n4 : l4.length ≤ 242000 := by
    rw [← hl4]; have := uv_length (([] : List UInt8)).length (by simp [B64]); (try simp at this); (try simp); omega
  simp [g4, qyD, t54441, t54459]
  refine FF_by (ok52 _ qb q g4) ?_
  simp [g4, qyD, t54441, t54459]
  refine FF_byR (ok49 _ bb d4 l4 ([] : List UInt8) (by simp) (by first | omega | simp) k4) ?_
  rintro v h5' ⟨rfl, d5, k5, m5⟩
  have M5 := M4.trans m5
  have g5 := (M5.old qb hqb hne hni).trans hq
  have b5 : ¬ inBlk d5 qb := fun hh => (M5.new qb hh).elim hni (fun h => absurd hqb (Nat.not_lt.2 h))
  generalize hl5 : l4 ++ (uv (([] : List UInt8)).length ++ ([] : List UInt8)) = l5 at k5
  have n5 : l5.length ≤ 248000 := by
    rw [← hl5]; have := uv_length (([] : List UInt8)).length (by simp [B64]); (try simp at this); (try simp); omega
  simp [g5, qyD, t54441, t54459]
  refine FF_byR (ok53 _ bb d5 l5 2 _ (by simp [byteD]) (by omega) k5) ?_
  rintro v h6' ⟨rfl, d6, k6, m6⟩
  have M6 := M5.trans m6
  have g6 := (M6.old qb hqb hne hni).trans hq
  have b6 : ¬ inBlk d6 qb := fun hh => (M6.new qb hh).elim hni (fun h => absurd hqb (Nat.not_lt.2 h))
  generalize hl6 : l5 ++ [2] = l6 at k6
  have n6 : l6.length ≤ 254000 := by
    rw [← hl6]; simp; omega
  simp [g6, qyD, t54441, t54459]
  refine FF_byR (ok54 _ bb d6 l6 q.comp (by omega) k6) ?_
  rintro v h7' ⟨rfl, d7, k7, m7⟩
  have M7 := M6.trans m7
  have g7 := (M7.old qb hqb hne hni).trans hq
  have b7 : ¬ inBlk d7 qb := fun hh => (M7.new qb hh).elim hni (fun h => absurd hqb (Nat.not_lt.2 h))
  generalize hl7 : l6 ++ [ynB q.comp] = l7 at k7
  have n7 : l7.length ≤ 260000 := by
    rw [← hl7]; simp; omega
  simp [g7, qyD, t54441, t54459]
  refine FF_byR (ok49 _ bb d7 l7 q.body (by omega) (by first | omega | simp) k7) ?_
  rintro v h8' ⟨rfl, d8, k8, m8⟩
  have M8 := M7.trans m8
  have g8 := (M8.old qb hqb hne hni).trans hq
  have b8 : ¬ inBlk d8 qb := fun hh => (M8.new qb hh).elim hni (fun h => absurd hqb (Nat.not_lt.2 h))
  generalize hl8 : l7 ++ (uv (q.body).length ++ q.body) = l8 at k8
  have n8 : l8.length ≤ 266000 := by
    rw [← hl8]; have := uv_length (q.body).length (by simp [B64]; omega); (try simp at this); (try simp); omega
  simp [g8, qyD, t54441, t54459]
  refine REr_by _ _ .refl ⟨rfl, d8, ?_, M8⟩
  subst hl1
  subst hl2
  subst hl3
  subst hl4
  subst hl5
  subst hl6
  subst hl7
  subst hl8
  simpa [encW, lng, sel, List.append_assoc] using k8
theorem ok33_2 {G : Nat → DV} (hg : G 1 = .fp (.agg [])) (h : List Blk) (qb bb : Nat) (d : DV) (q : Qy) (rev : Int) (hf : QFine q) (h1 : 54442 ≤ rev) (h2 : rev ≤ 54447) (hs : BufS h bb d []) (hq : h[qb]? = some (.cells 41 [qyD q])) (hne : qb ≠ bb) (hni : ¬ inBlk d qb) :
    OkR Tryd.prog G 33 [.ptr qb 0 0 1, .ptr bb 0 0 1, .p (.int .u64 rev)] h (BufE h bb d (encW q false false true false true false)) := by
  refine OkR_by Tryd.func33 c33_ok r33_ok 66 rfl ?_
  have hqb : qb < h.length := (List.getElem?_eq_some_iff.1 hq).1
  have hrev : ¬ rev ≤ 54429 := by omega
  have t54441 : (54441 : Int) ≤ rev := by omega
  have t54459 : ¬ (54459 : Int) ≤ rev := by omega
  have o1 := hf.id
  have o2 := hf.body
  have lc := cliW_length hf false false true false
  have ls := sesW_length q.ss hf.sx
  have lp := parsW_length q.ps hf.px
  have ps := hf.ps
  have ss := hf.ss
  have M0 : BufK h h bb d d := .refl
  have k0 := hs
  simp [c33, r33, hq, qyD, t54441, t54459]
  refine FF_byR (ok49 _ bb d [] q.id (by omega) (by first | omega | simp) k0) ?_
  rintro v h1' ⟨rfl, d1, k1, m1⟩
  have M1 := M0.trans m1
  have g1 := (M1.old qb hqb hne hni).trans hq
  have b1 : ¬ inBlk d1 qb := fun hh => (M1.new qb hh).elim hni (fun h => absurd hqb (Nat.not_lt.2 h))
  generalize hl1 : [] ++ (uv (q.id).length ++ q.id) = l1 at k1
  have n1 : l1.length ≤ 6000 := by
    rw [← hl1]; have := uv_length (q.id).length (by simp [B64]; omega); (try simp at this); (try simp); omega
  simp [g1, qyD, t54441, t54459]
  refine FF_byR (ok50_2 hg _ qb bb d1 l1 q rev hf h1 h2 (by omega) k1 g1 hne b1) ?_
  rintro v h2' ⟨rfl, d2, k2, m2⟩
  have M2 := M1.trans m2
  have g2 := (M2.old qb hqb hne hni).trans hq
  have b2 : ¬ inBlk d2 qb := fun hh => (M2.new qb hh).elim hni (fun h => absurd hqb (Nat.not_lt.2 h))
  generalize hl2 : l1 ++ cliW q false false true false = l2 at k2
  have n2 : l2.length ≤ 36000 := by
    rw [← hl2]; simp; omega
  simp [g2, qyD, t54441, t54459]
  refine FF_byR (ok51 _ bb d2 rev q.ss hrev hf.sx hf.ss l2 (by omega) k2) ?_
  rintro v h3' ⟨rfl, d3, k3, m3⟩
  have M3 := M2.trans m3
  have g3 := (M3.old qb hqb hne hni).trans hq
  have b3 : ¬ inBlk d3 qb := fun hh => (M3.new qb hh).elim hni (fun h => absurd hqb (Nat.not_lt.2 h))
  generalize hl3 : l2 ++ sesW q.ss = l3 at k3
  have n3 : l3.length ≤ 236000 := by
    rw [← hl3]; simp; omega
  simp [g3, qyD, t54441, t54459]
  refine FF_byR (ok49 _ bb d3 l3 ([] : List UInt8) (by simp) (by first | omega | simp) k3) ?_
  rintro v h4' ⟨rfl, d4, k4, m4⟩
  have M4 := M3.trans m4
  have g4 := (M4.old qb hqb hne hni).trans hq
  have b4 : ¬ inBlk d4 qb := fun hh => (M4.new qb hh).elim hni (fun h => absurd hqb (Nat.not_lt.2 h))
  generalize hl4 : l3 ++ (uv (([] : List UInt8)).length ++ ([] : List UInt8)) = l4 at k4
  have n4 : l4.length ≤ 242000 := by
    rw [← hl4]; have := uv_length (([] : List UInt8)).length (by simp [B64]); (try simp at this); (try simp); omega
  simp [g4, qyD, t54441, t54459]
  refine FF_by (ok52 _ qb q g4) ?_
  simp [g4, qyD, t54441, t54459]
  refine FF_byR (ok49 _ bb d4 l4 ([] : List UInt8) (by simp) (by first | omega | simp) k4) ?_
  rintro v h5' ⟨rfl, d5, k5, m5⟩
  have M5 := M4.trans m5
  have g5 := (M5.old qb hqb hne hni).trans hq
  have b5 : ¬ inBlk d5 qb := fun hh => (M5.new qb hh).elim hni (fun h => absurd hqb (Nat.not_lt.2 h))
  generalize hl5 : l4 ++ (uv (([] : List UInt8)).length ++ ([] : List UInt8)) = l5 at k5
  have n5 : l5.length ≤ 248000 := by
    rw [← hl5]; have := uv_length (([] : List UInt8)).length (by simp [B64]); (try simp at this); (try simp); omega
  simp [g5, qyD, t54441, t54459]
  refine FF_byR (ok53 _ bb d5 l5 2 _ (by simp [byteD]) (by omega) k5) ?_
  rintro v h6' ⟨rfl, d6, k6, m6⟩
  have M6 := M5.trans m6
  have g6 := (M6.old qb hqb hne hni).trans hq
  have b6 : ¬ inBlk d6 qb := fun hh => (M6.new qb hh).elim hni (fun h => absurd hqb (Nat.not_lt.2 h))
  generalize hl6 : l5 ++ [2] = l6 at k6
  have n6 : l6.length ≤ 254000 := by
    rw [← hl6]; simp; omega
  simp [g6, qyD, t54441, t54459]
  refine FF_byR (ok54 _ bb d6 l6 q.comp (by omega) k6) ?_
  rintro v h7' ⟨rfl, d7, k7, m7⟩
  have M7 := M6.trans m7
  have g7 := (M7.old qb hqb hne hni).trans hq
  have b7 : ¬ inBlk d7 qb := fun hh => (M7.new qb hh).elim hni (fun h => absurd hqb (Nat.not_lt.2 h))
  generalize hl7 : l6 ++ [ynB q.comp] = l7 at k7
  have n7 : l7.length ≤ 260000 := by
    rw [← hl7]; simp; omega
  simp [g7, qyD, t54441, t54459]
  refine FF_byR (ok49 _ bb d7 l7 q.body (by omega) (by first | omega | simp) k7) ?_
  rintro v h8' ⟨rfl, d8, k8, m8⟩
  have M8 := M7.trans m8
  have g8 := (M8.old qb hqb hne hni).trans hq
  have b8 : ¬ inBlk d8 qb := fun hh => (M8.new qb hh).elim hni (fun h => absurd hqb (Nat.not_lt.2 h))
  generalize hl8 : l7 ++ (uv (q.body).length ++ q.body) = l8 at k8
  have n8 : l8.length ≤ 266000 := by
    rw [← hl8]; have := uv_length (q.body).length (by simp [B64]; omega); (try simp at this); (try simp); omega
  simp [g8, qyD, t54441, t54459]
  refine REr_by _ _ .refl ⟨rfl, d8, ?_, M8⟩
  subst hl1
  subst hl2
  subst hl3
  subst hl4
  subst hl5
  subst hl6
  subst hl7
  subst hl8
  simpa [encW, lng, sel, List.append_assoc] using k8
theorem ok33_3 {G : Nat → DV} (hg : G 1 = .fp (.agg [])) (h : List Blk) (qb bb : Nat) (d : DV) (q : Qy) (rev : Int) (hf : QFine q) (h1 : 54448 ≤ rev) (h2 : rev ≤ 54448) (hs : BufS h bb d []) (hq : h[qb]? = some (.cells 41 [qyD q])) (hne : qb ≠ bb) (hni : ¬ inBlk d qb) :
    OkR Tryd.prog G 33 [.ptr qb 0 0 1, .ptr bb 0 0 1, .p (.int .u64 rev)] h (BufE h bb d (encW q false true true false true false)) := by
  refine OkR_by Tryd.func33 c33_ok r33_ok 66 rfl ?_
  have hqb : qb < h.length := (List.getElem?_eq_some_iff.1 hq).1
  have hrev : ¬ rev ≤ 54429 := by omega
  have t54441 : (54441 : Int) ≤ rev := by omega
  have t54459 : ¬ (54459 : Int) ≤ rev := by omega
  have o1 := hf.id
  have o2 := hf.body
  have lc := cliW_length hf false true true false
  have ls := sesW_length q.ss hf.sx
  have lp := parsW_length q.ps hf.px
  have ps := hf.ps
  have ss := hf.ss
  have M0 : BufK h h bb d d := .refl
  have k0 := hs
  simp [c33, r33, hq, qyD, t54441, t54459]
  refine FF_byR (ok49 _ bb d [] q.id (by omega) (by first | omega | simp) k0) ?_
  rintro v h1' ⟨rfl, d1, k1, m1⟩
  have M1 := M0.trans m1
  have g1 := (M1.old qb hqb hne hni).trans hq
  have b1 : ¬ inBlk d1 qb := fun hh => (M1.new qb hh).elim hni (fun h => absurd hqb (Nat.not_lt.2 h))
  generalize hl1 : [] ++ (uv (q.id).length ++ q.id) = l1 at k1
  have n1 : l1.length ≤ 6000 := by
    rw [← hl1]; have := uv_length (q.id).length (by simp [B64]; omega); (try simp at this); (try simp); omega
  simp [g1, qyD, t54441, t54459]
  refine FF_byR (ok50_3 hg _ qb bb d1 l1 q rev hf h1 h2 (by omega) k1 g1 hne b1) ?_
  rintro v h2' ⟨rfl, d2, k2, m2⟩
  have M2 := M1.trans m2
  have g2 := (M2.old qb hqb hne hni).trans hq
  have b2 : ¬ inBlk d2 qb := fun hh => (M2.new qb hh).elim hni (fun h => absurd hqb (Nat.not_lt.2 h))
  generalize hl2 : l1 ++ cliW q false true true false = l2 at k2
  have n2 : l2.length ≤ 36000 := by
    rw [← hl2]; simp; omega
  simp [g2, qyD, t54441, t54459]
  refine FF_byR (ok51 _ bb d2 rev q.ss hrev hf.sx hf.ss l2 (by omega) k2) ?_
  rintro v h3' ⟨rfl, d3, k3, m3⟩
  have M3 := M2.trans m3
  have g3 := (M3.old qb hqb hne hni).trans hq
  have b3 : ¬ inBlk d3 qb := fun hh => (M3.new qb hh).elim hni (fun h => absurd hqb (Nat.not_lt.2 h))
  generalize hl3 : l2 ++ sesW q.ss = l3 at k3
  have n3 : l3.length ≤ 236000 := by
    rw [← hl3]; simp; omega
  simp [g3, qyD, t54441, t54459]
  refine FF_byR (ok49 _ bb d3 l3 ([] : List UInt8) (by simp) (by first | omega | simp) k3) ?_
  rintro v h4' ⟨rfl, d4, k4, m4⟩
  have M4 := M3.trans m4
  have g4 := (M4.old qb hqb hne hni).trans hq
  have b4 : ¬ inBlk d4 qb := fun hh => (M4.new qb hh).elim hni (fun h => absurd hqb (Nat.not_lt.2 h))
  generalize hl4 : l3 ++ (uv (([] : List UInt8)).length ++ ([] : List UInt8)) = l4 at k4
  have n4 : l4.length ≤ 242000 := by
    rw [← hl4]; have := uv_length (([] : List UInt8)).length (by simp [B64]); (try simp at this); (try simp); omega
  simp [g4, qyD, t54441, t54459]
  refine FF_by (ok52 _ qb q g4) ?_
  simp [g4, qyD, t54441, t54459]
  refine FF_byR (ok49 _ bb d4 l4 ([] : List UInt8) (by simp) (by first | omega | simp) k4) ?_
  rintro v h5' ⟨rfl, d5, k5, m5⟩
  have M5 := M4.trans m5
  have g5 := (M5.old qb hqb hne hni).trans hq
  have b5 : ¬ inBlk d5 qb := fun hh => (M5.new qb hh).elim hni (fun h => absurd hqb (Nat.not_lt.2 h))
  generalize hl5 : l4 ++ (uv (([] : List UInt8)).length ++ ([] : List UInt8)) = l5 at k5
  have n5 : l5.length ≤ 248000 := by
    rw [← hl5]; have := uv_length (([] : List UInt8)).length (by simp [B64]); (try simp at this); (try simp); omega
  simp [g5, qyD, t54441, t54459]
  refine FF_byR (ok53 _ bb d5 l5 2 _ (by simp [byteD]) (by omega) k5) ?_
  rintro v h6' ⟨rfl, d6, k6, m6⟩
  have M6 := M5.trans m6
  have g6 := (M6.old qb hqb hne hni).trans hq
  have b6 : ¬ inBlk d6 qb := fun hh => (M6.new qb hh).elim hni (fun h => absurd hqb (Nat.not_lt.2 h))
  generalize hl6 : l5 ++ [2] = l6 at k6
  have n6 : l6.length ≤ 254000 := by
    rw [← hl6]; simp; omega
  simp [g6, qyD, t54441, t54459]
  refine FF_byR (ok54 _ bb d6 l6 q.comp (by omega) k6) ?_
  rintro v h7' ⟨rfl, d7, k7, m7⟩
  have M7 := M6.trans m7
  have g7 := (M7.old qb hqb hne hni).trans hq
  have b7 : ¬ inBlk d7 qb := fun hh => (M7.new qb hh).elim hni (fun h => absurd hqb (Nat.not_lt.2 h))
  generalize hl7 : l6 ++ [ynB q.comp] = l7 at k7
  have n7 : l7.length ≤ 260000 := by
    rw [← hl7]; simp; omega
  simp [g7, qyD, t54441, t54459]
  refine FF_byR (ok49 _ bb d7 l7 q.body (by omega) (by first | omega | simp) k7) ?_
  rintro v h8' ⟨rfl, d8, k8, m8⟩
  have M8 := M7.trans m8
  have g8 := (M8.old qb hqb hne hni).trans hq
  have b8 : ¬ inBlk d8 qb := fun hh => (M8.new qb hh).elim hni (fun h => absurd hqb (Nat.not_lt.2 h))
  generalize hl8 : l7 ++ (uv (q.body).length ++ q.body) = l8 at k8
  have n8 : l8.length ≤ 266000 := by
    rw [← hl8]; have := uv_length (q.body).length (by simp [B64]; omega); (try simp at this); (try simp); omega
  simp [g8, qyD, t54441, t54459]
  refine REr_by _ _ .refl ⟨rfl, d8, ?_, M8⟩
  subst hl1
  subst hl2
  subst hl3
  subst hl4
  subst hl5
  subst hl6
  subst hl7
  subst hl8
  simpa [encW, lng, sel, List.append_assoc] using k8
theorem ok33_4 {G : Nat → DV} (hg : G 1 = .fp (.agg [])) (h : List Blk) (qb bb : Nat) (d : DV) (q : Qy) (rev : Int) (hf : QFine q) (h1 : 54449 ≤ rev) (h2 : rev ≤ 54452) (hs : BufS h bb d []) (hq : h[qb]? = some (.cells 41 [qyD q])) (hne : qb ≠ bb) (hni : ¬ inBlk d qb) :
    OkR Tryd.prog G 33 [.ptr qb 0 0 1, .ptr bb 0 0 1, .p (.int .u64 rev)] h (BufE h bb d (encW q true true true false true false)) := by
  refine OkR_by Tryd.func33 c33_ok r33_ok 66 rfl ?_
  have hqb : qb < h.length := (List.getElem?_eq_some_iff.1 hq).1
  have hrev : ¬ rev ≤ 54429 := by omega
  have t54441 : (54441 : Int) ≤ rev := by omega
  have t54459 : ¬ (54459 : Int) ≤ rev := by omega
  have o1 := hf.id
  have o2 := hf.body
  have lc := cliW_length hf true true true false
  have ls := sesW_length q.ss hf.sx
  have lp := parsW_length q.ps hf.px
  have ps := hf.ps
  have ss := hf.ss
  have M0 : BufK h h bb d d := .refl
  have k0 := hs
  simp [c33, r33, hq, qyD, t54441, t54459]
  refine FF_byR (ok49 _ bb d [] q.id (by omega) (by first | omega | simp) k0) ?_
  rintro v h1' ⟨rfl, d1, k1, m1⟩
  have M1 := M0.trans m1
  have g1 := (M1.old qb hqb hne hni).trans hq
  have b1 : ¬ inBlk d1 qb := fun hh => (M1.new qb hh).elim hni (fun h => absurd hqb (Nat.not_lt.2 h))
  generalize hl1 : [] ++ (uv (q.id).length ++ q.id) = l1 at k1
  have n1 : l1.length ≤ 6000 := by
    rw [← hl1]; have := uv_length (q.id).length (by simp [B64]; omega); (try simp at this); (try simp); omega
  simp [g1, qyD, t54441, t54459]
  refine FF_byR (ok50_4 hg _ qb bb d1 l1 q rev hf h1 h2 (by omega) k1 g1 hne b1) ?_
  rintro v h2' ⟨rfl, d2, k2, m2⟩
  have M2 := M1.trans m2
  have g2 := (M2.old qb hqb hne hni).trans hq
  have b2 : ¬ inBlk d2 qb := fun hh => (M2.new qb hh).elim hni (fun h => absurd hqb (Nat.not_lt.2 h))
  generalize hl2 : l1 ++ cliW q true true true false = l2 at k2
  have n2 : l2.length ≤ 36000 := by
    rw [← hl2]; simp; omega
  simp [g2, qyD, t54441, t54459]
  refine FF_byR (ok51 _ bb d2 rev q.ss hrev hf.sx hf.ss l2 (by omega) k2) ?_
  rintro v h3' ⟨rfl, d3, k3, m3⟩
  have M3 := M2.trans m3
  have g3 := (M3.old qb hqb hne hni).trans hq
  have b3 : ¬ inBlk d3 qb := fun hh => (M3.new qb hh).elim hni (fun h => absurd hqb (Nat.not_lt.2 h))
  generalize hl3 : l2 ++ sesW q.ss = l3 at k3
  have n3 : l3.length ≤ 236000 := by
    rw [← hl3]; simp; omega
  simp [g3, qyD, t54441, t54459]
  refine FF_byR (ok49 _ bb d3 l3 ([] : List UInt8) (by simp) (by first | omega | simp) k3) ?_
  rintro v h4' ⟨rfl, d4, k4, m4⟩
  have M4 := M3.trans m4
  have g4 := (M4.old qb hqb hne hni).trans hq
  have b4 : ¬ inBlk d4 qb := fun hh => (M4.new qb hh).elim hni (fun h => absurd hqb (Nat.not_lt.2 h))
  generalize hl4 : l3 ++ (uv (([] : List UInt8)).length ++ ([] : List UInt8)) = l4 at k4
  have n4 : l4.length ≤ 242000 := by
    rw [← hl4]; have := uv_length (([] : List UInt8)).length (by simp [B64]); (try simp at this); (try simp); omega
  simp [g4, qyD, t54441, t54459]
  refine FF_by (ok52 _ qb q g4) ?_
  simp [g4, qyD, t54441, t54459]
  refine FF_byR (ok49 _ bb d4 l4 ([] : List UInt8) (by simp) (by first | omega | simp) k4) ?_
  rintro v h5' ⟨rfl, d5, k5, m5⟩
  have M5 := M4.trans m5
  have g5 := (M5.old qb hqb hne hni).trans hq
  have b5 : ¬ inBlk d5 qb := fun hh => (M5.new qb hh).elim hni (fun h => absurd hqb (Nat.not_lt.2 h))
  generalize hl5 : l4 ++ (uv (([] : List UInt8)).length ++ ([] : List UInt8)) = l5 at k5
  have n5 : l5.length ≤ 248000 := by
    rw [← hl5]; have := uv_length (([] : List UInt8)).length (by simp [B64]); (try simp at this); (try simp); omega
  simp [g5, qyD, t54441, t54459]
  refine FF_byR (ok53 _ bb d5 l5 2 _ (by simp [byteD]) (by omega) k5) ?_
  rintro v h6' ⟨rfl, d6, k6, m6⟩
  have M6 := M5.trans m6
  have g6 := (M6.old qb hqb hne hni).trans hq
  have b6 : ¬ inBlk d6 qb := fun hh => (M6.new qb hh).elim hni (fun h => absurd hqb (Nat.not_lt.2 h))
  generalize hl6 : l5 ++ [2] = l6 at k6
  have n6 : l6.length ≤ 254000 := by
    rw [← hl6]; simp; omega
  simp [g6, qyD, t54441, t54459]
  refine FF_byR (ok54 _ bb d6 l6 q.comp (by omega) k6) ?_
  rintro v h7' ⟨rfl, d7, k7, m7⟩
  have M7 := M6.trans m7
  have g7 := (M7.old qb hqb hne hni).trans hq
  have b7 : ¬ inBlk d7 qb := fun hh => (M7.new qb hh).elim hni (fun h => absurd hqb (Nat.not_lt.2 h))
  generalize hl7 : l6 ++ [ynB q.comp] = l7 at k7
  have n7 : l7.length ≤ 260000 := by
    rw [← hl7]; simp; omega
  simp [g7, qyD, t54441, t54459]
  refine FF_byR (ok49 _ bb d7 l7 q.body (by omega) (by first | omega | simp) k7) ?_
  rintro v h8' ⟨rfl, d8, k8, m8⟩
  have M8 := M7.trans m8
  have g8 := (M8.old qb hqb hne hni).trans hq
  have b8 : ¬ inBlk d8 qb := fun hh => (M8.new qb hh).elim hni (fun h => absurd hqb (Nat.not_lt.2 h))
  generalize hl8 : l7 ++ (uv (q.body).length ++ q.body) = l8 at k8
  have n8 : l8.length ≤ 266000 := by
    rw [← hl8]; have := uv_length (q.body).length (by simp [B64]; omega); (try simp at this); (try simp); omega
  simp [g8, qyD, t54441, t54459]
  refine REr_by _ _ .refl ⟨rfl, d8, ?_, M8⟩
  subst hl1
  subst hl2
  subst hl3
  subst hl4
  subst hl5
  subst hl6
  subst hl7
  subst hl8
  simpa [encW, lng, sel, List.append_assoc] using k8
theorem ok33_5 {G : Nat → DV} (hg : G 1 = .fp (.agg [])) (h : List Blk) (qb bb : Nat) (d : DV) (q : Qy) (rev : Int) (hf : QFine q) (h1 : 54453 ≤ rev) (h2 : rev ≤ 54458) (hs : BufS h bb d []) (hq : h[qb]? = some (.cells 41 [qyD q])) (hne : qb ≠ bb) (hni : ¬ inBlk d qb) :
    OkR Tryd.prog G 33 [.ptr qb 0 0 1, .ptr bb 0 0 1, .p (.int .u64 rev)] h (BufE h bb d (encW q true true true true true false)) := by
  refine OkR_by Tryd.func33 c33_ok r33_ok 66 rfl ?_
  have hqb : qb < h.length := (List.getElem?_eq_some_iff.1 hq).1
  have hrev : ¬ rev ≤ 54429 := by omega
  have t54441 : (54441 : Int) ≤ rev := by omega
  have t54459 : ¬ (54459 : Int) ≤ rev := by omega
  have o1 := hf.id
  have o2 := hf.body
  have lc := cliW_length hf true true true true
  have ls := sesW_length q.ss hf.sx
  have lp := parsW_length q.ps hf.px
  have ps := hf.ps
  have ss := hf.ss
  have M0 : BufK h h bb d d := .refl
  have k0 := hs
  simp [c33, r33, hq, qyD, t54441, t54459]
  refine FF_byR (ok49 _ bb d [] q.id (by omega) (by first | omega | simp) k0) ?_
  rintro v h1' ⟨rfl, d1, k1, m1⟩
  have M1 := M0.trans m1
  have g1 := (M1.old qb hqb hne hni).trans hq
  have b1 : ¬ inBlk d1 qb := fun hh => (M1.new qb hh).elim hni (fun h => absurd hqb (Nat.not_lt.2 h))
  generalize hl1 : [] ++ (uv (q.id).length ++ q.id) = l1 at k1
  have n1 : l1.length ≤ 6000 := by
    rw [← hl1]; have := uv_length (q.id).length (by simp [B64]; omega); (try simp at this); (try simp); omega
  simp [g1, qyD, t54441, t54459]
  refine FF_byR (ok50_5 hg _ qb bb d1 l1 q rev hf h1 h2 (by omega) k1 g1 hne b1) ?_
  rintro v h2' ⟨rfl, d2, k2, m2⟩
  have M2 := M1.trans m2
  have g2 := (M2.old qb hqb hne hni).trans hq
  have b2 : ¬ inBlk d2 qb := fun hh => (M2.new qb hh).elim hni (fun h => absurd hqb (Nat.not_lt.2 h))
  generalize hl2 : l1 ++ cliW q true true true true = l2 at k2
  have n2 : l2.length ≤ 36000 := by
    rw [← hl2]; simp; omega
  simp [g2, qyD, t54441, t54459]
  refine FF_byR (ok51 _ bb d2 rev q.ss hrev hf.sx hf.ss l2 (by omega) k2) ?_
  rintro v h3' ⟨rfl, d3, k3, m3⟩
  have M3 := M2.trans m3
  have g3 := (M3.old qb hqb hne hni).trans hq
  have b3 : ¬ inBlk d3 qb := fun hh => (M3.new qb hh).elim hni (fun h => absurd hqb (Nat.not_lt.2 h))
  generalize hl3 : l2 ++ sesW q.ss = l3 at k3
  have n3 : l3.length ≤ 236000 := by
    rw [← hl3]; simp; omega
  simp [g3, qyD, t54441, t54459]
  refine FF_byR (ok49 _ bb d3 l3 ([] : List UInt8) (by simp) (by first | omega | simp) k3) ?_
  rintro v h4' ⟨rfl, d4, k4, m4⟩
  have M4 := M3.trans m4
  have g4 := (M4.old qb hqb hne hni).trans hq
  have b4 : ¬ inBlk d4 qb := fun hh => (M4.new qb hh).elim hni (fun h => absurd hqb (Nat.not_lt.2 h))
  generalize hl4 : l3 ++ (uv (([] : List UInt8)).length ++ ([] : List UInt8)) = l4 at k4
  have n4 : l4.length ≤ 242000 := by
    rw [← hl4]; have := uv_length (([] : List UInt8)).length (by simp [B64]); (try simp at this); (try simp); omega
  simp [g4, qyD, t54441, t54459]
  refine FF_by (ok52 _ qb q g4) ?_
  simp [g4, qyD, t54441, t54459]
  refine FF_byR (ok49 _ bb d4 l4 ([] : List UInt8) (by simp) (by first | omega | simp) k4) ?_
  rintro v h5' ⟨rfl, d5, k5, m5⟩
  have M5 := M4.trans m5
  have g5 := (M5.old qb hqb hne hni).trans hq
  have b5 : ¬ inBlk d5 qb := fun hh => (M5.new qb hh).elim hni (fun h => absurd hqb (Nat.not_lt.2 h))
  generalize hl5 : l4 ++ (uv (([] : List UInt8)).length ++ ([] : List UInt8)) = l5 at k5
  have n5 : l5.length ≤ 248000 := by
    rw [← hl5]; have := uv_length (([] : List UInt8)).length (by simp [B64]); (try simp at this); (try simp); omega
  simp [g5, qyD, t54441, t54459]
  refine FF_byR (ok53 _ bb d5 l5 2 _ (by simp [byteD]) (by omega) k5) ?_
  rintro v h6' ⟨rfl, d6, k6, m6⟩
  have M6 := M5.trans m6
  have g6 := (M6.old qb hqb hne hni).trans hq
  have b6 : ¬ inBlk d6 qb := fun hh => (M6.new qb hh).elim hni (fun h => absurd hqb (Nat.not_lt.2 h))
  generalize hl6 : l5 ++ [2] = l6 at k6
  have n6 : l6.length ≤ 254000 := by
    rw [← hl6]; simp; omega
  simp [g6, qyD, t54441, t54459]
  refine FF_byR (ok54 _ bb d6 l6 q.comp (by omega) k6) ?_
  rintro v h7' ⟨rfl, d7, k7, m7⟩
  have M7 := M6.trans m7
  have g7 := (M7.old qb hqb hne hni).trans hq
  have b7 : ¬ inBlk d7 qb := fun hh => (M7.new qb hh).elim hni (fun h => absurd hqb (Nat.not_lt.2 h))
  generalize hl7 : l6 ++ [ynB q.comp] = l7 at k7
  have n7 : l7.length ≤ 260000 := by
    rw [← hl7]; simp; omega
  simp [g7, qyD, t54441, t54459]
  refine FF_byR (ok49 _ bb d7 l7 q.body (by omega) (by first | omega | simp) k7) ?_
  rintro v h8' ⟨rfl, d8, k8, m8⟩
  have M8 := M7.trans m8
  have g8 := (M8.old qb hqb hne hni).trans hq
  have b8 : ¬ inBlk d8 qb := fun hh => (M8.new qb hh).elim hni (fun h => absurd hqb (Nat.not_lt.2 h))
  generalize hl8 : l7 ++ (uv (q.body).length ++ q.body) = l8 at k8
  have n8 : l8.length ≤ 266000 := by
    rw [← hl8]; have := uv_length (q.body).length (by simp [B64]; omega); (try simp at this); (try simp); omega
  simp [g8, qyD, t54441, t54459]
  refine REr_by _ _ .refl ⟨rfl, d8, ?_, M8⟩
  subst hl1
  subst hl2
  subst hl3
  subst hl4
  subst hl5
  subst hl6
  subst hl7
  subst hl8
  simpa [encW, lng, sel, List.append_assoc] using k8
theorem ok33_6 {G : Nat → DV} (hg : G 1 = .fp (.agg [])) (h : List Blk) (qb bb : Nat) (d : DV) (q : Qy) (rev : Int) (hf : QFine q) (h1 : 54459 ≤ rev) (h2 : rev ≤ 54489) (hs : BufS h bb d []) (hq : h[qb]? = some (.cells 41 [qyD q])) (hne : qb ≠ bb) (hni : ¬ inBlk d qb) :
    OkR Tryd.prog G 33 [.ptr qb 0 0 1, .ptr bb 0 0 1, .p (.int .u64 rev)] h (BufE h bb d (encW q true true true true true true)) := by
  refine OkR_by Tryd.func33 c33_ok r33_ok 66 rfl ?_
  have hqb : qb < h.length := (List.getElem?_eq_some_iff.1 hq).1
  have hrev : ¬ rev ≤ 54429 := by omega
  have t54441 : (54441 : Int) ≤ rev := by omega
  have t54459 : (54459 : Int) ≤ rev := by omega
  have o1 := hf.id
  have o2 := hf.body
  have lc := cliW_length hf true true true true
  have ls := sesW_length q.ss hf.sx
  have lp := parsW_length q.ps hf.px
  have ps := hf.ps
  have ss := hf.ss
  have M0 : BufK h h bb d d := .refl
  have k0 := hs
  simp [c33, r33, hq, qyD, t54441, t54459]
  refine FF_byR (ok49 _ bb d [] q.id (by omega) (by first | omega | simp) k0) ?_
  rintro v h1' ⟨rfl, d1, k1, m1⟩
  have M1 := M0.trans m1
  have g1 := (M1.old qb hqb hne hni).trans hq
  have b1 : ¬ inBlk d1 qb := fun hh => (M1.new qb hh).elim hni (fun h => absurd hqb (Nat.not_lt.2 h))
  generalize hl1 : [] ++ (uv (q.id).length ++ q.id) = l1 at k1
  have n1 : l1.length ≤ 6000 := by
    rw [← hl1]; have := uv_length (q.id).length (by simp [B64]; omega); (try simp at this); (try simp); omega
  simp [g1, qyD, t54441, t54459]
  refine FF_byR (ok50_6 hg _ qb bb d1 l1 q rev hf h1 h2 (by omega) k1 g1 hne b1) ?_
  rintro v h2' ⟨rfl, d2, k2, m2⟩
  have M2 := M1.trans m2
  have g2 := (M2.old qb hqb hne hni).trans hq
  have b2 : ¬ inBlk d2 qb := fun hh => (M2.new qb hh).elim hni (fun h => absurd hqb (Nat.not_lt.2 h))
  generalize hl2 : l1 ++ cliW q true true true true = l2 at k2
  have n2 : l2.length ≤ 36000 := by
    rw [← hl2]; simp; omega
  simp [g2, qyD, t54441, t54459]
  refine FF_byR (ok51 _ bb d2 rev q.ss hrev hf.sx hf.ss l2 (by omega) k2) ?_
  rintro v h3' ⟨rfl, d3, k3, m3⟩
  have M3 := M2.trans m3
  have g3 := (M3.old qb hqb hne hni).trans hq
  have b3 : ¬ inBlk d3 qb := fun hh => (M3.new qb hh).elim hni (fun h => absurd hqb (Nat.not_lt.2 h))
  generalize hl3 : l2 ++ sesW q.ss = l3 at k3
  have n3 : l3.length ≤ 236000 := by
    rw [← hl3]; simp; omega
  simp [g3, qyD, t54441, t54459]
  refine FF_byR (ok49 _ bb d3 l3 ([] : List UInt8) (by simp) (by first | omega | simp) k3) ?_
  rintro v h4' ⟨rfl, d4, k4, m4⟩
  have M4 := M3.trans m4
  have g4 := (M4.old qb hqb hne hni).trans hq
  have b4 : ¬ inBlk d4 qb := fun hh => (M4.new qb hh).elim hni (fun h => absurd hqb (Nat.not_lt.2 h))
  generalize hl4 : l3 ++ (uv (([] : List UInt8)).length ++ ([] : List UInt8)) = l4 at k4
  have n4 : l4.length ≤ 242000 := by
    rw [← hl4]; have := uv_length (([] : List UInt8)).length (by simp [B64]); (try simp at this); (try simp); omega
  simp [g4, qyD, t54441, t54459]
  refine FF_by (ok52 _ qb q g4) ?_
  simp [g4, qyD, t54441, t54459]
  refine FF_byR (ok49 _ bb d4 l4 ([] : List UInt8) (by simp) (by first | omega | simp) k4) ?_
  rintro v h5' ⟨rfl, d5, k5, m5⟩
  have M5 := M4.trans m5
  have g5 := (M5.old qb hqb hne hni).trans hq
  have b5 : ¬ inBlk d5 qb := fun hh => (M5.new qb hh).elim hni (fun h => absurd hqb (Nat.not_lt.2 h))
  generalize hl5 : l4 ++ (uv (([] : List UInt8)).length ++ ([] : List UInt8)) = l5 at k5
  have n5 : l5.length ≤ 248000 := by
    rw [← hl5]; have := uv_length (([] : List UInt8)).length (by simp [B64]); (try simp at this); (try simp); omega
  simp [g5, qyD, t54441, t54459]
  refine FF_byR (ok53 _ bb d5 l5 2 _ (by simp [byteD]) (by omega) k5) ?_
  rintro v h6' ⟨rfl, d6, k6, m6⟩
  have M6 := M5.trans m6
  have g6 := (M6.old qb hqb hne hni).trans hq
  have b6 : ¬ inBlk d6 qb := fun hh => (M6.new qb hh).elim hni (fun h => absurd hqb (Nat.not_lt.2 h))
  generalize hl6 : l5 ++ [2] = l6 at k6
  have n6 : l6.length ≤ 254000 := by
    rw [← hl6]; simp; omega
  simp [g6, qyD, t54441, t54459]
  refine FF_byR (ok54 _ bb d6 l6 q.comp (by omega) k6) ?_
  rintro v h7' ⟨rfl, d7, k7, m7⟩
  have M7 := M6.trans m7
  have g7 := (M7.old qb hqb hne hni).trans hq
  have b7 : ¬ inBlk d7 qb := fun hh => (M7.new qb hh).elim hni (fun h => absurd hqb (Nat.not_lt.2 h))
  generalize hl7 : l6 ++ [ynB q.comp] = l7 at k7
  have n7 : l7.length ≤ 260000 := by
    rw [← hl7]; simp; omega
  simp [g7, qyD, t54441, t54459]
  refine FF_byR (ok49 _ bb d7 l7 q.body (by omega) (by first | omega | simp) k7) ?_
  rintro v h8' ⟨rfl, d8, k8, m8⟩
  have M8 := M7.trans m8
  have g8 := (M8.old qb hqb hne hni).trans hq
  have b8 : ¬ inBlk d8 qb := fun hh => (M8.new qb hh).elim hni (fun h => absurd hqb (Nat.not_lt.2 h))
  generalize hl8 : l7 ++ (uv (q.body).length ++ q.body) = l8 at k8
  have n8 : l8.length ≤ 266000 := by
    rw [← hl8]; have := uv_length (q.body).length (by simp [B64]; omega); (try simp at this); (try simp); omega
  simp [g8, qyD, t54441, t54459]
  refine FF_byR (ok55 _ bb d8 _ q.ps hf.px hf.ps l8 (by omega) k8) ?_
  rintro v h9' ⟨rfl, d9, k9, m9⟩
  have M9 := M8.trans m9
  have g9 := (M9.old qb hqb hne hni).trans hq
  have b9 : ¬ inBlk d9 qb := fun hh => (M9.new qb hh).elim hni (fun h => absurd hqb (Nat.not_lt.2 h))
  generalize hl9 : l8 ++ parsW q.ps = l9 at k9
  have n9 : l9.length ≤ 466000 := by
    rw [← hl9]; simp; omega
  simp [g9, qyD, t54441, t54459]
  refine FF_byR (ok49 _ bb d9 l9 ([] : List UInt8) (by simp) (by first | omega | simp) k9) ?_
  rintro v h10' ⟨rfl, d10, k10, m10⟩
  have M10 := M9.trans m10
  have g10 := (M10.old qb hqb hne hni).trans hq
  have b10 : ¬ inBlk d10 qb := fun hh => (M10.new qb hh).elim hni (fun h => absurd hqb (Nat.not_lt.2 h))
  generalize hl10 : l9 ++ (uv (([] : List UInt8)).length ++ ([] : List UInt8)) = l10 at k10
  have n10 : l10.length ≤ 472000 := by
    rw [← hl10]; have := uv_length (([] : List UInt8)).length (by simp [B64]); (try simp at this); (try simp); omega
  simp [g10, qyD, t54441, t54459]
  refine REr_by _ _ .refl ⟨rfl, d10, ?_, M10⟩
  subst hl1
  subst hl2
  subst hl3
  subst hl4
  subst hl5
  subst hl6
  subst hl7
  subst hl8
  subst hl9
  subst hl10
  simpa [encW, lng, sel, List.append_assoc] using k10
def encR (q : Qy) (rev : Int) : List UInt8 := encW q (decide ((54449 : Int) ≤ rev)) (decide ((54448 : Int) ≤ rev)) (decide ((54442 : Int) ≤ rev)) (decide ((54453 : Int) ≤ rev)) (decide ((54441 : Int) ≤ rev)) (decide ((54459 : Int) ≤ rev))
theorem ok33 {G : Nat → DV} (hg : G 1 = .fp (.agg [])) (h : List Blk) (qb bb : Nat) (d : DV) (q : Qy) (rev : Int) (hf : QFine q) (h1 : 54430 ≤ rev) (h2 : rev ≤ 54489) (hs : BufS h bb d []) (hq : h[qb]? = some (.cells 41 [qyD q])) (hne : qb ≠ bb) (hni : ¬ inBlk d qb) :
    OkR Tryd.prog G 33 [.ptr qb 0 0 1, .ptr bb 0 0 1, .p (.int .u64 rev)] h (BufE h bb d (encR q rev)) := by
  rcases (show (54430 ≤ rev ∧ rev ≤ 54440) ∨ (54441 ≤ rev ∧ rev ≤ 54441) ∨ (54442 ≤ rev ∧ rev ≤ 54447) ∨ (54448 ≤ rev ∧ rev ≤ 54448) ∨ (54449 ≤ rev ∧ rev ≤ 54452) ∨ (54453 ≤ rev ∧ rev ≤ 54458) ∨ (54459 ≤ rev ∧ rev ≤ 54489) by omega) with ⟨a, b⟩ | ⟨a, b⟩ | ⟨a, b⟩ | ⟨a, b⟩ | ⟨a, b⟩ | ⟨a, b⟩ | ⟨a, b⟩
  · rw [encR, decide_eq_false (show ¬ (54449 : Int) ≤ rev by omega), decide_eq_false (show ¬ (54448 : Int) ≤ rev by omega), decide_eq_false (show ¬ (54442 : Int) ≤ rev by omega), decide_eq_false (show ¬ (54453 : Int) ≤ rev by omega), decide_eq_false (show ¬ (54441 : Int) ≤ rev by omega), decide_eq_false (show ¬ (54459 : Int) ≤ rev by omega)]
    exact ok33_0 hg h qb bb d q rev hf a b hs hq hne hni
  · rw [encR, decide_eq_false (show ¬ (54449 : Int) ≤ rev by omega), decide_eq_false (show ¬ (54448 : Int) ≤ rev by omega), decide_eq_false (show ¬ (54442 : Int) ≤ rev by omega), decide_eq_false (show ¬ (54453 : Int) ≤ rev by omega), decide_eq_true (show (54441 : Int) ≤ rev by omega), decide_eq_false (show ¬ (54459 : Int) ≤ rev by omega)]
    exact ok33_1 hg h qb bb d q rev hf a b hs hq hne hni
  · rw [encR, decide_eq_false (show ¬ (54449 : Int) ≤ rev by omega), decide_eq_false (show ¬ (54448 : Int) ≤ rev by omega), decide_eq_true (show (54442 : Int) ≤ rev by omega), decide_eq_false (show ¬ (54453 : Int) ≤ rev by omega), decide_eq_true (show (54441 : Int) ≤ rev by omega), decide_eq_false (show ¬ (54459 : Int) ≤ rev by omega)]
    exact ok33_2 hg h qb bb d q rev hf a b hs hq hne hni
  · rw [encR, decide_eq_false (show ¬ (54449 : Int) ≤ rev by omega), decide_eq_true (show (54448 : Int) ≤ rev by omega), decide_eq_true (show (54442 : Int) ≤ rev by omega), decide_eq_false (show ¬ (54453 : Int) ≤ rev by omega), decide_eq_true (show (54441 : Int) ≤ rev by omega), decide_eq_false (show ¬ (54459 : Int) ≤ rev by omega)]
    exact ok33_3 hg h qb bb d q rev hf a b hs hq hne hni
  · rw [encR, decide_eq_true (show (54449 : Int) ≤ rev by omega), decide_eq_true (show (54448 : Int) ≤ rev by omega), decide_eq_true (show (54442 : Int) ≤ rev by omega), decide_eq_false (show ¬ (54453 : Int) ≤ rev by omega), decide_eq_true (show (54441 : Int) ≤ rev by omega), decide_eq_false (show ¬ (54459 : Int) ≤ rev by omega)]
    exact ok33_4 hg h qb bb d q rev hf a b hs hq hne hni
  · rw [encR, decide_eq_true (show (54449 : Int) ≤ rev by omega), decide_eq_true (show (54448 : Int) ≤ rev by omega), decide_eq_true (show (54442 : Int) ≤ rev by omega), decide_eq_true (show (54453 : Int) ≤ rev by omega), decide_eq_true (show (54441 : Int) ≤ rev by omega), decide_eq_false (show ¬ (54459 : Int) ≤ rev by omega)]
    exact ok33_5 hg h qb bb d q rev hf a b hs hq hne hni
  · rw [encR, decide_eq_true (show (54449 : Int) ≤ rev by omega), decide_eq_true (show (54448 : Int) ≤ rev by omega), decide_eq_true (show (54442 : Int) ≤ rev by omega), decide_eq_true (show (54453 : Int) ≤ rev by omega), decide_eq_true (show (54441 : Int) ≤ rev by omega), decide_eq_true (show (54459 : Int) ≤ rev by omega)]
    exact ok33_6 hg h qb bb d q rev hf a b hs hq hne hni
end Go.Proofs.YtdgnjngbheecnaaDoor
