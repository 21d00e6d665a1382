/- A query's client: its bytes, by the revision (printed by gencl.py). -/
import Derived.Test.YtdgnjngbheecnaaDoorQwB
set_option linter.unusedVariables false
set_option linter.unusedSimpArgs false
set_option maxRecDepth 100000
set_option maxHeartbeats 4000000
namespace Go.Proofs.YtdgnjngbheecnaaDoor
open Go Go.Den Go.Proofs

/-- A query, as the package has it. -/
structure Qy where
  id : List UInt8
  cl : List UInt8
  body : List UInt8
  quota : List UInt8
  user : List UInt8
  addr : List UInt8
  a : Nat
  b : Nat
  c : Nat
  p : Nat
  ss : List Sett
  ps : List Par
  comp : Bool
structure QFine (q : Qy) : Prop where
  id : q.id.length ≤ 5000
  cl : q.cl.length ≤ 5000
  body : q.body.length ≤ 5000
  quota : q.quota.length ≤ 5000
  user : q.user.length ≤ 5000
  addr : q.addr.length ≤ 5000
  a : q.a < B64
  b : q.b < B64
  c : q.c < B64
  p : q.p < B64
  ss : q.ss.length ≤ 10
  sx : ∀ x, x ∈ q.ss → SFine x
  ps : q.ps.length ≤ 10
  px : ∀ x, x ∈ q.ps → Fine x
  sk : ∀ x, x ∈ q.ss → x.k ≠ []
  pk : ∀ x, x ∈ q.ps → x.1 ≠ []
abbrev u8z : DV := .p (.int .u8 0)
def spD : DV := .agg [u8z, u8z, u8z, u8z, u8z, u8z, u8z, u8z, u8z, u8z, u8z, u8z, u8z, u8z, u8z, u8z, u8z, u8z, u8z, u8z, u8z, u8z, u8z, u8z, u8z, .p (.string ⟨#[]⟩)]
def qyD (q : Qy) : DV := .agg [.p (.string (txt q.id)), .p (.string (txt q.cl)), .p (.int .u64 q.a), .p (.int .u64 q.b), .p (.int .u64 q.c), .p (.int .u64 q.p), u8z, u8z, u8z, u8z, u8z, u8z, u8z, u8z, u8z, u8z, u8z, u8z, u8z, u8z, u8z, u8z, u8z, u8z, u8z, u8z, u8z, u8z, u8z, u8z, u8z, .p (.string ⟨#[]⟩), .p (.string (txt q.body)), .p (.string (txt q.quota)), .fz 4 (pros q.ss), .fz 2 (pars q.ps), .p (.bool q.comp), .p (.string (txt q.user)), .p (.string (txt q.addr)), .p (.string ⟨#[]⟩), .p (.string ⟨#[]⟩)]
theorem ok67 {G : Nat → DV} (h : List Blk) : Ok Tryd.prog G 67 [spD] h (.p (.bool false)) h := by
  refine Ok_by Tryd.func67 c67_ok r67_ok 12 rfl ?_
  simp [c67, r67, spD]
theorem ok52 {G : Nat → DV} (h : List Blk) (qb : Nat) (q : Qy) (hq : h[qb]? = some (.cells 41 [qyD q])) : Ok Tryd.prog G 52 [.ptr qb 0 0 1] h (.p (.string ⟨#[]⟩)) h := by
  refine Ok_by Tryd.func52 c52_ok r52_ok 47 rfl ?_
  simp [c52, r52, hq, qyD]
def lng (s : List UInt8) : List UInt8 := uv s.length ++ s
def sel (b : Bool) (l : List UInt8) : List UInt8 := if b = true then l else []
def usr : List UInt8 := [117, 115, 101, 114]
def hst : List UInt8 := [104, 111, 115, 116]
def cliW (q : Qy) (f49 f48 f42 f53 : Bool) : List UInt8 := [1] ++ (lng q.user ++ (lng [] ++ (lng q.addr ++ (sel f49 z8 ++ ([1] ++ (lng usr ++ (lng hst ++ (lng q.cl ++ (uv q.a ++ (uv q.b ++ (uv q.p ++ (lng q.quota ++ (sel f48 (uv 0) ++ (uv 0 ++ (sel f42 [0] ++ sel f53 (uv 0 ++ (uv 0 ++ uv 0)))))))))))))))))
theorem ok50_0 {G : Nat → DV} (hg : G 1 = .fp (.agg [])) (h : List Blk) (qb bb : Nat) (d : DV) (l : List UInt8) (q : Qy) (rev : Int) (hf : QFine q) (h1 : 54430 ≤ rev) (h2 : rev ≤ 54440) (hl : l.length ≤ 200000) (hs : BufS h bb d l) (hq : h[qb]? = some (.cells 41 [qyD q])) (hne : qb ≠ bb) (hni : ¬ inBlk d qb) :
    OkR Tryd.prog G 50 [.ptr qb 0 0 1, .ptr bb 0 0 1, .p (.int .u64 rev)] h (BufE h bb d (l ++ cliW q false false false false)) := by
  refine OkR_by Tryd.func50 c50_ok r50_ok 136 rfl ?_
  have hqb : qb < h.length := (List.getElem?_eq_some_iff.1 hq).1
  have t54449 : ¬ (54449 : Int) ≤ rev := by omega
  have t54060 : (54060 : Int) ≤ rev := by omega
  have t54448 : ¬ (54448 : Int) ≤ rev := by omega
  have t54401 : (54401 : Int) ≤ rev := by omega
  have t54442 : ¬ (54442 : Int) ≤ rev := by omega
  have t54453 : ¬ (54453 : Int) ≤ rev := by omega
  have o1 := hf.user
  have o2 := hf.addr
  have o3 := hf.cl
  have o4 := hf.quota
  have M0 : BufK h h bb d d := .refl
  have k0 := hs
  simp [c50, r50, hq, qyD, t54449, t54060, t54448, t54401, t54442, t54453]
  refine FF_byR (ok53 _ bb d l 1 _ (by simp [byteD]) (by omega) k0) ?_
  rintro v h1' ⟨rfl, d1, k1, m1⟩
  have M1 := M0.trans m1
  have g1 := (M1.old qb hqb hne hni).trans hq
  generalize hl1 : l ++ [1] = l1 at k1
  have n1 : l1.length ≤ 206000 := by
    rw [← hl1]; simp; omega
  simp [g1, qyD, t54449, t54060, t54448, t54401, t54442, t54453]
  refine FF_byR (ok49 _ bb d1 l1 q.user (by omega) (by omega) k1) ?_
  rintro v h2' ⟨rfl, d2, k2, m2⟩
  have M2 := M1.trans m2
  have g2 := (M2.old qb hqb hne hni).trans hq
  generalize hl2 : l1 ++ (uv (q.user).length ++ q.user) = l2 at k2
  have n2 : l2.length ≤ 212000 := by
    rw [← hl2]; have := uv_length (q.user).length (by simp [B64, usr, hst]; omega); (try simp [usr, hst] at this); (try simp [usr, hst]); omega
  simp [g2, qyD, t54449, t54060, t54448, t54401, t54442, t54453]
  refine FF_byR (ok49 _ bb d2 l2 ([] : List UInt8) (by simp [usr, hst]) (by omega) k2) ?_
  rintro v h3' ⟨rfl, d3, k3, m3⟩
  have M3 := M2.trans m3
  have g3 := (M3.old qb hqb hne hni).trans hq
  generalize hl3 : l2 ++ (uv (([] : List UInt8)).length ++ ([] : List UInt8)) = l3 at k3
  have n3 : l3.length ≤ 218000 := by
    rw [← hl3]; have := uv_length (([] : List UInt8)).length (by simp [B64, usr, hst]); (try simp [usr, hst] at this); (try simp [usr, hst]); omega
  simp [g3, qyD, t54449, t54060, t54448, t54401, t54442, t54453]
  refine FF_byR (ok49 _ bb d3 l3 q.addr (by omega) (by omega) k3) ?_
  rintro v h4' ⟨rfl, d4, k4, m4⟩
  have M4 := M3.trans m4
  have g4 := (M4.old qb hqb hne hni).trans hq
  generalize hl4 : l3 ++ (uv (q.addr).length ++ q.addr) = l4 at k4
  have n4 : l4.length ≤ 224000 := by
    rw [← hl4]; have := uv_length (q.addr).length (by simp [B64, usr, hst]; omega); (try simp [usr, hst] at this); (try simp [usr, hst]); omega
  simp [g4, qyD, t54449, t54060, t54448, t54401, t54442, t54453]
  refine FF_byR (ok53 _ bb d4 l4 1 _ (by simp [byteD]) (by omega) k4) ?_
  rintro v h5' ⟨rfl, d5, k5, m5⟩
  have M5 := M4.trans m5
  have g5 := (M5.old qb hqb hne hni).trans hq
  generalize hl5 : l4 ++ [1] = l5 at k5
  have n5 : l5.length ≤ 230000 := by
    rw [← hl5]; simp; omega
  simp [g5, qyD, t54449, t54060, t54448, t54401, t54442, t54453]
  refine FF_byR (ok49 _ bb d5 l5 usr (by simp [usr, hst]) (by omega) k5) ?_
  rintro v h6' ⟨rfl, d6, k6, m6⟩
  have M6 := M5.trans m6
  have g6 := (M6.old qb hqb hne hni).trans hq
  generalize hl6 : l5 ++ (uv (usr).length ++ usr) = l6 at k6
  have n6 : l6.length ≤ 236000 := by
    rw [← hl6]; have := uv_length (usr).length (by simp [B64, usr, hst]); (try simp [usr, hst] at this); (try simp [usr, hst]); omega
  simp [g6, qyD, t54449, t54060, t54448, t54401, t54442, t54453]
  refine FF_byR (ok49 _ bb d6 l6 hst (by simp [usr, hst]) (by omega) k6) ?_
  rintro v h7' ⟨rfl, d7, k7, m7⟩
  have M7 := M6.trans m7
  have g7 := (M7.old qb hqb hne hni).trans hq
  generalize hl7 : l6 ++ (uv (hst).length ++ hst) = l7 at k7
  have n7 : l7.length ≤ 242000 := by
    rw [← hl7]; have := uv_length (hst).length (by simp [B64, usr, hst]); (try simp [usr, hst] at this); (try simp [usr, hst]); omega
  simp [g7, qyD, t54449, t54060, t54448, t54401, t54442, t54453]
  refine FF_byR (ok49 _ bb d7 l7 q.cl (by omega) (by omega) k7) ?_
  rintro v h8' ⟨rfl, d8, k8, m8⟩
  have M8 := M7.trans m8
  have g8 := (M8.old qb hqb hne hni).trans hq
  generalize hl8 : l7 ++ (uv (q.cl).length ++ q.cl) = l8 at k8
  have n8 : l8.length ≤ 248000 := by
    rw [← hl8]; have := uv_length (q.cl).length (by simp [B64, usr, hst]; omega); (try simp [usr, hst] at this); (try simp [usr, hst]); omega
  simp [g8, qyD, t54449, t54060, t54448, t54401, t54442, t54453]
  refine FF_byR (ok66 _ bb d8 l8 q.a (hf.a) (by omega) k8) ?_
  rintro v h9' ⟨rfl, d9, k9, m9⟩
  have M9 := M8.trans m9
  have g9 := (M9.old qb hqb hne hni).trans hq
  generalize hl9 : l8 ++ uv q.a = l9 at k9
  have n9 : l9.length ≤ 254000 := by
    rw [← hl9]; have := uv_length q.a (hf.a); (try simp at this); (try simp); omega
  simp [g9, qyD, t54449, t54060, t54448, t54401, t54442, t54453]
  refine FF_byR (ok66 _ bb d9 l9 q.b (hf.b) (by omega) k9) ?_
  rintro v h10' ⟨rfl, d10, k10, m10⟩
  have M10 := M9.trans m10
  have g10 := (M10.old qb hqb hne hni).trans hq
  generalize hl10 : l9 ++ uv q.b = l10 at k10
  have n10 : l10.length ≤ 260000 := by
    rw [← hl10]; have := uv_length q.b (hf.b); (try simp at this); (try simp); omega
  simp [g10, qyD, t54449, t54060, t54448, t54401, t54442, t54453]
  refine FF_byR (ok66 _ bb d10 l10 q.p (hf.p) (by omega) k10) ?_
  rintro v h11' ⟨rfl, d11, k11, m11⟩
  have M11 := M10.trans m11
  have g11 := (M11.old qb hqb hne hni).trans hq
  generalize hl11 : l10 ++ uv q.p = l11 at k11
  have n11 : l11.length ≤ 266000 := by
    rw [← hl11]; have := uv_length q.p (hf.p); (try simp at this); (try simp); omega
  simp [g11, qyD, t54449, t54060, t54448, t54401, t54442, t54453]
  refine FF_byR (ok49 _ bb d11 l11 q.quota (by omega) (by omega) k11) ?_
  rintro v h12' ⟨rfl, d12, k12, m12⟩
  have M12 := M11.trans m12
  have g12 := (M12.old qb hqb hne hni).trans hq
  generalize hl12 : l11 ++ (uv (q.quota).length ++ q.quota) = l12 at k12
  have n12 : l12.length ≤ 272000 := by
    rw [← hl12]; have := uv_length (q.quota).length (by simp [B64, usr, hst]; omega); (try simp [usr, hst] at this); (try simp [usr, hst]); omega
  simp [g12, qyD, t54449, t54060, t54448, t54401, t54442, t54453]
  refine FF_byR (ok66 _ bb d12 l12 0 (by decide) (by omega) k12) ?_
  rintro v h13' ⟨rfl, d13, k13, m13⟩
  have M13 := M12.trans m13
  have g13 := (M13.old qb hqb hne hni).trans hq
  generalize hl13 : l12 ++ uv 0 = l13 at k13
  have n13 : l13.length ≤ 278000 := by
    rw [← hl13]; have := uv_length 0 (by decide); (try simp at this); (try simp); omega
  simp [g13, qyD, t54449, t54060, t54448, t54401, t54442, t54453]
  refine REr_by _ _ .refl ⟨rfl, d13, ?_, M13⟩
  subst hl1
  subst hl2
  subst hl3
  subst hl4
  subst hl5
  subst hl6
  subst hl7
  subst hl8
  subst hl9
  subst hl10
  subst hl11
  subst hl12
  subst hl13
  simpa [cliW, lng, sel, usr, hst, List.append_assoc] using k13
theorem ok50_1 {G : Nat → DV} (hg : G 1 = .fp (.agg [])) (h : List Blk) (qb bb : Nat) (d : DV) (l : List UInt8) (q : Qy) (rev : Int) (hf : QFine q) (h1 : 54441 ≤ rev) (h2 : rev ≤ 54441) (hl : l.length ≤ 200000) (hs : BufS h bb d l) (hq : h[qb]? = some (.cells 41 [qyD q])) (hne : qb ≠ bb) (hni : ¬ inBlk d qb) :
    OkR Tryd.prog G 50 [.ptr qb 0 0 1, .ptr bb 0 0 1, .p (.int .u64 rev)] h (BufE h bb d (l ++ cliW q false false false false)) := by
  refine OkR_by Tryd.func50 c50_ok r50_ok 136 rfl ?_
  have hqb : qb < h.length := (List.getElem?_eq_some_iff.1 hq).1
  have t54449 : ¬ (54449 : Int) ≤ rev := by omega
  have t54060 : (54060 : Int) ≤ rev := by omega
  have t54448 : ¬ (54448 : Int) ≤ rev := by omega
  have t54401 : (54401 : Int) ≤ rev := by omega
  have t54442 : ¬ (54442 : Int) ≤ rev := by omega
  have t54453 : ¬ (54453 : Int) ≤ rev := by omega
  have o1 := hf.user
  have o2 := hf.addr
  have o3 := hf.cl
  have o4 := hf.quota
  have M0 : BufK h h bb d d := .refl
  have k0 := hs
  simp [c50, r50, hq, qyD, t54449, t54060, t54448, t54401, t54442, t54453]
  refine FF_byR (ok53 _ bb d l 1 _ (by simp [byteD]) (by omega) k0) ?_
  rintro v h1' ⟨rfl, d1, k1, m1⟩
  have M1 := M0.trans m1
  have g1 := (M1.old qb hqb hne hni).trans hq
  generalize hl1 : l ++ [1] = l1 at k1
  have n1 : l1.length ≤ 206000 := by
    rw [← hl1]; simp; omega
  simp [g1, qyD, t54449, t54060, t54448, t54401, t54442, t54453]
  refine FF_byR (ok49 _ bb d1 l1 q.user (by omega) (by omega) k1) ?_
  rintro v h2' ⟨rfl, d2, k2, m2⟩
  have M2 := M1.trans m2
  have g2 := (M2.old qb hqb hne hni).trans hq
  generalize hl2 : l1 ++ (uv (q.user).length ++ q.user) = l2 at k2
  have n2 : l2.length ≤ 212000 := by
    rw [← hl2]; have := uv_length (q.user).length (by simp [B64, usr, hst]; omega); (try simp [usr, hst] at this); (try simp [usr, hst]); omega
  simp [g2, qyD, t54449, t54060, t54448, t54401, t54442, t54453]
  refine FF_byR (ok49 _ bb d2 l2 ([] : List UInt8) (by simp [usr, hst]) (by omega) k2) ?_
  rintro v h3' ⟨rfl, d3, k3, m3⟩
  have M3 := M2.trans m3
  have g3 := (M3.old qb hqb hne hni).trans hq
  generalize hl3 : l2 ++ (uv (([] : List UInt8)).length ++ ([] : List UInt8)) = l3 at k3
  have n3 : l3.length ≤ 218000 := by
    rw [← hl3]; have := uv_length (([] : List UInt8)).length (by simp [B64, usr, hst]); (try simp [usr, hst] at this); (try simp [usr, hst]); omega
  simp [g3, qyD, t54449, t54060, t54448, t54401, t54442, t54453]
  refine FF_byR (ok49 _ bb d3 l3 q.addr (by omega) (by omega) k3) ?_
  rintro v h4' ⟨rfl, d4, k4, m4⟩
  have M4 := M3.trans m4
  have g4 := (M4.old qb hqb hne hni).trans hq
  generalize hl4 : l3 ++ (uv (q.addr).length ++ q.addr) = l4 at k4
  have n4 : l4.length ≤ 224000 := by
    rw [← hl4]; have := uv_length (q.addr).length (by simp [B64, usr, hst]; omega); (try simp [usr, hst] at this); (try simp [usr, hst]); omega
  simp [g4, qyD, t54449, t54060, t54448, t54401, t54442, t54453]
  refine FF_byR (ok53 _ bb d4 l4 1 _ (by simp [byteD]) (by omega) k4) ?_
  rintro v h5' ⟨rfl, d5, k5, m5⟩
  have M5 := M4.trans m5
  have g5 := (M5.old qb hqb hne hni).trans hq
  generalize hl5 : l4 ++ [1] = l5 at k5
  have n5 : l5.length ≤ 230000 := by
    rw [← hl5]; simp; omega
  simp [g5, qyD, t54449, t54060, t54448, t54401, t54442, t54453]
  refine FF_byR (ok49 _ bb d5 l5 usr (by simp [usr, hst]) (by omega) k5) ?_
  rintro v h6' ⟨rfl, d6, k6, m6⟩
  have M6 := M5.trans m6
  have g6 := (M6.old qb hqb hne hni).trans hq
  generalize hl6 : l5 ++ (uv (usr).length ++ usr) = l6 at k6
  have n6 : l6.length ≤ 236000 := by
    rw [← hl6]; have := uv_length (usr).length (by simp [B64, usr, hst]); (try simp [usr, hst] at this); (try simp [usr, hst]); omega
  simp [g6, qyD, t54449, t54060, t54448, t54401, t54442, t54453]
  refine FF_byR (ok49 _ bb d6 l6 hst (by simp [usr, hst]) (by omega) k6) ?_
  rintro v h7' ⟨rfl, d7, k7, m7⟩
  have M7 := M6.trans m7
  have g7 := (M7.old qb hqb hne hni).trans hq
  generalize hl7 : l6 ++ (uv (hst).length ++ hst) = l7 at k7
  have n7 : l7.length ≤ 242000 := by
    rw [← hl7]; have := uv_length (hst).length (by simp [B64, usr, hst]); (try simp [usr, hst] at this); (try simp [usr, hst]); omega
  simp [g7, qyD, t54449, t54060, t54448, t54401, t54442, t54453]
  refine FF_byR (ok49 _ bb d7 l7 q.cl (by omega) (by omega) k7) ?_
  rintro v h8' ⟨rfl, d8, k8, m8⟩
  have M8 := M7.trans m8
  have g8 := (M8.old qb hqb hne hni).trans hq
  generalize hl8 : l7 ++ (uv (q.cl).length ++ q.cl) = l8 at k8
  have n8 : l8.length ≤ 248000 := by
    rw [← hl8]; have := uv_length (q.cl).length (by simp [B64, usr, hst]; omega); (try simp [usr, hst] at this); (try simp [usr, hst]); omega
  simp [g8, qyD, t54449, t54060, t54448, t54401, t54442, t54453]
  refine FF_byR (ok66 _ bb d8 l8 q.a (hf.a) (by omega) k8) ?_
  rintro v h9' ⟨rfl, d9, k9, m9⟩
  have M9 := M8.trans m9
  have g9 := (M9.old qb hqb hne hni).trans hq
  generalize hl9 : l8 ++ uv q.a = l9 at k9
  have n9 : l9.length ≤ 254000 := by
    rw [← hl9]; have := uv_length q.a (hf.a); (try simp at this); (try simp); omega
  simp [g9, qyD, t54449, t54060, t54448, t54401, t54442, t54453]
  refine FF_byR (ok66 _ bb d9 l9 q.b (hf.b) (by omega) k9) ?_
  rintro v h10' ⟨rfl, d10, k10, m10⟩
  have M10 := M9.trans m10
  have g10 := (M10.old qb hqb hne hni).trans hq
  generalize hl10 : l9 ++ uv q.b = l10 at k10
  have n10 : l10.length ≤ 260000 := by
    rw [← hl10]; have := uv_length q.b (hf.b); (try simp at this); (try simp); omega
  simp [g10, qyD, t54449, t54060, t54448, t54401, t54442, t54453]
  refine FF_byR (ok66 _ bb d10 l10 q.p (hf.p) (by omega) k10) ?_
  rintro v h11' ⟨rfl, d11, k11, m11⟩
  have M11 := M10.trans m11
  have g11 := (M11.old qb hqb hne hni).trans hq
  generalize hl11 : l10 ++ uv q.p = l11 at k11
  have n11 : l11.length ≤ 266000 := by
    rw [← hl11]; have := uv_length q.p (hf.p); (try simp at this); (try simp); omega
  simp [g11, qyD, t54449, t54060, t54448, t54401, t54442, t54453]
  refine FF_byR (ok49 _ bb d11 l11 q.quota (by omega) (by omega) k11) ?_
  rintro v h12' ⟨rfl, d12, k12, m12⟩
  have M12 := M11.trans m12
  have g12 := (M12.old qb hqb hne hni).trans hq
  generalize hl12 : l11 ++ (uv (q.quota).length ++ q.quota) = l12 at k12
  have n12 : l12.length ≤ 272000 := by
    rw [← hl12]; have := uv_length (q.quota).length (by simp [B64, usr, hst]; omega); (try simp [usr, hst] at this); (try simp [usr, hst]); omega
  simp [g12, qyD, t54449, t54060, t54448, t54401, t54442, t54453]
  refine FF_byR (ok66 _ bb d12 l12 0 (by decide) (by omega) k12) ?_
  rintro v h13' ⟨rfl, d13, k13, m13⟩
  have M13 := M12.trans m13
  have g13 := (M13.old qb hqb hne hni).trans hq
  generalize hl13 : l12 ++ uv 0 = l13 at k13
  have n13 : l13.length ≤ 278000 := by
    rw [← hl13]; have := uv_length 0 (by decide); (try simp at this); (try simp); omega
  simp [g13, qyD, t54449, t54060, t54448, t54401, t54442, t54453]
  refine REr_by _ _ .refl ⟨rfl, d13, ?_, M13⟩
  subst hl1
  subst hl2
  subst hl3
  subst hl4
  subst hl5
  subst hl6
  subst hl7
  subst hl8
  subst hl9
  subst hl10
  subst hl11
  subst hl12
  subst hl13
  simpa [cliW, lng, sel, usr, hst, List.append_assoc] using k13
theorem ok50_2 {G : Nat → DV} (hg : G 1 = .fp (.agg [])) (h : List Blk) (qb bb : Nat) (d : DV) (l : List UInt8) (q : Qy) (rev : Int) (hf : QFine q) (h1 : 54442 ≤ rev) (h2 : rev ≤ 54447) (hl : l.length ≤ 200000) (hs : BufS h bb d l) (hq : h[qb]? = some (.cells 41 [qyD q])) (hne : qb ≠ bb) (hni : ¬ inBlk d qb) :
    OkR Tryd.prog G 50 [.ptr qb 0 0 1, .ptr bb 0 0 1, .p (.int .u64 rev)] h (BufE h bb d (l ++ cliW q false false true false)) := by
  refine OkR_by Tryd.func50 c50_ok r50_ok 136 rfl ?_
  have hqb : qb < h.length := (List.getElem?_eq_some_iff.1 hq).1
  have t54449 : ¬ (54449 : Int) ≤ rev := by omega
  have t54060 : (54060 : Int) ≤ rev := by omega
  have t54448 : ¬ (54448 : Int) ≤ rev := by omega
  have t54401 : (54401 : Int) ≤ rev := by omega
  have t54442 : (54442 : Int) ≤ rev := by omega
  have t54453 : ¬ (54453 : Int) ≤ rev := by omega
  have o1 := hf.user
  have o2 := hf.addr
  have o3 := hf.cl
  have o4 := hf.quota
  have M0 : BufK h h bb d d := .refl
  have k0 := hs
  simp [c50, r50, hq, qyD, t54449, t54060, t54448, t54401, t54442, t54453]
  refine FF_byR (ok53 _ bb d l 1 _ (by simp [byteD]) (by omega) k0) ?_
  rintro v h1' ⟨rfl, d1, k1, m1⟩
  have M1 := M0.trans m1
  have g1 := (M1.old qb hqb hne hni).trans hq
  generalize hl1 : l ++ [1] = l1 at k1
  have n1 : l1.length ≤ 206000 := by
    rw [← hl1]; simp; omega
  simp [g1, qyD, t54449, t54060, t54448, t54401, t54442, t54453]
  refine FF_byR (ok49 _ bb d1 l1 q.user (by omega) (by omega) k1) ?_
  rintro v h2' ⟨rfl, d2, k2, m2⟩
  have M2 := M1.trans m2
  have g2 := (M2.old qb hqb hne hni).trans hq
  generalize hl2 : l1 ++ (uv (q.user).length ++ q.user) = l2 at k2
  have n2 : l2.length ≤ 212000 := by
    rw [← hl2]; have := uv_length (q.user).length (by simp [B64, usr, hst]; omega); (try simp [usr, hst] at this); (try simp [usr, hst]); omega
  simp [g2, qyD, t54449, t54060, t54448, t54401, t54442, t54453]
  refine FF_byR (ok49 _ bb d2 l2 ([] : List UInt8) (by simp [usr, hst]) (by omega) k2) ?_
  rintro v h3' ⟨rfl, d3, k3, m3⟩
  have M3 := M2.trans m3
  have g3 := (M3.old qb hqb hne hni).trans hq
  generalize hl3 : l2 ++ (uv (([] : List UInt8)).length ++ ([] : List UInt8)) = l3 at k3
  have n3 : l3.length ≤ 218000 := by
    rw [← hl3]; have := uv_length (([] : List UInt8)).length (by simp [B64, usr, hst]); (try simp [usr, hst] at this); (try simp [usr, hst]); omega
  simp [g3, qyD, t54449, t54060, t54448, t54401, t54442, t54453]
  refine FF_byR (ok49 _ bb d3 l3 q.addr (by omega) (by omega) k3) ?_
  rintro v h4' ⟨rfl, d4, k4, m4⟩
  have M4 := M3.trans m4
  have g4 := (M4.old qb hqb hne hni).trans hq
  generalize hl4 : l3 ++ (uv (q.addr).length ++ q.addr) = l4 at k4
  have n4 : l4.length ≤ 224000 := by
    rw [← hl4]; have := uv_length (q.addr).length (by simp [B64, usr, hst]; omega); (try simp [usr, hst] at this); (try simp [usr, hst]); omega
  simp [g4, qyD, t54449, t54060, t54448, t54401, t54442, t54453]
  refine FF_byR (ok53 _ bb d4 l4 1 _ (by simp [byteD]) (by omega) k4) ?_
  rintro v h5' ⟨rfl, d5, k5, m5⟩
  have M5 := M4.trans m5
  have g5 := (M5.old qb hqb hne hni).trans hq
  generalize hl5 : l4 ++ [1] = l5 at k5
  have n5 : l5.length ≤ 230000 := by
    rw [← hl5]; simp; omega
  simp [g5, qyD, t54449, t54060, t54448, t54401, t54442, t54453]
  refine FF_byR (ok49 _ bb d5 l5 usr (by simp [usr, hst]) (by omega) k5) ?_
  rintro v h6' ⟨rfl, d6, k6, m6⟩
  have M6 := M5.trans m6
  have g6 := (M6.old qb hqb hne hni).trans hq
  generalize hl6 : l5 ++ (uv (usr).length ++ usr) = l6 at k6
  have n6 : l6.length ≤ 236000 := by
    rw [← hl6]; have := uv_length (usr).length (by simp [B64, usr, hst]); (try simp [usr, hst] at this); (try simp [usr, hst]); omega
  simp [g6, qyD, t54449, t54060, t54448, t54401, t54442, t54453]
  refine FF_byR (ok49 _ bb d6 l6 hst (by simp [usr, hst]) (by omega) k6) ?_
  rintro v h7' ⟨rfl, d7, k7, m7⟩
  have M7 := M6.trans m7
  have g7 := (M7.old qb hqb hne hni).trans hq
  generalize hl7 : l6 ++ (uv (hst).length ++ hst) = l7 at k7
  have n7 : l7.length ≤ 242000 := by
    rw [← hl7]; have := uv_length (hst).length (by simp [B64, usr, hst]); (try simp [usr, hst] at this); (try simp [usr, hst]); omega
  simp [g7, qyD, t54449, t54060, t54448, t54401, t54442, t54453]
  refine FF_byR (ok49 _ bb d7 l7 q.cl (by omega) (by omega) k7) ?_
  rintro v h8' ⟨rfl, d8, k8, m8⟩
  have M8 := M7.trans m8
  have g8 := (M8.old qb hqb hne hni).trans hq
  generalize hl8 : l7 ++ (uv (q.cl).length ++ q.cl) = l8 at k8
  have n8 : l8.length ≤ 248000 := by
    rw [← hl8]; have := uv_length (q.cl).length (by simp [B64, usr, hst]; omega); (try simp [usr, hst] at this); (try simp [usr, hst]); omega
  simp [g8, qyD, t54449, t54060, t54448, t54401, t54442, t54453]
  refine FF_byR (ok66 _ bb d8 l8 q.a (hf.a) (by omega) k8) ?_
  rintro v h9' ⟨rfl, d9, k9, m9⟩
  have M9 := M8.trans m9
  have g9 := (M9.old qb hqb hne hni).trans hq
  generalize hl9 : l8 ++ uv q.a = l9 at k9
  have n9 : l9.length ≤ 254000 := by
    rw [← hl9]; have := uv_length q.a (hf.a); (try simp at this); (try simp); omega
  simp [g9, qyD, t54449, t54060, t54448, t54401, t54442, t54453]
  refine FF_byR (ok66 _ bb d9 l9 q.b (hf.b) (by omega) k9) ?_
  rintro v h10' ⟨rfl, d10, k10, m10⟩
  have M10 := M9.trans m10
  have g10 := (M10.old qb hqb hne hni).trans hq
  generalize hl10 : l9 ++ uv q.b = l10 at k10
  have n10 : l10.length ≤ 260000 := by
    rw [← hl10]; have := uv_length q.b (hf.b); (try simp at this); (try simp); omega
  simp [g10, qyD, t54449, t54060, t54448, t54401, t54442, t54453]
  refine FF_byR (ok66 _ bb d10 l10 q.p (hf.p) (by omega) k10) ?_
  rintro v h11' ⟨rfl, d11, k11, m11⟩
  have M11 := M10.trans m11
  have g11 := (M11.old qb hqb hne hni).trans hq
  generalize hl11 : l10 ++ uv q.p = l11 at k11
  have n11 : l11.length ≤ 266000 := by
    rw [← hl11]; have := uv_length q.p (hf.p); (try simp at this); (try simp); omega
  simp [g11, qyD, t54449, t54060, t54448, t54401, t54442, t54453]
  refine FF_byR (ok49 _ bb d11 l11 q.quota (by omega) (by omega) k11) ?_
  rintro v h12' ⟨rfl, d12, k12, m12⟩
  have M12 := M11.trans m12
  have g12 := (M12.old qb hqb hne hni).trans hq
  generalize hl12 : l11 ++ (uv (q.quota).length ++ q.quota) = l12 at k12
  have n12 : l12.length ≤ 272000 := by
    rw [← hl12]; have := uv_length (q.quota).length (by simp [B64, usr, hst]; omega); (try simp [usr, hst] at this); (try simp [usr, hst]); omega
  simp [g12, qyD, t54449, t54060, t54448, t54401, t54442, t54453]
  refine FF_byR (ok66 _ bb d12 l12 0 (by decide) (by omega) k12) ?_
  rintro v h13' ⟨rfl, d13, k13, m13⟩
  have M13 := M12.trans m13
  have g13 := (M13.old qb hqb hne hni).trans hq
  generalize hl13 : l12 ++ uv 0 = l13 at k13
  have n13 : l13.length ≤ 278000 := by
    rw [← hl13]; have := uv_length 0 (by decide); (try simp at this); (try simp); omega
  simp [g13, qyD, t54449, t54060, t54448, t54401, t54442, t54453]
  refine FF_by (ok67 _) ?_
  simp [t54449, t54060, t54448, t54401, t54442, t54453]
  refine FF_byR (ok53 _ bb d13 l13 0 _ (by simp [byteD]) (by omega) k13) ?_
  rintro v h14' ⟨rfl, d14, k14, m14⟩
  have M14 := M13.trans m14
  have g14 := (M14.old qb hqb hne hni).trans hq
  generalize hl14 : l13 ++ [0] = l14 at k14
  have n14 : l14.length ≤ 284000 := by
    rw [← hl14]; simp; omega
  simp [g14, qyD, t54449, t54060, t54448, t54401, t54442, t54453]
  refine REr_by _ _ .refl ⟨rfl, d14, ?_, M14⟩
  subst hl1
  subst hl2
  subst hl3
  subst hl4
  subst hl5
  subst hl6
  subst hl7
  subst hl8
  subst hl9
  subst hl10
  subst hl11
  subst hl12
  subst hl13
  subst hl14
  simpa [cliW, lng, sel, usr, hst, List.append_assoc] using k14
theorem ok50_3 {G : Nat → DV} (hg : G 1 = .fp (.agg [])) (h : List Blk) (qb bb : Nat) (d : DV) (l : List UInt8) (q : Qy) (rev : Int) (hf : QFine q) (h1 : 54448 ≤ rev) (h2 : rev ≤ 54448) (hl : l.length ≤ 200000) (hs : BufS h bb d l) (hq : h[qb]? = some (.cells 41 [qyD q])) (hne : qb ≠ bb) (hni : ¬ inBlk d qb) :
    OkR Tryd.prog G 50 [.ptr qb 0 0 1, .ptr bb 0 0 1, .p (.int .u64 rev)] h (BufE h bb d (l ++ cliW q false true true false)) := by
  refine OkR_by Tryd.func50 c50_ok r50_ok 136 rfl ?_
  have hqb : qb < h.length := (List.getElem?_eq_some_iff.1 hq).1
  have t54449 : ¬ (54449 : Int) ≤ rev := by omega
  have t54060 : (54060 : Int) ≤ rev := by omega
  have t54448 : (54448 : Int) ≤ rev := by omega
  have t54401 : (54401 : Int) ≤ rev := by omega
  have t54442 : (54442 : Int) ≤ rev := by omega
  have t54453 : ¬ (54453 : Int) ≤ rev := by omega
  have o1 := hf.user
  have o2 := hf.addr
  have o3 := hf.cl
  have o4 := hf.quota
  have M0 : BufK h h bb d d := .refl
  have k0 := hs
  simp [c50, r50, hq, qyD, t54449, t54060, t54448, t54401, t54442, t54453]
  refine FF_byR (ok53 _ bb d l 1 _ (by simp [byteD]) (by omega) k0) ?_
  rintro v h1' ⟨rfl, d1, k1, m1⟩
  have M1 := M0.trans m1
  have g1 := (M1.old qb hqb hne hni).trans hq
  generalize hl1 : l ++ [1] = l1 at k1
  have n1 : l1.length ≤ 206000 := by
    rw [← hl1]; simp; omega
  simp [g1, qyD, t54449, t54060, t54448, t54401, t54442, t54453]
  refine FF_byR (ok49 _ bb d1 l1 q.user (by omega) (by omega) k1) ?_
  rintro v h2' ⟨rfl, d2, k2, m2⟩
  have M2 := M1.trans m2
  have g2 := (M2.old qb hqb hne hni).trans hq
  generalize hl2 : l1 ++ (uv (q.user).length ++ q.user) = l2 at k2
  have n2 : l2.length ≤ 212000 := by
    rw [← hl2]; have := uv_length (q.user).length (by simp [B64, usr, hst]; omega); (try simp [usr, hst] at this); (try simp [usr, hst]); omega
  simp [g2, qyD, t54449, t54060, t54448, t54401, t54442, t54453]
  refine FF_byR (ok49 _ bb d2 l2 ([] : List UInt8) (by simp [usr, hst]) (by omega) k2) ?_
  rintro v h3' ⟨rfl, d3, k3, m3⟩
  have M3 := M2.trans m3
  have g3 := (M3.old qb hqb hne hni).trans hq
  generalize hl3 : l2 ++ (uv (([] : List UInt8)).length ++ ([] : List UInt8)) = l3 at k3
  have n3 : l3.length ≤ 218000 := by
    rw [← hl3]; have := uv_length (([] : List UInt8)).length (by simp [B64, usr, hst]); (try simp [usr, hst] at this); (try simp [usr, hst]); omega
  simp [g3, qyD, t54449, t54060, t54448, t54401, t54442, t54453]
  refine FF_byR (ok49 _ bb d3 l3 q.addr (by omega) (by omega) k3) ?_
  rintro v h4' ⟨rfl, d4, k4, m4⟩
  have M4 := M3.trans m4
  have g4 := (M4.old qb hqb hne hni).trans hq
  generalize hl4 : l3 ++ (uv (q.addr).length ++ q.addr) = l4 at k4
  have n4 : l4.length ≤ 224000 := by
    rw [← hl4]; have := uv_length (q.addr).length (by simp [B64, usr, hst]; omega); (try simp [usr, hst] at this); (try simp [usr, hst]); omega
  simp [g4, qyD, t54449, t54060, t54448, t54401, t54442, t54453]
  refine FF_byR (ok53 _ bb d4 l4 1 _ (by simp [byteD]) (by omega) k4) ?_
  rintro v h5' ⟨rfl, d5, k5, m5⟩
  have M5 := M4.trans m5
  have g5 := (M5.old qb hqb hne hni).trans hq
  generalize hl5 : l4 ++ [1] = l5 at k5
  have n5 : l5.length ≤ 230000 := by
    rw [← hl5]; simp; omega
  simp [g5, qyD, t54449, t54060, t54448, t54401, t54442, t54453]
  refine FF_byR (ok49 _ bb d5 l5 usr (by simp [usr, hst]) (by omega) k5) ?_
  rintro v h6' ⟨rfl, d6, k6, m6⟩
  have M6 := M5.trans m6
  have g6 := (M6.old qb hqb hne hni).trans hq
  generalize hl6 : l5 ++ (uv (usr).length ++ usr) = l6 at k6
  have n6 : l6.length ≤ 236000 := by
    rw [← hl6]; have := uv_length (usr).length (by simp [B64, usr, hst]); (try simp [usr, hst] at this); (try simp [usr, hst]); omega
  simp [g6, qyD, t54449, t54060, t54448, t54401, t54442, t54453]
  refine FF_byR (ok49 _ bb d6 l6 hst (by simp [usr, hst]) (by omega) k6) ?_
  rintro v h7' ⟨rfl, d7, k7, m7⟩
  have M7 := M6.trans m7
  have g7 := (M7.old qb hqb hne hni).trans hq
  generalize hl7 : l6 ++ (uv (hst).length ++ hst) = l7 at k7
  have n7 : l7.length ≤ 242000 := by
    rw [← hl7]; have := uv_length (hst).length (by simp [B64, usr, hst]); (try simp [usr, hst] at this); (try simp [usr, hst]); omega
  simp [g7, qyD, t54449, t54060, t54448, t54401, t54442, t54453]
  refine FF_byR (ok49 _ bb d7 l7 q.cl (by omega) (by omega) k7) ?_
  rintro v h8' ⟨rfl, d8, k8, m8⟩
  have M8 := M7.trans m8
  have g8 := (M8.old qb hqb hne hni).trans hq
  generalize hl8 : l7 ++ (uv (q.cl).length ++ q.cl) = l8 at k8
  have n8 : l8.length ≤ 248000 := by
    rw [← hl8]; have := uv_length (q.cl).length (by simp [B64, usr, hst]; omega); (try simp [usr, hst] at this); (try simp [usr, hst]); omega
  simp [g8, qyD, t54449, t54060, t54448, t54401, t54442, t54453]
  refine FF_byR (ok66 _ bb d8 l8 q.a (hf.a) (by omega) k8) ?_
  rintro v h9' ⟨rfl, d9, k9, m9⟩
  have M9 := M8.trans m9
  have g9 := (M9.old qb hqb hne hni).trans hq
  generalize hl9 : l8 ++ uv q.a = l9 at k9
  have n9 : l9.length ≤ 254000 := by
    rw [← hl9]; have := uv_length q.a (hf.a); (try simp at this); (try simp); omega
  simp [g9, qyD, t54449, t54060, t54448, t54401, t54442, t54453]
  refine FF_byR (ok66 _ bb d9 l9 q.b (hf.b) (by omega) k9) ?_
  rintro v h10' ⟨rfl, d10, k10, m10⟩
  have M10 := M9.trans m10
  have g10 := (M10.old qb hqb hne hni).trans hq
  generalize hl10 : l9 ++ uv q.b = l10 at k10
  have n10 : l10.length ≤ 260000 := by
    rw [← hl10]; have := uv_length q.b (hf.b); (try simp at this); (try simp); omega
  simp [g10, qyD, t54449, t54060, t54448, t54401, t54442, t54453]
  refine FF_byR (ok66 _ bb d10 l10 q.p (hf.p) (by omega) k10) ?_
  rintro v h11' ⟨rfl, d11, k11, m11⟩
  have M11 := M10.trans m11
  have g11 := (M11.old qb hqb hne hni).trans hq
  generalize hl11 : l10 ++ uv q.p = l11 at k11
  have n11 : l11.length ≤ 266000 := by
    rw [← hl11]; have := uv_length q.p (hf.p); (try simp at this); (try simp); omega
  simp [g11, qyD, t54449, t54060, t54448, t54401, t54442, t54453]
  refine FF_byR (ok49 _ bb d11 l11 q.quota (by omega) (by omega) k11) ?_
  rintro v h12' ⟨rfl, d12, k12, m12⟩
  have M12 := M11.trans m12
  have g12 := (M12.old qb hqb hne hni).trans hq
  generalize hl12 : l11 ++ (uv (q.quota).length ++ q.quota) = l12 at k12
  have n12 : l12.length ≤ 272000 := by
    rw [← hl12]; have := uv_length (q.quota).length (by simp [B64, usr, hst]; omega); (try simp [usr, hst] at this); (try simp [usr, hst]); omega
  simp [g12, qyD, t54449, t54060, t54448, t54401, t54442, t54453]
  refine FF_byR (ok66 _ bb d12 l12 0 (by decide) (by omega) k12) ?_
  rintro v h13' ⟨rfl, d13, k13, m13⟩
  have M13 := M12.trans m13
  have g13 := (M13.old qb hqb hne hni).trans hq
  generalize hl13 : l12 ++ uv 0 = l13 at k13
  have n13 : l13.length ≤ 278000 := by
    rw [← hl13]; have := uv_length 0 (by decide); (try simp at this); (try simp); omega
  simp [g13, qyD, t54449, t54060, t54448, t54401, t54442, t54453]
  refine FF_byR (ok66 _ bb d13 l13 0 (by decide) (by omega) k13) ?_
  rintro v h14' ⟨rfl, d14, k14, m14⟩
  have M14 := M13.trans m14
  have g14 := (M14.old qb hqb hne hni).trans hq
  generalize hl14 : l13 ++ uv 0 = l14 at k14
  have n14 : l14.length ≤ 284000 := by
    rw [← hl14]; have := uv_length 0 (by decide); (try simp at this); (try simp); omega
  simp [g14, qyD, t54449, t54060, t54448, t54401, t54442, t54453]
  refine FF_by (ok67 _) ?_
  simp [t54449, t54060, t54448, t54401, t54442, t54453]
  refine FF_byR (ok53 _ bb d14 l14 0 _ (by simp [byteD]) (by omega) k14) ?_
  rintro v h15' ⟨rfl, d15, k15, m15⟩
  have M15 := M14.trans m15
  have g15 := (M15.old qb hqb hne hni).trans hq
  generalize hl15 : l14 ++ [0] = l15 at k15
  have n15 : l15.length ≤ 290000 := by
    rw [← hl15]; simp; omega
  simp [g15, qyD, t54449, t54060, t54448, t54401, t54442, t54453]
  refine REr_by _ _ .refl ⟨rfl, d15, ?_, M15⟩
  subst hl1
  subst hl2
  subst hl3
  subst hl4
  subst hl5
  subst hl6
  subst hl7
  subst hl8
  subst hl9
  subst hl10
  subst hl11
  subst hl12
  subst hl13
  subst hl14
  subst hl15
  simpa [cliW, lng, sel, usr, hst, List.append_assoc] using k15
theorem ok50_4 {G : Nat → DV} (hg : G 1 = .fp (.agg [])) (h : List Blk) (qb bb : Nat) (d : DV) (l : List UInt8) (q : Qy) (rev : Int) (hf : QFine q) (h1 : 54449 ≤ rev) (h2 : rev ≤ 54452) (hl : l.length ≤ 200000) (hs : BufS h bb d l) (hq : h[qb]? = some (.cells 41 [qyD q])) (hne : qb ≠ bb) (hni : ¬ inBlk d qb) :
    OkR Tryd.prog G 50 [.ptr qb 0 0 1, .ptr bb 0 0 1, .p (.int .u64 rev)] h (BufE h bb d (l ++ cliW q true true true false)) := by
  refine OkR_by Tryd.func50 c50_ok r50_ok 136 rfl ?_
  have hqb : qb < h.length := (List.getElem?_eq_some_iff.1 hq).1
  have t54449 : (54449 : Int) ≤ rev := by omega
  have t54060 : (54060 : Int) ≤ rev := by omega
  have t54448 : (54448 : Int) ≤ rev := by omega
  have t54401 : (54401 : Int) ≤ rev := by omega
  have t54442 : (54442 : Int) ≤ rev := by omega
  have t54453 : ¬ (54453 : Int) ≤ rev := by omega
  have o1 := hf.user
  have o2 := hf.addr
  have o3 := hf.cl
  have o4 := hf.quota
  have M0 : BufK h h bb d d := .refl
  have k0 := hs
  simp [c50, r50, hq, qyD, t54449, t54060, t54448, t54401, t54442, t54453]
  refine FF_byR (ok53 _ bb d l 1 _ (by simp [byteD]) (by omega) k0) ?_
  rintro v h1' ⟨rfl, d1, k1, m1⟩
  have M1 := M0.trans m1
  have g1 := (M1.old qb hqb hne hni).trans hq
  generalize hl1 : l ++ [1] = l1 at k1
  have n1 : l1.length ≤ 206000 := by
    rw [← hl1]; simp; omega
  simp [g1, qyD, t54449, t54060, t54448, t54401, t54442, t54453]
  refine FF_byR (ok49 _ bb d1 l1 q.user (by omega) (by omega) k1) ?_
  rintro v h2' ⟨rfl, d2, k2, m2⟩
  have M2 := M1.trans m2
  have g2 := (M2.old qb hqb hne hni).trans hq
  generalize hl2 : l1 ++ (uv (q.user).length ++ q.user) = l2 at k2
  have n2 : l2.length ≤ 212000 := by
    rw [← hl2]; have := uv_length (q.user).length (by simp [B64, usr, hst]; omega); (try simp [usr, hst] at this); (try simp [usr, hst]); omega
  simp [g2, qyD, t54449, t54060, t54448, t54401, t54442, t54453]
  refine FF_byR (ok49 _ bb d2 l2 ([] : List UInt8) (by simp [usr, hst]) (by omega) k2) ?_
  rintro v h3' ⟨rfl, d3, k3, m3⟩
  have M3 := M2.trans m3
  have g3 := (M3.old qb hqb hne hni).trans hq
  generalize hl3 : l2 ++ (uv (([] : List UInt8)).length ++ ([] : List UInt8)) = l3 at k3
  have n3 : l3.length ≤ 218000 := by
    rw [← hl3]; have := uv_length (([] : List UInt8)).length (by simp [B64, usr, hst]); (try simp [usr, hst] at this); (try simp [usr, hst]); omega
  simp [g3, qyD, t54449, t54060, t54448, t54401, t54442, t54453]
  refine FF_byR (ok49 _ bb d3 l3 q.addr (by omega) (by omega) k3) ?_
  rintro v h4' ⟨rfl, d4, k4, m4⟩
  have M4 := M3.trans m4
  have g4 := (M4.old qb hqb hne hni).trans hq
  generalize hl4 : l3 ++ (uv (q.addr).length ++ q.addr) = l4 at k4
  have n4 : l4.length ≤ 224000 := by
    rw [← hl4]; have := uv_length (q.addr).length (by simp [B64, usr, hst]; omega); (try simp [usr, hst] at this); (try simp [usr, hst]); omega
  simp [g4, qyD, t54449, t54060, t54448, t54401, t54442, t54453]
  refine FF_byR (ok65 hg _ bb d4 l4 (by omega) k4) ?_
  rintro v h5' ⟨rfl, d5, k5, m5⟩
  have M5 := M4.trans m5
  have g5 := (M5.old qb hqb hne hni).trans hq
  generalize hl5 : l4 ++ z8 = l5 at k5
  have n5 : l5.length ≤ 230000 := by
    rw [← hl5]; simp [z8]; omega
  simp [g5, qyD, t54449, t54060, t54448, t54401, t54442, t54453]
  refine FF_byR (ok53 _ bb d5 l5 1 _ (by simp [byteD]) (by omega) k5) ?_
  rintro v h6' ⟨rfl, d6, k6, m6⟩
  have M6 := M5.trans m6
  have g6 := (M6.old qb hqb hne hni).trans hq
  generalize hl6 : l5 ++ [1] = l6 at k6
  have n6 : l6.length ≤ 236000 := by
    rw [← hl6]; simp; omega
  simp [g6, qyD, t54449, t54060, t54448, t54401, t54442, t54453]
  refine FF_byR (ok49 _ bb d6 l6 usr (by simp [usr, hst]) (by omega) k6) ?_
  rintro v h7' ⟨rfl, d7, k7, m7⟩
  have M7 := M6.trans m7
  have g7 := (M7.old qb hqb hne hni).trans hq
  generalize hl7 : l6 ++ (uv (usr).length ++ usr) = l7 at k7
  have n7 : l7.length ≤ 242000 := by
    rw [← hl7]; have := uv_length (usr).length (by simp [B64, usr, hst]); (try simp [usr, hst] at this); (try simp [usr, hst]); omega
  simp [g7, qyD, t54449, t54060, t54448, t54401, t54442, t54453]
  refine FF_byR (ok49 _ bb d7 l7 hst (by simp [usr, hst]) (by omega) k7) ?_
  rintro v h8' ⟨rfl, d8, k8, m8⟩
  have M8 := M7.trans m8
  have g8 := (M8.old qb hqb hne hni).trans hq
  generalize hl8 : l7 ++ (uv (hst).length ++ hst) = l8 at k8
  have n8 : l8.length ≤ 248000 := by
    rw [← hl8]; have := uv_length (hst).length (by simp [B64, usr, hst]); (try simp [usr, hst] at this); (try simp [usr, hst]); omega
  simp [g8, qyD, t54449, t54060, t54448, t54401, t54442, t54453]
  refine FF_byR (ok49 _ bb d8 l8 q.cl (by omega) (by omega) k8) ?_
  rintro v h9' ⟨rfl, d9, k9, m9⟩
  have M9 := M8.trans m9
  have g9 := (M9.old qb hqb hne hni).trans hq
  generalize hl9 : l8 ++ (uv (q.cl).length ++ q.cl) = l9 at k9
  have n9 : l9.length ≤ 254000 := by
    rw [← hl9]; have := uv_length (q.cl).length (by simp [B64, usr, hst]; omega); (try simp [usr, hst] at this); (try simp [usr, hst]); omega
  simp [g9, qyD, t54449, t54060, t54448, t54401, t54442, t54453]
  refine FF_byR (ok66 _ bb d9 l9 q.a (hf.a) (by omega) k9) ?_
  rintro v h10' ⟨rfl, d10, k10, m10⟩
  have M10 := M9.trans m10
  have g10 := (M10.old qb hqb hne hni).trans hq
  generalize hl10 : l9 ++ uv q.a = l10 at k10
  have n10 : l10.length ≤ 260000 := by
    rw [← hl10]; have := uv_length q.a (hf.a); (try simp at this); (try simp); omega
  simp [g10, qyD, t54449, t54060, t54448, t54401, t54442, t54453]
  refine FF_byR (ok66 _ bb d10 l10 q.b (hf.b) (by omega) k10) ?_
  rintro v h11' ⟨rfl, d11, k11, m11⟩
  have M11 := M10.trans m11
  have g11 := (M11.old qb hqb hne hni).trans hq
  generalize hl11 : l10 ++ uv q.b = l11 at k11
  have n11 : l11.length ≤ 266000 := by
    rw [← hl11]; have := uv_length q.b (hf.b); (try simp at this); (try simp); omega
  simp [g11, qyD, t54449, t54060, t54448, t54401, t54442, t54453]
  refine FF_byR (ok66 _ bb d11 l11 q.p (hf.p) (by omega) k11) ?_
  rintro v h12' ⟨rfl, d12, k12, m12⟩
  have M12 := M11.trans m12
  have g12 := (M12.old qb hqb hne hni).trans hq
  generalize hl12 : l11 ++ uv q.p = l12 at k12
  have n12 : l12.length ≤ 272000 := by
    rw [← hl12]; have := uv_length q.p (hf.p); (try simp at this); (try simp); omega
  simp [g12, qyD, t54449, t54060, t54448, t54401, t54442, t54453]
  refine FF_byR (ok49 _ bb d12 l12 q.quota (by omega) (by omega) k12) ?_
  rintro v h13' ⟨rfl, d13, k13, m13⟩
  have M13 := M12.trans m13
  have g13 := (M13.old qb hqb hne hni).trans hq
  generalize hl13 : l12 ++ (uv (q.quota).length ++ q.quota) = l13 at k13
  have n13 : l13.length ≤ 278000 := by
    rw [← hl13]; have := uv_length (q.quota).length (by simp [B64, usr, hst]; omega); (try simp [usr, hst] at this); (try simp [usr, hst]); omega
  simp [g13, qyD, t54449, t54060, t54448, t54401, t54442, t54453]
  refine FF_byR (ok66 _ bb d13 l13 0 (by decide) (by omega) k13) ?_
  rintro v h14' ⟨rfl, d14, k14, m14⟩
  have M14 := M13.trans m14
  have g14 := (M14.old qb hqb hne hni).trans hq
  generalize hl14 : l13 ++ uv 0 = l14 at k14
  have n14 : l14.length ≤ 284000 := by
    rw [← hl14]; have := uv_length 0 (by decide); (try simp at this); (try simp); omega
  simp [g14, qyD, t54449, t54060, t54448, t54401, t54442, t54453]
  refine FF_byR (ok66 _ bb d14 l14 0 (by decide) (by omega) k14) ?_
  rintro v h15' ⟨rfl, d15, k15, m15⟩
  have M15 := M14.trans m15
  have g15 := (M15.old qb hqb hne hni).trans hq
  generalize hl15 : l14 ++ uv 0 = l15 at k15
  have n15 : l15.length ≤ 290000 := by
    rw [← hl15]; have := uv_length 0 (by decide); (try simp at this); (try simp); omega
  simp [g15, qyD, t54449, t54060, t54448, t54401, t54442, t54453]
  refine FF_by (ok67 _) ?_
  simp [t54449, t54060, t54448, t54401, t54442, t54453]
  refine FF_byR (ok53 _ bb d15 l15 0 _ (by simp [byteD]) (by omega) k15) ?_
  rintro v h16' ⟨rfl, d16, k16, m16⟩
  have M16 := M15.trans m16
  have g16 := (M16.old qb hqb hne hni).trans hq
  generalize hl16 : l15 ++ [0] = l16 at k16
  have n16 : l16.length ≤ 296000 := by
    rw [← hl16]; simp; omega
  simp [g16, qyD, t54449, t54060, t54448, t54401, t54442, t54453]
  refine REr_by _ _ .refl ⟨rfl, d16, ?_, M16⟩
  subst hl1
  subst hl2
  subst hl3
  subst hl4
  subst hl5
  subst hl6
  subst hl7
  subst hl8
  subst hl9
  subst hl10
  subst hl11
  subst hl12
  subst hl13
  subst hl14
  subst hl15
  subst hl16
  simpa [cliW, lng, sel, usr, hst, List.append_assoc] using k16
theorem ok50_5 {G : Nat → DV} (hg : G 1 = .fp (.agg [])) (h : List Blk) (qb bb : Nat) (d : DV) (l : List UInt8) (q : Qy) (rev : Int) (hf : QFine q) (h1 : 54453 ≤ rev) (h2 : rev ≤ 54458) (hl : l.length ≤ 200000) (hs : BufS h bb d l) (hq : h[qb]? = some (.cells 41 [qyD q])) (hne : qb ≠ bb) (hni : ¬ inBlk d qb) :
    OkR Tryd.prog G 50 [.ptr qb 0 0 1, .ptr bb 0 0 1, .p (.int .u64 rev)] h (BufE h bb d (l ++ cliW q true true true true)) := by
  refine OkR_by Tryd.func50 c50_ok r50_ok 136 rfl ?_
  have hqb : qb < h.length := (List.getElem?_eq_some_iff.1 hq).1
  have t54449 : (54449 : Int) ≤ rev := by omega
  have t54060 : (54060 : Int) ≤ rev := by omega
  have t54448 : (54448 : Int) ≤ rev := by omega
  have t54401 : (54401 : Int) ≤ rev := by omega
  have t54442 : (54442 : Int) ≤ rev := by omega
  have t54453 : (54453 : Int) ≤ rev := by omega
  have o1 := hf.user
  have o2 := hf.addr
  have o3 := hf.cl
  have o4 := hf.quota
  have M0 : BufK h h bb d d := .refl
  have k0 := hs
  simp [c50, r50, hq, qyD, t54449, t54060, t54448, t54401, t54442, t54453]
  refine FF_byR (ok53 _ bb d l 1 _ (by simp [byteD]) (by omega) k0) ?_
  rintro v h1' ⟨rfl, d1, k1, m1⟩
  have M1 := M0.trans m1
  have g1 := (M1.old qb hqb hne hni).trans hq
  generalize hl1 : l ++ [1] = l1 at k1
  have n1 : l1.length ≤ 206000 := by
    rw [← hl1]; simp; omega
  simp [g1, qyD, t54449, t54060, t54448, t54401, t54442, t54453]
  refine FF_byR (ok49 _ bb d1 l1 q.user (by omega) (by omega) k1) ?_
  rintro v h2' ⟨rfl, d2, k2, m2⟩
  have M2 := M1.trans m2
  have g2 := (M2.old qb hqb hne hni).trans hq
  generalize hl2 : l1 ++ (uv (q.user).length ++ q.user) = l2 at k2
  have n2 : l2.length ≤ 212000 := by
    rw [← hl2]; have := uv_length (q.user).length (by simp [B64, usr, hst]; omega); (try simp [usr, hst] at this); (try simp [usr, hst]); omega
  simp [g2, qyD, t54449, t54060, t54448, t54401, t54442, t54453]
  refine FF_byR (ok49 _ bb d2 l2 ([] : List UInt8) (by simp [usr, hst]) (by omega) k2) ?_
  rintro v h3' ⟨rfl, d3, k3, m3⟩
  have M3 := M2.trans m3
  have g3 := (M3.old qb hqb hne hni).trans hq
  generalize hl3 : l2 ++ (uv (([] : List UInt8)).length ++ ([] : List UInt8)) = l3 at k3
  have n3 : l3.length ≤ 218000 := by
    rw [← hl3]; have := uv_length (([] : List UInt8)).length (by simp [B64, usr, hst]); (try simp [usr, hst] at this); (try simp [usr, hst]); omega
  simp [g3, qyD, t54449, t54060, t54448, t54401, t54442, t54453]
  refine FF_byR (ok49 _ bb d3 l3 q.addr (by omega) (by omega) k3) ?_
  rintro v h4' ⟨rfl, d4, k4, m4⟩
  have M4 := M3.trans m4
  have g4 := (M4.old qb hqb hne hni).trans hq
  generalize hl4 : l3 ++ (uv (q.addr).length ++ q.addr) = l4 at k4
  have n4 : l4.length ≤ 224000 := by
    rw [← hl4]; have := uv_length (q.addr).length (by simp [B64, usr, hst]; omega); (try simp [usr, hst] at this); (try simp [usr, hst]); omega
  simp [g4, qyD, t54449, t54060, t54448, t54401, t54442, t54453]
  refine FF_byR (ok65 hg _ bb d4 l4 (by omega) k4) ?_
  rintro v h5' ⟨rfl, d5, k5, m5⟩
  have M5 := M4.trans m5
  have g5 := (M5.old qb hqb hne hni).trans hq
  generalize hl5 : l4 ++ z8 = l5 at k5
  have n5 : l5.length ≤ 230000 := by
    rw [← hl5]; simp [z8]; omega
  simp [g5, qyD, t54449, t54060, t54448, t54401, t54442, t54453]
  refine FF_byR (ok53 _ bb d5 l5 1 _ (by simp [byteD]) (by omega) k5) ?_
  rintro v h6' ⟨rfl, d6, k6, m6⟩
  have M6 := M5.trans m6
  have g6 := (M6.old qb hqb hne hni).trans hq
  generalize hl6 : l5 ++ [1] = l6 at k6
  have n6 : l6.length ≤ 236000 := by
    rw [← hl6]; simp; omega
  simp [g6, qyD, t54449, t54060, t54448, t54401, t54442, t54453]
  refine FF_byR (ok49 _ bb d6 l6 usr (by simp [usr, hst]) (by omega) k6) ?_
  rintro v h7' ⟨rfl, d7, k7, m7⟩
  have M7 := M6.trans m7
  have g7 := (M7.old qb hqb hne hni).trans hq
  generalize hl7 : l6 ++ (uv (usr).length ++ usr) = l7 at k7
  have n7 : l7.length ≤ 242000 := by
    rw [← hl7]; have := uv_length (usr).length (by simp [B64, usr, hst]); (try simp [usr, hst] at this); (try simp [usr, hst]); omega
  simp [g7, qyD, t54449, t54060, t54448, t54401, t54442, t54453]
  refine FF_byR (ok49 _ bb d7 l7 hst (by simp [usr, hst]) (by omega) k7) ?_
  rintro v h8' ⟨rfl, d8, k8, m8⟩
  have M8 := M7.trans m8
  have g8 := (M8.old qb hqb hne hni).trans hq
  generalize hl8 : l7 ++ (uv (hst).length ++ hst) = l8 at k8
  have n8 : l8.length ≤ 248000 := by
    rw [← hl8]; have := uv_length (hst).length (by simp [B64, usr, hst]); (try simp [usr, hst] at this); (try simp [usr, hst]); omega
  simp [g8, qyD, t54449, t54060, t54448, t54401, t54442, t54453]
  refine FF_byR (ok49 _ bb d8 l8 q.cl (by omega) (by omega) k8) ?_
  rintro v h9' ⟨rfl, d9, k9, m9⟩
  have M9 := M8.trans m9
  have g9 := (M9.old qb hqb hne hni).trans hq
  generalize hl9 : l8 ++ (uv (q.cl).length ++ q.cl) = l9 at k9
  have n9 : l9.length ≤ 254000 := by
    rw [← hl9]; have := uv_length (q.cl).length (by simp [B64, usr, hst]; omega); (try simp [usr, hst] at this); (try simp [usr, hst]); omega
  simp [g9, qyD, t54449, t54060, t54448, t54401, t54442, t54453]
  refine FF_byR (ok66 _ bb d9 l9 q.a (hf.a) (by omega) k9) ?_
  rintro v h10' ⟨rfl, d10, k10, m10⟩
  have M10 := M9.trans m10
  have g10 := (M10.old qb hqb hne hni).trans hq
  generalize hl10 : l9 ++ uv q.a = l10 at k10
  have n10 : l10.length ≤ 260000 := by
    rw [← hl10]; have := uv_length q.a (hf.a); (try simp at this); (try simp); omega
  simp [g10, qyD, t54449, t54060, t54448, t54401, t54442, t54453]
  refine FF_byR (ok66 _ bb d10 l10 q.b (hf.b) (by omega) k10) ?_
  rintro v h11' ⟨rfl, d11, k11, m11⟩
  have M11 := M10.trans m11
  have g11 := (M11.old qb hqb hne hni).trans hq
  generalize hl11 : l10 ++ uv q.b = l11 at k11
  have n11 : l11.length ≤ 266000 := by
    rw [← hl11]; have := uv_length q.b (hf.b); (try simp at this); (try simp); omega
  simp [g11, qyD, t54449, t54060, t54448, t54401, t54442, t54453]
  refine FF_byR (ok66 _ bb d11 l11 q.p (hf.p) (by omega) k11) ?_
  rintro v h12' ⟨rfl, d12, k12, m12⟩
  have M12 := M11.trans m12
  have g12 := (M12.old qb hqb hne hni).trans hq
  generalize hl12 : l11 ++ uv q.p = l12 at k12
  have n12 : l12.length ≤ 272000 := by
    rw [← hl12]; have := uv_length q.p (hf.p); (try simp at this); (try simp); omega
  simp [g12, qyD, t54449, t54060, t54448, t54401, t54442, t54453]
  refine FF_byR (ok49 _ bb d12 l12 q.quota (by omega) (by omega) k12) ?_
  rintro v h13' ⟨rfl, d13, k13, m13⟩
  have M13 := M12.trans m13
  have g13 := (M13.old qb hqb hne hni).trans hq
  generalize hl13 : l12 ++ (uv (q.quota).length ++ q.quota) = l13 at k13
  have n13 : l13.length ≤ 278000 := by
    rw [← hl13]; have := uv_length (q.quota).length (by simp [B64, usr, hst]; omega); (try simp [usr, hst] at this); (try simp [usr, hst]); omega
  simp [g13, qyD, t54449, t54060, t54448, t54401, t54442, t54453]
  refine FF_byR (ok66 _ bb d13 l13 0 (by decide) (by omega) k13) ?_
  rintro v h14' ⟨rfl, d14, k14, m14⟩
  have M14 := M13.trans m14
  have g14 := (M14.old qb hqb hne hni).trans hq
  generalize hl14 : l13 ++ uv 0 = l14 at k14
  have n14 : l14.length ≤ 284000 := by
    rw [← hl14]; have := uv_length 0 (by decide); (try simp at this); (try simp); omega
  simp [g14, qyD, t54449, t54060, t54448, t54401, t54442, t54453]
  refine FF_byR (ok66 _ bb d14 l14 0 (by decide) (by omega) k14) ?_
  rintro v h15' ⟨rfl, d15, k15, m15⟩
  have M15 := M14.trans m15
  have g15 := (M15.old qb hqb hne hni).trans hq
  generalize hl15 : l14 ++ uv 0 = l15 at k15
  have n15 : l15.length ≤ 290000 := by
    rw [← hl15]; have := uv_length 0 (by decide); (try simp at this); (try simp); omega
  simp [g15, qyD, t54449, t54060, t54448, t54401, t54442, t54453]
  refine FF_by (ok67 _) ?_
  simp [t54449, t54060, t54448, t54401, t54442, t54453]
  refine FF_byR (ok53 _ bb d15 l15 0 _ (by simp [byteD]) (by omega) k15) ?_
  rintro v h16' ⟨rfl, d16, k16, m16⟩
  have M16 := M15.trans m16
  have g16 := (M16.old qb hqb hne hni).trans hq
  generalize hl16 : l15 ++ [0] = l16 at k16
  have n16 : l16.length ≤ 296000 := by
    rw [← hl16]; simp; omega
  simp [g16, qyD, t54449, t54060, t54448, t54401, t54442, t54453]
  refine FF_byR (ok66 _ bb d16 l16 0 (by decide) (by omega) k16) ?_
  rintro v h17' ⟨rfl, d17, k17, m17⟩
  have M17 := M16.trans m17
  have g17 := (M17.old qb hqb hne hni).trans hq
  generalize hl17 : l16 ++ uv 0 = l17 at k17
  have n17 : l17.length ≤ 302000 := by
    rw [← hl17]; have := uv_length 0 (by decide); (try simp at this); (try simp); omega
  simp [g17, qyD, t54449, t54060, t54448, t54401, t54442, t54453]
  refine FF_byR (ok66 _ bb d17 l17 0 (by decide) (by omega) k17) ?_
  rintro v h18' ⟨rfl, d18, k18, m18⟩
  have M18 := M17.trans m18
  have g18 := (M18.old qb hqb hne hni).trans hq
  generalize hl18 : l17 ++ uv 0 = l18 at k18
  have n18 : l18.length ≤ 308000 := by
    rw [← hl18]; have := uv_length 0 (by decide); (try simp at this); (try simp); omega
  simp [g18, qyD, t54449, t54060, t54448, t54401, t54442, t54453]
  refine FF_byR (ok66 _ bb d18 l18 0 (by decide) (by omega) k18) ?_
  rintro v h19' ⟨rfl, d19, k19, m19⟩
  have M19 := M18.trans m19
  have g19 := (M19.old qb hqb hne hni).trans hq
  generalize hl19 : l18 ++ uv 0 = l19 at k19
  have n19 : l19.length ≤ 314000 := by
    rw [← hl19]; have := uv_length 0 (by decide); (try simp at this); (try simp); omega
  simp [g19, qyD, t54449, t54060, t54448, t54401, t54442, t54453]
  refine REr_by _ _ .refl ⟨rfl, d19, ?_, M19⟩
  subst hl1
  subst hl2
  subst hl3
  subst hl4
  subst hl5
  subst hl6
  subst hl7
  subst hl8
  subst hl9
  subst hl10
  subst hl11
  subst hl12
  subst hl13
  subst hl14
  subst hl15
  subst hl16
  subst hl17
  subst hl18
  subst hl19
  simpa [cliW, lng, sel, usr, hst, List.append_assoc] using k19
theorem ok50_6 {G : Nat → DV} (hg : G 1 = .fp (.agg [])) (h : List Blk) (qb bb : Nat) (d : DV) (l : List UInt8) (q : Qy) (rev : Int) (hf : QFine q) (h1 : 54459 ≤ rev) (h2 : rev ≤ 54489) (hl : l.length ≤ 200000) (hs : BufS h bb d l) (hq : h[qb]? = some (.cells 41 [qyD q])) (hne : qb ≠ bb) (hni : ¬ inBlk d qb) :
    OkR Tryd.prog G 50 [.ptr qb 0 0 1, .ptr bb 0 0 1, .p (.int .u64 rev)] h (BufE h bb d (l ++ cliW q true true true true)) := by
  refine OkR_by Tryd.func50 c50_ok r50_ok 136 rfl ?_
  have hqb : qb < h.length := (List.getElem?_eq_some_iff.1 hq).1
  have t54449 : (54449 : Int) ≤ rev := by omega
  have t54060 : (54060 : Int) ≤ rev := by omega
  have t54448 : (54448 : Int) ≤ rev := by omega
  have t54401 : (54401 : Int) ≤ rev := by omega
  have t54442 : (54442 : Int) ≤ rev := by omega
  have t54453 : (54453 : Int) ≤ rev := by omega
  have o1 := hf.user
  have o2 := hf.addr
  have o3 := hf.cl
  have o4 := hf.quota
  have M0 : BufK h h bb d d := .refl
  have k0 := hs
  simp [c50, r50, hq, qyD, t54449, t54060, t54448, t54401, t54442, t54453]
  refine FF_byR (ok53 _ bb d l 1 _ (by simp [byteD]) (by omega) k0) ?_
  rintro v h1' ⟨rfl, d1, k1, m1⟩
  have M1 := M0.trans m1
  have g1 := (M1.old qb hqb hne hni).trans hq
  generalize hl1 : l ++ [1] = l1 at k1
  have n1 : l1.length ≤ 206000 := by
    rw [← hl1]; simp; omega
  simp [g1, qyD, t54449, t54060, t54448, t54401, t54442, t54453]
  refine FF_byR (ok49 _ bb d1 l1 q.user (by omega) (by omega) k1) ?_
  rintro v h2' ⟨rfl, d2, k2, m2⟩
  have M2 := M1.trans m2
  have g2 := (M2.old qb hqb hne hni).trans hq
  generalize hl2 : l1 ++ (uv (q.user).length ++ q.user) = l2 at k2
  have n2 : l2.length ≤ 212000 := by
    rw [← hl2]; have := uv_length (q.user).length (by simp [B64, usr, hst]; omega); (try simp [usr, hst] at this); (try simp [usr, hst]); omega
  simp [g2, qyD, t54449, t54060, t54448, t54401, t54442, t54453]
  refine FF_byR (ok49 _ bb d2 l2 ([] : List UInt8) (by simp [usr, hst]) (by omega) k2) ?_
  rintro v h3' ⟨rfl, d3, k3, m3⟩
  have M3 := M2.trans m3
  have g3 := (M3.old qb hqb hne hni).trans hq
  generalize hl3 : l2 ++ (uv (([] : List UInt8)).length ++ ([] : List UInt8)) = l3 at k3
  have n3 : l3.length ≤ 218000 := by
    rw [← hl3]; have := uv_length (([] : List UInt8)).length (by simp [B64, usr, hst]); (try simp [usr, hst] at this); (try simp [usr, hst]); omega
  simp [g3, qyD, t54449, t54060, t54448, t54401, t54442, t54453]
  refine FF_byR (ok49 _ bb d3 l3 q.addr (by omega) (by omega) k3) ?_
  rintro v h4' ⟨rfl, d4, k4, m4⟩
  have M4 := M3.trans m4
  have g4 := (M4.old qb hqb hne hni).trans hq
  generalize hl4 : l3 ++ (uv (q.addr).length ++ q.addr) = l4 at k4
  have n4 : l4.length ≤ 224000 := by
    rw [← hl4]; have := uv_length (q.addr).length (by simp [B64, usr, hst]; omega); (try simp [usr, hst] at this); (try simp [usr, hst]); omega
  simp [g4, qyD, t54449, t54060, t54448, t54401, t54442, t54453]
  refine FF_byR (ok65 hg _ bb d4 l4 (by omega) k4) ?_
  rintro v h5' ⟨rfl, d5, k5, m5⟩
  have M5 := M4.trans m5
  have g5 := (M5.old qb hqb hne hni).trans hq
  generalize hl5 : l4 ++ z8 = l5 at k5
  have n5 : l5.length ≤ 230000 := by
    rw [← hl5]; simp [z8]; omega
  simp [g5, qyD, t54449, t54060, t54448, t54401, t54442, t54453]
  refine FF_byR (ok53 _ bb d5 l5 1 _ (by simp [byteD]) (by omega) k5) ?_
  rintro v h6' ⟨rfl, d6, k6, m6⟩
  have M6 := M5.trans m6
  have g6 := (M6.old qb hqb hne hni).trans hq
  generalize hl6 : l5 ++ [1] = l6 at k6
  have n6 : l6.length ≤ 236000 := by
    rw [← hl6]; simp; omega
  simp [g6, qyD, t54449, t54060, t54448, t54401, t54442, t54453]
  refine FF_byR (ok49 _ bb d6 l6 usr (by simp [usr, hst]) (by omega) k6) ?_
  rintro v h7' ⟨rfl, d7, k7, m7⟩
  have M7 := M6.trans m7
  have g7 := (M7.old qb hqb hne hni).trans hq
  generalize hl7 : l6 ++ (uv (usr).length ++ usr) = l7 at k7
  have n7 : l7.length ≤ 242000 := by
    rw [← hl7]; have := uv_length (usr).length (by simp [B64, usr, hst]); (try simp [usr, hst] at this); (try simp [usr, hst]); omega
  simp [g7, qyD, t54449, t54060, t54448, t54401, t54442, t54453]
  refine FF_byR (ok49 _ bb d7 l7 hst (by simp [usr, hst]) (by omega) k7) ?_
  rintro v h8' ⟨rfl, d8, k8, m8⟩
  have M8 := M7.trans m8
  have g8 := (M8.old qb hqb hne hni).trans hq
  generalize hl8 : l7 ++ (uv (hst).length ++ hst) = l8 at k8
  have n8 : l8.length ≤ 248000 := by
    rw [← hl8]; have := uv_length (hst).length (by simp [B64, usr, hst]); (try simp [usr, hst] at this); (try simp [usr, hst]); omega
  simp [g8, qyD, t54449, t54060, t54448, t54401, t54442, t54453]
  refine FF_byR (ok49 _ bb d8 l8 q.cl (by omega) (by omega) k8) ?_
  rintro v h9' ⟨rfl, d9, k9, m9⟩
  have M9 := M8.trans m9
  have g9 := (M9.old qb hqb hne hni).trans hq
  generalize hl9 : l8 ++ (uv (q.cl).length ++ q.cl) = l9 at k9
  have n9 : l9.length ≤ 254000 := by
    rw [← hl9]; have := uv_length (q.cl).length (by simp [B64, usr, hst]; omega); (try simp [usr, hst] at this); (try simp [usr, hst]); omega
  simp [g9, qyD, t54449, t54060, t54448, t54401, t54442, t54453]
  refine FF_byR (ok66 _ bb d9 l9 q.a (hf.a) (by omega) k9) ?_
  rintro v h10' ⟨rfl, d10, k10, m10⟩
  have M10 := M9.trans m10
  have g10 := (M10.old qb hqb hne hni).trans hq
  generalize hl10 : l9 ++ uv q.a = l10 at k10
  have n10 : l10.length ≤ 260000 := by
    rw [← hl10]; have := uv_length q.a (hf.a); (try simp at this); (try simp); omega
  simp [g10, qyD, t54449, t54060, t54448, t54401, t54442, t54453]
  refine FF_byR (ok66 _ bb d10 l10 q.b (hf.b) (by omega) k10) ?_
  rintro v h11' ⟨rfl, d11, k11, m11⟩
  have M11 := M10.trans m11
  have g11 := (M11.old qb hqb hne hni).trans hq
  generalize hl11 : l10 ++ uv q.b = l11 at k11
  have n11 : l11.length ≤ 266000 := by
    rw [← hl11]; have := uv_length q.b (hf.b); (try simp at this); (try simp); omega
  simp [g11, qyD, t54449, t54060, t54448, t54401, t54442, t54453]
  refine FF_byR (ok66 _ bb d11 l11 q.p (hf.p) (by omega) k11) ?_
  rintro v h12' ⟨rfl, d12, k12, m12⟩
  have M12 := M11.trans m12
  have g12 := (M12.old qb hqb hne hni).trans hq
  generalize hl12 : l11 ++ uv q.p = l12 at k12
  have n12 : l12.length ≤ 272000 := by
    rw [← hl12]; have := uv_length q.p (hf.p); (try simp at this); (try simp); omega
  simp [g12, qyD, t54449, t54060, t54448, t54401, t54442, t54453]
  refine FF_byR (ok49 _ bb d12 l12 q.quota (by omega) (by omega) k12) ?_
  rintro v h13' ⟨rfl, d13, k13, m13⟩
  have M13 := M12.trans m13
  have g13 := (M13.old qb hqb hne hni).trans hq
  generalize hl13 : l12 ++ (uv (q.quota).length ++ q.quota) = l13 at k13
  have n13 : l13.length ≤ 278000 := by
    rw [← hl13]; have := uv_length (q.quota).length (by simp [B64, usr, hst]; omega); (try simp [usr, hst] at this); (try simp [usr, hst]); omega
  simp [g13, qyD, t54449, t54060, t54448, t54401, t54442, t54453]
  refine FF_byR (ok66 _ bb d13 l13 0 (by decide) (by omega) k13) ?_
  rintro v h14' ⟨rfl, d14, k14, m14⟩
  have M14 := M13.trans m14
  have g14 := (M14.old qb hqb hne hni).trans hq
  generalize hl14 : l13 ++ uv 0 = l14 at k14
  have n14 : l14.length ≤ 284000 := by
    rw [← hl14]; have := uv_length 0 (by decide); (try simp at this); (try simp); omega
  simp [g14, qyD, t54449, t54060, t54448, t54401, t54442, t54453]
  refine FF_byR (ok66 _ bb d14 l14 0 (by decide) (by omega) k14) ?_
  rintro v h15' ⟨rfl, d15, k15, m15⟩
  have M15 := M14.trans m15
  have g15 := (M15.old qb hqb hne hni).trans hq
  generalize hl15 : l14 ++ uv 0 = l15 at k15
  have n15 : l15.length ≤ 290000 := by
    rw [← hl15]; have := uv_length 0 (by decide); (try simp at this); (try simp); omega
  simp [g15, qyD, t54449, t54060, t54448, t54401, t54442, t54453]
  refine FF_by (ok67 _) ?_
  simp [t54449, t54060, t54448, t54401, t54442, t54453]
  refine FF_byR (ok53 _ bb d15 l15 0 _ (by simp [byteD]) (by omega) k15) ?_
  rintro v h16' ⟨rfl, d16, k16, m16⟩
  have M16 := M15.trans m16
  have g16 := (M16.old qb hqb hne hni).trans hq
  generalize hl16 : l15 ++ [0] = l16 at k16
  have n16 : l16.length ≤ 296000 := by
    rw [← hl16]; simp; omega
  simp [g16, qyD, t54449, t54060, t54448, t54401, t54442, t54453]
  refine FF_byR (ok66 _ bb d16 l16 0 (by decide) (by omega) k16) ?_
  rintro v h17' ⟨rfl, d17, k17, m17⟩
  have M17 := M16.trans m17
  have g17 := (M17.old qb hqb hne hni).trans hq
  generalize hl17 : l16 ++ uv 0 = l17 at k17
  have n17 : l17.length ≤ 302000 := by
    rw [← hl17]; have := uv_length 0 (by decide); (try simp at this); (try simp); omega
  simp [g17, qyD, t54449, t54060, t54448, t54401, t54442, t54453]
  refine FF_byR (ok66 _ bb d17 l17 0 (by decide) (by omega) k17) ?_
  rintro v h18' ⟨rfl, d18, k18, m18⟩
  have M18 := M17.trans m18
  have g18 := (M18.old qb hqb hne hni).trans hq
  generalize hl18 : l17 ++ uv 0 = l18 at k18
  have n18 : l18.length ≤ 308000 := by
    rw [← hl18]; have := uv_length 0 (by decide); (try simp at this); (try simp); omega
  simp [g18, qyD, t54449, t54060, t54448, t54401, t54442, t54453]
  refine FF_byR (ok66 _ bb d18 l18 0 (by decide) (by omega) k18) ?_
  rintro v h19' ⟨rfl, d19, k19, m19⟩
  have M19 := M18.trans m19
  have g19 := (M19.old qb hqb hne hni).trans hq
  generalize hl19 : l18 ++ uv 0 = l19 at k19
  have n19 : l19.length ≤ 314000 := by
    rw [← hl19]; have := uv_length 0 (by decide); (try simp at this); (try simp); omega
  simp [g19, qyD, t54449, t54060, t54448, t54401, t54442, t54453]
  refine REr_by _ _ .refl ⟨rfl, d19, ?_, M19⟩
  subst hl1
  subst hl2
  subst hl3
  subst hl4
  subst hl5
  subst hl6
  subst hl7
  subst hl8
  subst hl9
  subst hl10
  subst hl11
  subst hl12
  subst hl13
  subst hl14
  subst hl15
  subst hl16
  subst hl17
  subst hl18
  subst hl19
  simpa [cliW, lng, sel, usr, hst, List.append_assoc] using k19
end Go.Proofs.YtdgnjngbheecnaaDoor
