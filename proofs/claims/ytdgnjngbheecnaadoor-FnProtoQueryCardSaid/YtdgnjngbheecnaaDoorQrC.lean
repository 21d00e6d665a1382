/- A query's bytes, read by the reference (printed by genrd.py). -/
import Derived.Test.YtdgnjngbheecnaaDoorQrB
set_option linter.unusedVariables false
set_option linter.unusedSimpArgs false
set_option maxRecDepth 100000
set_option maxHeartbeats 8000000
namespace Go.Proofs.YtdgnjngbheecnaaDoor
open Go Go.Den Go.Proofs

def sTri (x : Sett) : Tri := (x.k, flag x.imp, sText x)
def pTri (x : Par) : Tri := (x.1, 2, quo x.2)
theorem sesW_tri (l : List Sett) : sesW l = tsW (l.map sTri) := by
  simp only [sesW, tsW, List.flatMap_map]
  congr 1
  funext x
  simp [seW, tW, sTri, lng]
theorem parsW_tri (l : List Par) : parsW l = tsW (l.map pTri) := by
  simp only [parsW, tsW, List.flatMap_map]
  congr 1
  funext x
  simp [parW, tW, pTri, lng]
theorem encW_length {q : Qy} (hf : QFine q) (f49 f48 f42 f53 f41 f59 : Bool) : (encW q f49 f48 f42 f53 f41 f59).length ≤ 600000 := by
  have o1 := hf.id
  have o2 := hf.body
  have lc := cliW_length hf f49 f48 f42 f53
  have ls := sesW_length q.ss hf.sx
  have lp := parsW_length q.ps hf.px
  have ps := hf.ps
  have ss := hf.ss
  have u1 := uv_length q.id.length (by simp [B64]; omega)
  have u2 := uv_length q.body.length (by simp [B64]; omega)
  have u8 := uv_length 0 (by decide)
  cases f41 <;> cases f59 <;> (simp [encW, lng, sel]; omega)
theorem ynB_eq (b : Bool) : (((ynB b).toNat : Int) == 1) = b := by cases b <;> rfl
/-- What the reference makes of it. -/
def gotD (q : Qy) : DV := .agg [.p (.string (txt q.id)), .p (.string (txt q.cl)), .p (.string (txt q.body)), .p (.string (txt q.quota)), .p (.string (txt q.user)), .p (.string (txt q.addr)), .p (.int .u64 q.a), .p (.int .u64 q.b), .p (.int .u64 0), .p (.int .u64 q.p), .p (.slice none 0 0), .p (.slice none 0 0), .p (.bool q.comp), .p (.string ⟨#[]⟩), .p (.string ⟨#[]⟩), .p (.string ⟨#[]⟩), .p (.int .u8 0)]
theorem ok16_0 {G : Nat → DV} (h : List Blk) (q : Qy) (rev : Int) (hf : QFine q) (h1 : 54430 ≤ rev) (h2 : rev ≤ 54440) :
    Ok Tryd.prog G 16 [.p (.string (txt (encW q false false false false false false))), .p (.int .u64 rev)] h (.tup [gotD q, .p (.string (txt (sesW q.ss))), .p (.string (txt (sel false (parsW q.ps)))), .p (.bool true)]) h := by
  have hlen := encW_length hf false false false false false false
  have o1 := hf.id
  have o2 := hf.user
  have o3 := hf.addr
  have o4 := hf.cl
  have o5 := hf.quota
  have o6 := hf.body
  have hse : ∀ t, t ∈ q.ss.map sTri → t.1 ≠ [] ∧ t.2.1 < B64 := fun t ht => by
    obtain ⟨x, hx, rfl⟩ := List.mem_map.1 ht
    exact ⟨hf.sk x hx, flag_lt _⟩
  have hpe : ∀ t, t ∈ q.ps.map pTri → t.1 ≠ [] ∧ t.2.1 < B64 := fun t ht => by
    obtain ⟨x, hx, rfl⟩ := List.mem_map.1 ht
    exact ⟨hf.pk x hx, by simp [pTri, B64]⟩
  obtain ⟨S19, hS19⟩ : ∃ S, S = ([] : List UInt8) := ⟨_, rfl⟩
  obtain ⟨S18, hS18⟩ : ∃ S, S = lng q.body ++ S19 := ⟨_, rfl⟩
  obtain ⟨S17, hS17⟩ : ∃ S, S = [(ynB q.comp)] ++ S18 := ⟨_, rfl⟩
  obtain ⟨S16, hS16⟩ : ∃ S, S = [2] ++ S17 := ⟨_, rfl⟩
  obtain ⟨S15, hS15⟩ : ∃ S, S = lng ([] : List UInt8) ++ S16 := ⟨_, rfl⟩
  obtain ⟨S14, hS14⟩ : ∃ S, S = sesW q.ss ++ S15 := ⟨_, rfl⟩
  obtain ⟨S13, hS13⟩ : ∃ S, S = uv 0 ++ S14 := ⟨_, rfl⟩
  obtain ⟨S12, hS12⟩ : ∃ S, S = lng q.quota ++ S13 := ⟨_, rfl⟩
  obtain ⟨S11, hS11⟩ : ∃ S, S = uv q.p ++ S12 := ⟨_, rfl⟩
  obtain ⟨S10, hS10⟩ : ∃ S, S = uv q.b ++ S11 := ⟨_, rfl⟩
  obtain ⟨S9, hS9⟩ : ∃ S, S = uv q.a ++ S10 := ⟨_, rfl⟩
  obtain ⟨S8, hS8⟩ : ∃ S, S = lng q.cl ++ S9 := ⟨_, rfl⟩
  obtain ⟨S7, hS7⟩ : ∃ S, S = lng hst ++ S8 := ⟨_, rfl⟩
  obtain ⟨S6, hS6⟩ : ∃ S, S = lng usr ++ S7 := ⟨_, rfl⟩
  obtain ⟨S5, hS5⟩ : ∃ S, S = [1] ++ S6 := ⟨_, rfl⟩
  obtain ⟨S4, hS4⟩ : ∃ S, S = lng q.addr ++ S5 := ⟨_, rfl⟩
  obtain ⟨S3, hS3⟩ : ∃ S, S = lng ([] : List UInt8) ++ S4 := ⟨_, rfl⟩
  obtain ⟨S2, hS2⟩ : ∃ S, S = lng q.user ++ S3 := ⟨_, rfl⟩
  obtain ⟨S1, hS1⟩ : ∃ S, S = [1] ++ S2 := ⟨_, rfl⟩
  obtain ⟨S0, hS0⟩ : ∃ S, S = lng q.id ++ S1 := ⟨_, rfl⟩
  have hS : encW q false false false false false false = S0 := by rw [hS0, hS1, hS2, hS3, hS4, hS5, hS6, hS7, hS8, hS9, hS10, hS11, hS12, hS13, hS14, hS15, hS16, hS17, hS18, hS19]; simp [encW, cliW, sel, List.append_assoc]
  rw [hS] at hlen ⊢
  have L0 : S1.length ≤ S0.length := by rw [hS0]; simp
  have L1 : S2.length ≤ S1.length := by rw [hS1]; simp
  have L2 : S3.length ≤ S2.length := by rw [hS2]; simp
  have L3 : S4.length ≤ S3.length := by rw [hS3]; simp
  have L4 : S5.length ≤ S4.length := by rw [hS4]; simp
  have L5 : S6.length ≤ S5.length := by rw [hS5]; simp
  have L6 : S7.length ≤ S6.length := by rw [hS6]; simp
  have L7 : S8.length ≤ S7.length := by rw [hS7]; simp
  have L8 : S9.length ≤ S8.length := by rw [hS8]; simp
  have L9 : S10.length ≤ S9.length := by rw [hS9]; simp
  have L10 : S11.length ≤ S10.length := by rw [hS10]; simp
  have L11 : S12.length ≤ S11.length := by rw [hS11]; simp
  have L12 : S13.length ≤ S12.length := by rw [hS12]; simp
  have L13 : S14.length ≤ S13.length := by rw [hS13]; simp
  have L14 : S15.length ≤ S14.length := by rw [hS14]; simp
  have L15 : S16.length ≤ S15.length := by rw [hS15]; simp
  have L16 : S17.length ≤ S16.length := by rw [hS16]; simp
  have L17 : S18.length ≤ S17.length := by rw [hS17]; simp
  have L18 : S19.length ≤ S18.length := by rw [hS18]; simp
  have t54449 : ¬ (54449 : Int) ≤ rev := by omega
  have t54060 : (54060 : Int) ≤ rev := by omega
  have t54448 : ¬ (54448 : Int) ≤ rev := by omega
  have t54401 : (54401 : Int) ≤ rev := by omega
  have t54442 : ¬ (54442 : Int) ≤ rev := by omega
  have t54453 : ¬ (54453 : Int) ≤ rev := by omega
  have t54441 : ¬ (54441 : Int) ≤ rev := by omega
  have t54459 : ¬ (54459 : Int) ≤ rev := by omega
  refine Ok_by Tryd.func16 c16_ok r16_ok 152 rfl ?_
  have bx : ∀ s : List UInt8, DV.agg [.p (.string (txt s)), .p (.bool false)] = inD s false := fun s => rfl
  simp [c16, r16, t54449, t54060, t54448, t54401, t54442, t54453, t54441, t54459, ynB_eq]
  simp only [bx]
  refine FF_by (ok34 _ (h.length + 1) q.id S1 (by first | omega | (simp [usr, hst]; omega) | (simp; omega)) (by rw [← hS0]; simp)) ?_
  simp [t54449, t54060, t54448, t54401, t54442, t54453, t54441, t54459, ynB_eq]
  refine FF_by (ok35c _ (h.length + 1) 1 S2 (by omega) (by rw [← hS1]; simp)) ?_
  simp [t54449, t54060, t54448, t54401, t54442, t54453, t54441, t54459, ynB_eq]
  refine FF_by (ok34 _ (h.length + 1) q.user S3 (by first | omega | (simp [usr, hst]; omega) | (simp; omega)) (by rw [← hS2]; simp)) ?_
  simp [t54449, t54060, t54448, t54401, t54442, t54453, t54441, t54459, ynB_eq]
  refine FF_by (ok34 _ (h.length + 1) ([] : List UInt8) S4 (by first | omega | (simp [usr, hst]; omega) | (simp; omega)) (by rw [← hS3]; simp)) ?_
  simp [t54449, t54060, t54448, t54401, t54442, t54453, t54441, t54459, ynB_eq]
  refine FF_by (ok34 _ (h.length + 1) q.addr S5 (by first | omega | (simp [usr, hst]; omega) | (simp; omega)) (by rw [← hS4]; simp)) ?_
  simp [t54449, t54060, t54448, t54401, t54442, t54453, t54441, t54459, ynB_eq]
  refine FF_by (ok35c _ (h.length + 1) 1 S6 (by omega) (by rw [← hS5]; simp)) ?_
  simp [t54449, t54060, t54448, t54401, t54442, t54453, t54441, t54459, ynB_eq]
  refine FF_by (ok34 _ (h.length + 1) usr S7 (by first | omega | (simp [usr, hst]; omega) | (simp; omega)) (by rw [← hS6]; simp)) ?_
  simp [t54449, t54060, t54448, t54401, t54442, t54453, t54441, t54459, ynB_eq]
  refine FF_by (ok34 _ (h.length + 1) hst S8 (by first | omega | (simp [usr, hst]; omega) | (simp; omega)) (by rw [← hS7]; simp)) ?_
  simp [t54449, t54060, t54448, t54401, t54442, t54453, t54441, t54459, ynB_eq]
  refine FF_by (ok34 _ (h.length + 1) q.cl S9 (by first | omega | (simp [usr, hst]; omega) | (simp; omega)) (by rw [← hS8]; simp)) ?_
  simp [t54449, t54060, t54448, t54401, t54442, t54453, t54441, t54459, ynB_eq]
  refine FF_by (ok36 _ (h.length + 1) q.a S10 (hf.a) (by omega) (by rw [← hS9]; simp)) ?_
  simp [t54449, t54060, t54448, t54401, t54442, t54453, t54441, t54459, ynB_eq]
  refine FF_by (ok36 _ (h.length + 1) q.b S11 (hf.b) (by omega) (by rw [← hS10]; simp)) ?_
  simp [t54449, t54060, t54448, t54401, t54442, t54453, t54441, t54459, ynB_eq]
  refine FF_by (ok36 _ (h.length + 1) q.p S12 (hf.p) (by omega) (by rw [← hS11]; simp)) ?_
  simp [t54449, t54060, t54448, t54401, t54442, t54453, t54441, t54459, ynB_eq]
  refine FF_by (ok34 _ (h.length + 1) q.quota S13 (by first | omega | (simp [usr, hst]; omega) | (simp; omega)) (by rw [← hS12]; simp)) ?_
  simp [t54449, t54060, t54448, t54401, t54442, t54453, t54441, t54459, ynB_eq]
  refine FF_by (ok36 _ (h.length + 1) 0 S14 (by decide) (by omega) (by rw [← hS13]; simp)) ?_
  simp [t54449, t54060, t54448, t54401, t54442, t54453, t54441, t54459, ynB_eq]
  have j14 : S14 = tsW (q.ss.map sTri) ++ (lng [] ++ S16) := by rw [hS14, hS15, sesW_tri]
  refine FF_by (ok39 _ (h.length + 1) (q.ss.map sTri) S16 (fun t ht => (hse t ht).1) (fun t ht => (hse t ht).2) (by rw [← j14]; omega) (by rw [← j14]; simp)) ?_
  simp [t54449, t54060, t54448, t54401, t54442, t54453, t54441, t54459, ynB_eq]
  refine FF_by (ok35c _ (h.length + 1) 2 S17 (by omega) (by rw [← hS16]; simp)) ?_
  simp [t54449, t54060, t54448, t54401, t54442, t54453, t54441, t54459, ynB_eq]
  refine FF_by (ok35c _ (h.length + 1) (ynB q.comp) S18 (by omega) (by rw [← hS17]; simp)) ?_
  simp [t54449, t54060, t54448, t54401, t54442, t54453, t54441, t54459, ynB_eq]
  refine FF_by (ok34 _ (h.length + 1) q.body S19 (by first | omega | (simp [usr, hst]; omega) | (simp; omega)) (by rw [← hS18]; simp)) ?_
  simp [t54449, t54060, t54448, t54401, t54442, t54453, t54441, t54459, ynB_eq]
  simp [inD, hS19, gotD, sel, sesW_tri, parsW_tri, ynB_eq]
  exact WkV.drop (by simp) id (by simp)
theorem ok16_1 {G : Nat → DV} (h : List Blk) (q : Qy) (rev : Int) (hf : QFine q) (h1 : 54441 ≤ rev) (h2 : rev ≤ 54441) :
    Ok Tryd.prog G 16 [.p (.string (txt (encW q false false false false true false))), .p (.int .u64 rev)] h (.tup [gotD q, .p (.string (txt (sesW q.ss))), .p (.string (txt (sel false (parsW q.ps)))), .p (.bool true)]) h := by
  have hlen := encW_length hf false false false false true false
  have o1 := hf.id
  have o2 := hf.user
  have o3 := hf.addr
  have o4 := hf.cl
  have o5 := hf.quota
  have o6 := hf.body
  have hse : ∀ t, t ∈ q.ss.map sTri → t.1 ≠ [] ∧ t.2.1 < B64 := fun t ht => by
    obtain ⟨x, hx, rfl⟩ := List.mem_map.1 ht
    exact ⟨hf.sk x hx, flag_lt _⟩
  have hpe : ∀ t, t ∈ q.ps.map pTri → t.1 ≠ [] ∧ t.2.1 < B64 := fun t ht => by
    obtain ⟨x, hx, rfl⟩ := List.mem_map.1 ht
    exact ⟨hf.pk x hx, by simp [pTri, B64]⟩
  obtain ⟨S20, hS20⟩ : ∃ S, S = ([] : List UInt8) := ⟨_, rfl⟩
  obtain ⟨S19, hS19⟩ : ∃ S, S = lng q.body ++ S20 := ⟨_, rfl⟩
  obtain ⟨S18, hS18⟩ : ∃ S, S = [(ynB q.comp)] ++ S19 := ⟨_, rfl⟩
  obtain ⟨S17, hS17⟩ : ∃ S, S = [2] ++ S18 := ⟨_, rfl⟩
  obtain ⟨S16, hS16⟩ : ∃ S, S = lng ([] : List UInt8) ++ S17 := ⟨_, rfl⟩
  obtain ⟨S15, hS15⟩ : ∃ S, S = lng ([] : List UInt8) ++ S16 := ⟨_, rfl⟩
  obtain ⟨S14, hS14⟩ : ∃ S, S = sesW q.ss ++ S15 := ⟨_, rfl⟩
  obtain ⟨S13, hS13⟩ : ∃ S, S = uv 0 ++ S14 := ⟨_, rfl⟩
  obtain ⟨S12, hS12⟩ : ∃ S, S = lng q.quota ++ S13 := ⟨_, rfl⟩
  obtain ⟨S11, hS11⟩ : ∃ S, S = uv q.p ++ S12 := ⟨_, rfl⟩
  obtain ⟨S10, hS10⟩ : ∃ S, S = uv q.b ++ S11 := ⟨_, rfl⟩
  obtain ⟨S9, hS9⟩ : ∃ S, S = uv q.a ++ S10 := ⟨_, rfl⟩
  obtain ⟨S8, hS8⟩ : ∃ S, S = lng q.cl ++ S9 := ⟨_, rfl⟩
  obtain ⟨S7, hS7⟩ : ∃ S, S = lng hst ++ S8 := ⟨_, rfl⟩
  obtain ⟨S6, hS6⟩ : ∃ S, S = lng usr ++ S7 := ⟨_, rfl⟩
  obtain ⟨S5, hS5⟩ : ∃ S, S = [1] ++ S6 := ⟨_, rfl⟩
  obtain ⟨S4, hS4⟩ : ∃ S, S = lng q.addr ++ S5 := ⟨_, rfl⟩
  obtain ⟨S3, hS3⟩ : ∃ S, S = lng ([] : List UInt8) ++ S4 := ⟨_, rfl⟩
  obtain ⟨S2, hS2⟩ : ∃ S, S = lng q.user ++ S3 := ⟨_, rfl⟩
  obtain ⟨S1, hS1⟩ : ∃ S, S = [1] ++ S2 := ⟨_, rfl⟩
  obtain ⟨S0, hS0⟩ : ∃ S, S = lng q.id ++ S1 := ⟨_, rfl⟩
  have hS : encW q false false false false true false = S0 := by rw [hS0, hS1, hS2, hS3, hS4, hS5, hS6, hS7, hS8, hS9, hS10, hS11, hS12, hS13, hS14, hS15, hS16, hS17, hS18, hS19, hS20]; simp [encW, cliW, sel, List.append_assoc]
  rw [hS] at hlen ⊢
  have L0 : S1.length ≤ S0.length := by rw [hS0]; simp
  have L1 : S2.length ≤ S1.length := by rw [hS1]; simp
  have L2 : S3.length ≤ S2.length := by rw [hS2]; simp
  have L3 : S4.length ≤ S3.length := by rw [hS3]; simp
  have L4 : S5.length ≤ S4.length := by rw [hS4]; simp
  have L5 : S6.length ≤ S5.length := by rw [hS5]; simp
  have L6 : S7.length ≤ S6.length := by rw [hS6]; simp
  have L7 : S8.length ≤ S7.length := by rw [hS7]; simp
  have L8 : S9.length ≤ S8.length := by rw [hS8]; simp
  have L9 : S10.length ≤ S9.length := by rw [hS9]; simp
  have L10 : S11.length ≤ S10.length := by rw [hS10]; simp
  have L11 : S12.length ≤ S11.length := by rw [hS11]; simp
  have L12 : S13.length ≤ S12.length := by rw [hS12]; simp
  have L13 : S14.length ≤ S13.length := by rw [hS13]; simp
  have L14 : S15.length ≤ S14.length := by rw [hS14]; simp
  have L15 : S16.length ≤ S15.length := by rw [hS15]; simp
  have L16 : S17.length ≤ S16.length := by rw [hS16]; simp
  have L17 : S18.length ≤ S17.length := by rw [hS17]; simp
  have L18 : S19.length ≤ S18.length := by rw [hS18]; simp
  have L19 : S20.length ≤ S19.length := by rw [hS19]; simp
  have t54449 : ¬ (54449 : Int) ≤ rev := by omega
  have t54060 : (54060 : Int) ≤ rev := by omega
  have t54448 : ¬ (54448 : Int) ≤ rev := by omega
  have t54401 : (54401 : Int) ≤ rev := by omega
  have t54442 : ¬ (54442 : Int) ≤ rev := by omega
  have t54453 : ¬ (54453 : Int) ≤ rev := by omega
  have t54441 : (54441 : Int) ≤ rev := by omega
  have t54459 : ¬ (54459 : Int) ≤ rev := by omega
  refine Ok_by Tryd.func16 c16_ok r16_ok 152 rfl ?_
  have bx : ∀ s : List UInt8, DV.agg [.p (.string (txt s)), .p (.bool false)] = inD s false := fun s => rfl
  simp [c16, r16, t54449, t54060, t54448, t54401, t54442, t54453, t54441, t54459, ynB_eq]
  simp only [bx]
  refine FF_by (ok34 _ (h.length + 1) q.id S1 (by first | omega | (simp [usr, hst]; omega) | (simp; omega)) (by rw [← hS0]; simp)) ?_
  simp [t54449, t54060, t54448, t54401, t54442, t54453, t54441, t54459, ynB_eq]
  refine FF_by (ok35c _ (h.length + 1) 1 S2 (by omega) (by rw [← hS1]; simp)) ?_
  simp [t54449, t54060, t54448, t54401, t54442, t54453, t54441, t54459, ynB_eq]
  refine FF_by (ok34 _ (h.length + 1) q.user S3 (by first | omega | (simp [usr, hst]; omega) | (simp; omega)) (by rw [← hS2]; simp)) ?_
  simp [t54449, t54060, t54448, t54401, t54442, t54453, t54441, t54459, ynB_eq]
  refine FF_by (ok34 _ (h.length + 1) ([] : List UInt8) S4 (by first | omega | (simp [usr, hst]; omega) | (simp; omega)) (by rw [← hS3]; simp)) ?_
  simp [t54449, t54060, t54448, t54401, t54442, t54453, t54441, t54459, ynB_eq]
  refine FF_by (ok34 _ (h.length + 1) q.addr S5 (by first | omega | (simp [usr, hst]; omega) | (simp; omega)) (by rw [← hS4]; simp)) ?_
  simp [t54449, t54060, t54448, t54401, t54442, t54453, t54441, t54459, ynB_eq]
  refine FF_by (ok35c _ (h.length + 1) 1 S6 (by omega) (by rw [← hS5]; simp)) ?_
  simp [t54449, t54060, t54448, t54401, t54442, t54453, t54441, t54459, ynB_eq]
  refine FF_by (ok34 _ (h.length + 1) usr S7 (by first | omega | (simp [usr, hst]; omega) | (simp; omega)) (by rw [← hS6]; simp)) ?_
  simp [t54449, t54060, t54448, t54401, t54442, t54453, t54441, t54459, ynB_eq]
  refine FF_by (ok34 _ (h.length + 1) hst S8 (by first | omega | (simp [usr, hst]; omega) | (simp; omega)) (by rw [← hS7]; simp)) ?_
  simp [t54449, t54060, t54448, t54401, t54442, t54453, t54441, t54459, ynB_eq]
  refine FF_by (ok34 _ (h.length + 1) q.cl S9 (by first | omega | (simp [usr, hst]; omega) | (simp; omega)) (by rw [← hS8]; simp)) ?_
  simp [t54449, t54060, t54448, t54401, t54442, t54453, t54441, t54459, ynB_eq]
  refine FF_by (ok36 _ (h.length + 1) q.a S10 (hf.a) (by omega) (by rw [← hS9]; simp)) ?_
  simp [t54449, t54060, t54448, t54401, t54442, t54453, t54441, t54459, ynB_eq]
  refine FF_by (ok36 _ (h.length + 1) q.b S11 (hf.b) (by omega) (by rw [← hS10]; simp)) ?_
  simp [t54449, t54060, t54448, t54401, t54442, t54453, t54441, t54459, ynB_eq]
  refine FF_by (ok36 _ (h.length + 1) q.p S12 (hf.p) (by omega) (by rw [← hS11]; simp)) ?_
  simp [t54449, t54060, t54448, t54401, t54442, t54453, t54441, t54459, ynB_eq]
  refine FF_by (ok34 _ (h.length + 1) q.quota S13 (by first | omega | (simp [usr, hst]; omega) | (simp; omega)) (by rw [← hS12]; simp)) ?_
  simp [t54449, t54060, t54448, t54401, t54442, t54453, t54441, t54459, ynB_eq]
  refine FF_by (ok36 _ (h.length + 1) 0 S14 (by decide) (by omega) (by rw [← hS13]; simp)) ?_
  simp [t54449, t54060, t54448, t54401, t54442, t54453, t54441, t54459, ynB_eq]
  have j14 : S14 = tsW (q.ss.map sTri) ++ (lng [] ++ S16) := by rw [hS14, hS15, sesW_tri]
  refine FF_by (ok39 _ (h.length + 1) (q.ss.map sTri) S16 (fun t ht => (hse t ht).1) (fun t ht => (hse t ht).2) (by rw [← j14]; omega) (by rw [← j14]; simp)) ?_
  simp [t54449, t54060, t54448, t54401, t54442, t54453, t54441, t54459, ynB_eq]
  refine FF_by (ok34 _ (h.length + 1) ([] : List UInt8) S17 (by first | omega | (simp [usr, hst]; omega) | (simp; omega)) (by rw [← hS16]; simp)) ?_
  simp [t54449, t54060, t54448, t54401, t54442, t54453, t54441, t54459, ynB_eq]
  refine FF_by (ok35c _ (h.length + 1) 2 S18 (by omega) (by rw [← hS17]; simp)) ?_
  simp [t54449, t54060, t54448, t54401, t54442, t54453, t54441, t54459, ynB_eq]
  refine FF_by (ok35c _ (h.length + 1) (ynB q.comp) S19 (by omega) (by rw [← hS18]; simp)) ?_
  simp [t54449, t54060, t54448, t54401, t54442, t54453, t54441, t54459, ynB_eq]
  refine FF_by (ok34 _ (h.length + 1) q.body S20 (by first | omega | (simp [usr, hst]; omega) | (simp; omega)) (by rw [← hS19]; simp)) ?_
  simp [t54449, t54060, t54448, t54401, t54442, t54453, t54441, t54459, ynB_eq]
  simp [inD, hS20, gotD, sel, sesW_tri, parsW_tri, ynB_eq]
  exact WkV.drop (by simp) id (by simp)
theorem ok16_2 {G : Nat → DV} (h : List Blk) (q : Qy) (rev : Int) (hf : QFine q) (h1 : 54442 ≤ rev) (h2 : rev ≤ 54447) :
    Ok Tryd.prog G 16 [.p (.string (txt (encW q false false true false true false))), .p (.int .u64 rev)] h (.tup [gotD q, .p (.string (txt (sesW q.ss))), .p (.string (txt (sel false (parsW q.ps)))), .p (.bool true)]) h := by
  have hlen := encW_length hf false false true false true false
  have o1 := hf.id
  have o2 := hf.user
  have o3 := hf.addr
  have o4 := hf.cl
  have o5 := hf.quota
  have o6 := hf.body
  have hse : ∀ t, t ∈ q.ss.map sTri → t.1 ≠ [] ∧ t.2.1 < B64 := fun t ht => by
    obtain ⟨x, hx, rfl⟩ := List.mem_map.1 ht
    exact ⟨hf.sk x hx, flag_lt _⟩
  have hpe : ∀ t, t ∈ q.ps.map pTri → t.1 ≠ [] ∧ t.2.1 < B64 := fun t ht => by
    obtain ⟨x, hx, rfl⟩ := List.mem_map.1 ht
    exact ⟨hf.pk x hx, by simp [pTri, B64]⟩
  obtain ⟨S21, hS21⟩ : ∃ S, S = ([] : List UInt8) := ⟨_, rfl⟩
  obtain ⟨S20, hS20⟩ : ∃ S, S = lng q.body ++ S21 := ⟨_, rfl⟩
  obtain ⟨S19, hS19⟩ : ∃ S, S = [(ynB q.comp)] ++ S20 := ⟨_, rfl⟩
  obtain ⟨S18, hS18⟩ : ∃ S, S = [2] ++ S19 := ⟨_, rfl⟩
  obtain ⟨S17, hS17⟩ : ∃ S, S = lng ([] : List UInt8) ++ S18 := ⟨_, rfl⟩
  obtain ⟨S16, hS16⟩ : ∃ S, S = lng ([] : List UInt8) ++ S17 := ⟨_, rfl⟩
  obtain ⟨S15, hS15⟩ : ∃ S, S = sesW q.ss ++ S16 := ⟨_, rfl⟩
  obtain ⟨S14, hS14⟩ : ∃ S, S = [0] ++ S15 := ⟨_, rfl⟩
  obtain ⟨S13, hS13⟩ : ∃ S, S = uv 0 ++ S14 := ⟨_, rfl⟩
  obtain ⟨S12, hS12⟩ : ∃ S, S = lng q.quota ++ S13 := ⟨_, rfl⟩
  obtain ⟨S11, hS11⟩ : ∃ S, S = uv q.p ++ S12 := ⟨_, rfl⟩
  obtain ⟨S10, hS10⟩ : ∃ S, S = uv q.b ++ S11 := ⟨_, rfl⟩
  obtain ⟨S9, hS9⟩ : ∃ S, S = uv q.a ++ S10 := ⟨_, rfl⟩
  obtain ⟨S8, hS8⟩ : ∃ S, S = lng q.cl ++ S9 := ⟨_, rfl⟩
  obtain ⟨S7, hS7⟩ : ∃ S, S = lng hst ++ S8 := ⟨_, rfl⟩
  obtain ⟨S6, hS6⟩ : ∃ S, S = lng usr ++ S7 := ⟨_, rfl⟩
  obtain ⟨S5, hS5⟩ : ∃ S, S = [1] ++ S6 := ⟨_, rfl⟩
  obtain ⟨S4, hS4⟩ : ∃ S, S = lng q.addr ++ S5 := ⟨_, rfl⟩
  obtain ⟨S3, hS3⟩ : ∃ S, S = lng ([] : List UInt8) ++ S4 := ⟨_, rfl⟩
  obtain ⟨S2, hS2⟩ : ∃ S, S = lng q.user ++ S3 := ⟨_, rfl⟩
  obtain ⟨S1, hS1⟩ : ∃ S, S = [1] ++ S2 := ⟨_, rfl⟩
  obtain ⟨S0, hS0⟩ : ∃ S, S = lng q.id ++ S1 := ⟨_, rfl⟩
  have hS : encW q false false true false true false = S0 := by rw [hS0, hS1, hS2, hS3, hS4, hS5, hS6, hS7, hS8, hS9, hS10, hS11, hS12, hS13, hS14, hS15, hS16, hS17, hS18, hS19, hS20, hS21]; simp [encW, cliW, sel, List.append_assoc]
  rw [hS] at hlen ⊢
  have L0 : S1.length ≤ S0.length := by rw [hS0]; simp
  have L1 : S2.length ≤ S1.length := by rw [hS1]; simp
  have L2 : S3.length ≤ S2.length := by rw [hS2]; simp
  have L3 : S4.length ≤ S3.length := by rw [hS3]; simp
  have L4 : S5.length ≤ S4.length := by rw [hS4]; simp
  have L5 : S6.length ≤ S5.length := by rw [hS5]; simp
  have L6 : S7.length ≤ S6.length := by rw [hS6]; simp
  have L7 : S8.length ≤ S7.length := by rw [hS7]; simp
  have L8 : S9.length ≤ S8.length := by rw [hS8]; simp
  have L9 : S10.length ≤ S9.length := by rw [hS9]; simp
  have L10 : S11.length ≤ S10.length := by rw [hS10]; simp
  have L11 : S12.length ≤ S11.length := by rw [hS11]; simp
  have L12 : S13.length ≤ S12.length := by rw [hS12]; simp
  have L13 : S14.length ≤ S13.length := by rw [hS13]; simp
  have L14 : S15.length ≤ S14.length := by rw [hS14]; simp
  have L15 : S16.length ≤ S15.length := by rw [hS15]; simp
  have L16 : S17.length ≤ S16.length := by rw [hS16]; simp
  have L17 : S18.length ≤ S17.length := by rw [hS17]; simp
  have L18 : S19.length ≤ S18.length := by rw [hS18]; simp
  have L19 : S20.length ≤ S19.length := by rw [hS19]; simp
  have L20 : S21.length ≤ S20.length := by rw [hS20]; simp
  have t54449 : ¬ (54449 : Int) ≤ rev := by omega
  have t54060 : (54060 : Int) ≤ rev := by omega
  have t54448 : ¬ (54448 : Int) ≤ rev := by omega
  have t54401 : (54401 : Int) ≤ rev := by omega
  have t54442 : (54442 : Int) ≤ rev := by omega
  have t54453 : ¬ (54453 : Int) ≤ rev := by omega
  have t54441 : (54441 : Int) ≤ rev := by omega
  have t54459 : ¬ (54459 : Int) ≤ rev := by omega
  refine Ok_by Tryd.func16 c16_ok r16_ok 152 rfl ?_
  have bx : ∀ s : List UInt8, DV.agg [.p (.string (txt s)), .p (.bool false)] = inD s false := fun s => rfl
  simp [c16, r16, t54449, t54060, t54448, t54401, t54442, t54453, t54441, t54459, ynB_eq]
  simp only [bx]
  refine FF_by (ok34 _ (h.length + 1) q.id S1 (by first | omega | (simp [usr, hst]; omega) | (simp; omega)) (by rw [← hS0]; simp)) ?_
  simp [t54449, t54060, t54448, t54401, t54442, t54453, t54441, t54459, ynB_eq]
  refine FF_by (ok35c _ (h.length + 1) 1 S2 (by omega) (by rw [← hS1]; simp)) ?_
  simp [t54449, t54060, t54448, t54401, t54442, t54453, t54441, t54459, ynB_eq]
  refine FF_by (ok34 _ (h.length + 1) q.user S3 (by first | omega | (simp [usr, hst]; omega) | (simp; omega)) (by rw [← hS2]; simp)) ?_
  simp [t54449, t54060, t54448, t54401, t54442, t54453, t54441, t54459, ynB_eq]
  refine FF_by (ok34 _ (h.length + 1) ([] : List UInt8) S4 (by first | omega | (simp [usr, hst]; omega) | (simp; omega)) (by rw [← hS3]; simp)) ?_
  simp [t54449, t54060, t54448, t54401, t54442, t54453, t54441, t54459, ynB_eq]
  refine FF_by (ok34 _ (h.length + 1) q.addr S5 (by first | omega | (simp [usr, hst]; omega) | (simp; omega)) (by rw [← hS4]; simp)) ?_
  simp [t54449, t54060, t54448, t54401, t54442, t54453, t54441, t54459, ynB_eq]
  refine FF_by (ok35c _ (h.length + 1) 1 S6 (by omega) (by rw [← hS5]; simp)) ?_
  simp [t54449, t54060, t54448, t54401, t54442, t54453, t54441, t54459, ynB_eq]
  refine FF_by (ok34 _ (h.length + 1) usr S7 (by first | omega | (simp [usr, hst]; omega) | (simp; omega)) (by rw [← hS6]; simp)) ?_
  simp [t54449, t54060, t54448, t54401, t54442, t54453, t54441, t54459, ynB_eq]
  refine FF_by (ok34 _ (h.length + 1) hst S8 (by first | omega | (simp [usr, hst]; omega) | (simp; omega)) (by rw [← hS7]; simp)) ?_
  simp [t54449, t54060, t54448, t54401, t54442, t54453, t54441, t54459, ynB_eq]
  refine FF_by (ok34 _ (h.length + 1) q.cl S9 (by first | omega | (simp [usr, hst]; omega) | (simp; omega)) (by rw [← hS8]; simp)) ?_
  simp [t54449, t54060, t54448, t54401, t54442, t54453, t54441, t54459, ynB_eq]
  refine FF_by (ok36 _ (h.length + 1) q.a S10 (hf.a) (by omega) (by rw [← hS9]; simp)) ?_
  simp [t54449, t54060, t54448, t54401, t54442, t54453, t54441, t54459, ynB_eq]
  refine FF_by (ok36 _ (h.length + 1) q.b S11 (hf.b) (by omega) (by rw [← hS10]; simp)) ?_
  simp [t54449, t54060, t54448, t54401, t54442, t54453, t54441, t54459, ynB_eq]
  refine FF_by (ok36 _ (h.length + 1) q.p S12 (hf.p) (by omega) (by rw [← hS11]; simp)) ?_
  simp [t54449, t54060, t54448, t54401, t54442, t54453, t54441, t54459, ynB_eq]
  refine FF_by (ok34 _ (h.length + 1) q.quota S13 (by first | omega | (simp [usr, hst]; omega) | (simp; omega)) (by rw [← hS12]; simp)) ?_
  simp [t54449, t54060, t54448, t54401, t54442, t54453, t54441, t54459, ynB_eq]
  refine FF_by (ok36 _ (h.length + 1) 0 S14 (by decide) (by omega) (by rw [← hS13]; simp)) ?_
  simp [t54449, t54060, t54448, t54401, t54442, t54453, t54441, t54459, ynB_eq]
  refine FF_by (ok35c _ (h.length + 1) 0 S15 (by omega) (by rw [← hS14]; simp)) ?_
  simp [t54449, t54060, t54448, t54401, t54442, t54453, t54441, t54459, ynB_eq]
  have j15 : S15 = tsW (q.ss.map sTri) ++ (lng [] ++ S17) := by rw [hS15, hS16, sesW_tri]
  refine FF_by (ok39 _ (h.length + 1) (q.ss.map sTri) S17 (fun t ht => (hse t ht).1) (fun t ht => (hse t ht).2) (by rw [← j15]; omega) (by rw [← j15]; simp)) ?_
  simp [t54449, t54060, t54448, t54401, t54442, t54453, t54441, t54459, ynB_eq]
  refine FF_by (ok34 _ (h.length + 1) ([] : List UInt8) S18 (by first | omega | (simp [usr, hst]; omega) | (simp; omega)) (by rw [← hS17]; simp)) ?_
  simp [t54449, t54060, t54448, t54401, t54442, t54453, t54441, t54459, ynB_eq]
  refine FF_by (ok35c _ (h.length + 1) 2 S19 (by omega) (by rw [← hS18]; simp)) ?_
  simp [t54449, t54060, t54448, t54401, t54442, t54453, t54441, t54459, ynB_eq]
  refine FF_by (ok35c _ (h.length + 1) (ynB q.comp) S20 (by omega) (by rw [← hS19]; simp)) ?_
  simp [t54449, t54060, t54448, t54401, t54442, t54453, t54441, t54459, ynB_eq]
  refine FF_by (ok34 _ (h.length + 1) q.body S21 (by first | omega | (simp [usr, hst]; omega) | (simp; omega)) (by rw [← hS20]; simp)) ?_
  simp [t54449, t54060, t54448, t54401, t54442, t54453, t54441, t54459, ynB_eq]
  simp [inD, hS21, gotD, sel, sesW_tri, parsW_tri, ynB_eq]
  exact WkV.drop (by simp) id (by simp)
theorem ok16_3 {G : Nat → DV} (h : List Blk) (q : Qy) (rev : Int) (hf : QFine q) (h1 : 54448 ≤ rev) (h2 : rev ≤ 54448) :
    Ok Tryd.prog G 16 [.p (.string (txt (encW q false true true false true false))), .p (.int .u64 rev)] h (.tup [gotD q, .p (.string (txt (sesW q.ss))), .p (.string (txt (sel false (parsW q.ps)))), .p (.bool true)]) h := by
  have hlen := encW_length hf false true true false true false
  have o1 := hf.id
  have o2 := hf.user
  have o3 := hf.addr
  have o4 := hf.cl
  have o5 := hf.quota
  have o6 := hf.body
  have hse : ∀ t, t ∈ q.ss.map sTri → t.1 ≠ [] ∧ t.2.1 < B64 := fun t ht => by
    obtain ⟨x, hx, rfl⟩ := List.mem_map.1 ht
    exact ⟨hf.sk x hx, flag_lt _⟩
  have hpe : ∀ t, t ∈ q.ps.map pTri → t.1 ≠ [] ∧ t.2.1 < B64 := fun t ht => by
    obtain ⟨x, hx, rfl⟩ := List.mem_map.1 ht
    exact ⟨hf.pk x hx, by simp [pTri, B64]⟩
  obtain ⟨S22, hS22⟩ : ∃ S, S = ([] : List UInt8) := ⟨_, rfl⟩
  obtain ⟨S21, hS21⟩ : ∃ S, S = lng q.body ++ S22 := ⟨_, rfl⟩
  obtain ⟨S20, hS20⟩ : ∃ S, S = [(ynB q.comp)] ++ S21 := ⟨_, rfl⟩
  obtain ⟨S19, hS19⟩ : ∃ S, S = [2] ++ S20 := ⟨_, rfl⟩
  obtain ⟨S18, hS18⟩ : ∃ S, S = lng ([] : List UInt8) ++ S19 := ⟨_, rfl⟩
  obtain ⟨S17, hS17⟩ : ∃ S, S = lng ([] : List UInt8) ++ S18 := ⟨_, rfl⟩
  obtain ⟨S16, hS16⟩ : ∃ S, S = sesW q.ss ++ S17 := ⟨_, rfl⟩
  obtain ⟨S15, hS15⟩ : ∃ S, S = [0] ++ S16 := ⟨_, rfl⟩
  obtain ⟨S14, hS14⟩ : ∃ S, S = uv 0 ++ S15 := ⟨_, rfl⟩
  obtain ⟨S13, hS13⟩ : ∃ S, S = uv 0 ++ S14 := ⟨_, rfl⟩
  obtain ⟨S12, hS12⟩ : ∃ S, S = lng q.quota ++ S13 := ⟨_, rfl⟩
  obtain ⟨S11, hS11⟩ : ∃ S, S = uv q.p ++ S12 := ⟨_, rfl⟩
  obtain ⟨S10, hS10⟩ : ∃ S, S = uv q.b ++ S11 := ⟨_, rfl⟩
  obtain ⟨S9, hS9⟩ : ∃ S, S = uv q.a ++ S10 := ⟨_, rfl⟩
  obtain ⟨S8, hS8⟩ : ∃ S, S = lng q.cl ++ S9 := ⟨_, rfl⟩
  obtain ⟨S7, hS7⟩ : ∃ S, S = lng hst ++ S8 := ⟨_, rfl⟩
  obtain ⟨S6, hS6⟩ : ∃ S, S = lng usr ++ S7 := ⟨_, rfl⟩
  obtain ⟨S5, hS5⟩ : ∃ S, S = [1] ++ S6 := ⟨_, rfl⟩
  obtain ⟨S4, hS4⟩ : ∃ S, S = lng q.addr ++ S5 := ⟨_, rfl⟩
  obtain ⟨S3, hS3⟩ : ∃ S, S = lng ([] : List UInt8) ++ S4 := ⟨_, rfl⟩
  obtain ⟨S2, hS2⟩ : ∃ S, S = lng q.user ++ S3 := ⟨_, rfl⟩
  obtain ⟨S1, hS1⟩ : ∃ S, S = [1] ++ S2 := ⟨_, rfl⟩
  obtain ⟨S0, hS0⟩ : ∃ S, S = lng q.id ++ S1 := ⟨_, rfl⟩
  have hS : encW q false true true false true false = S0 := by rw [hS0, hS1, hS2, hS3, hS4, hS5, hS6, hS7, hS8, hS9, hS10, hS11, hS12, hS13, hS14, hS15, hS16, hS17, hS18, hS19, hS20, hS21, hS22]; simp [encW, cliW, sel, List.append_assoc]
  rw [hS] at hlen ⊢
  have L0 : S1.length ≤ S0.length := by rw [hS0]; simp
  have L1 : S2.length ≤ S1.length := by rw [hS1]; simp
  have L2 : S3.length ≤ S2.length := by rw [hS2]; simp
  have L3 : S4.length ≤ S3.length := by rw [hS3]; simp
  have L4 : S5.length ≤ S4.length := by rw [hS4]; simp
  have L5 : S6.length ≤ S5.length := by rw [hS5]; simp
  have L6 : S7.length ≤ S6.length := by rw [hS6]; simp
  have L7 : S8.length ≤ S7.length := by rw [hS7]; simp
  have L8 : S9.length ≤ S8.length := by rw [hS8]; simp
  have L9 : S10.length ≤ S9.length := by rw [hS9]; simp
  have L10 : S11.length ≤ S10.length := by rw [hS10]; simp
  have L11 : S12.length ≤ S11.length := by rw [hS11]; simp
  have L12 : S13.length ≤ S12.length := by rw [hS12]; simp
  have L13 : S14.length ≤ S13.length := by rw [hS13]; simp
  have L14 : S15.length ≤ S14.length := by rw [hS14]; simp
  have L15 : S16.length ≤ S15.length := by rw [hS15]; simp
  have L16 : S17.length ≤ S16.length := by rw [hS16]; simp
  have L17 : S18.length ≤ S17.length := by rw [hS17]; simp
  have L18 : S19.length ≤ S18.length := by rw [hS18]; simp
  have L19 : S20.length ≤ S19.length := by rw [hS19]; simp
  have L20 : S21.length ≤ S20.length := by rw [hS20]; simp
  have L21 : S22.length ≤ S21.length := by rw [hS21]; simp
  have t54449 : ¬ (54449 : Int) ≤ rev := by omega
  have t54060 : (54060 : Int) ≤ rev := by omega
  have t54448 : (54448 : Int) ≤ rev := by omega
  have t54401 : (54401 : Int) ≤ rev := by omega
  have t54442 : (54442 : Int) ≤ rev := by omega
  have t54453 : ¬ (54453 : Int) ≤ rev := by omega
  have t54441 : (54441 : Int) ≤ rev := by omega
  have t54459 : ¬ (54459 : Int) ≤ rev := by omega
  refine Ok_by Tryd.func16 c16_ok r16_ok 152 rfl ?_
  have bx : ∀ s : List UInt8, DV.agg [.p (.string (txt s)), .p (.bool false)] = inD s false := fun s => rfl
  simp [c16, r16, t54449, t54060, t54448, t54401, t54442, t54453, t54441, t54459, ynB_eq]
  simp only [bx]
  refine FF_by (ok34 _ (h.length + 1) q.id S1 (by first | omega | (simp [usr, hst]; omega) | (simp; omega)) (by rw [← hS0]; simp)) ?_
  simp [t54449, t54060, t54448, t54401, t54442, t54453, t54441, t54459, ynB_eq]
  refine FF_by (ok35c _ (h.length + 1) 1 S2 (by omega) (by rw [← hS1]; simp)) ?_
  simp [t54449, t54060, t54448, t54401, t54442, t54453, t54441, t54459, ynB_eq]
  refine FF_by (ok34 _ (h.length + 1) q.user S3 (by first | omega | (simp [usr, hst]; omega) | (simp; omega)) (by rw [← hS2]; simp)) ?_
  simp [t54449, t54060, t54448, t54401, t54442, t54453, t54441, t54459, ynB_eq]
  refine FF_by (ok34 _ (h.length + 1) ([] : List UInt8) S4 (by first | omega | (simp [usr, hst]; omega) | (simp; omega)) (by rw [← hS3]; simp)) ?_
  simp [t54449, t54060, t54448, t54401, t54442, t54453, t54441, t54459, ynB_eq]
  refine FF_by (ok34 _ (h.length + 1) q.addr S5 (by first | omega | (simp [usr, hst]; omega) | (simp; omega)) (by rw [← hS4]; simp)) ?_
  simp [t54449, t54060, t54448, t54401, t54442, t54453, t54441, t54459, ynB_eq]
  refine FF_by (ok35c _ (h.length + 1) 1 S6 (by omega) (by rw [← hS5]; simp)) ?_
  simp [t54449, t54060, t54448, t54401, t54442, t54453, t54441, t54459, ynB_eq]
  refine FF_by (ok34 _ (h.length + 1) usr S7 (by first | omega | (simp [usr, hst]; omega) | (simp; omega)) (by rw [← hS6]; simp)) ?_
  simp [t54449, t54060, t54448, t54401, t54442, t54453, t54441, t54459, ynB_eq]
  refine FF_by (ok34 _ (h.length + 1) hst S8 (by first | omega | (simp [usr, hst]; omega) | (simp; omega)) (by rw [← hS7]; simp)) ?_
  simp [t54449, t54060, t54448, t54401, t54442, t54453, t54441, t54459, ynB_eq]
  refine FF_by (ok34 _ (h.length + 1) q.cl S9 (by first | omega | (simp [usr, hst]; omega) | (simp; omega)) (by rw [← hS8]; simp)) ?_
  simp [t54449, t54060, t54448, t54401, t54442, t54453, t54441, t54459, ynB_eq]
  refine FF_by (ok36 _ (h.length + 1) q.a S10 (hf.a) (by omega) (by rw [← hS9]; simp)) ?_
  simp [t54449, t54060, t54448, t54401, t54442, t54453, t54441, t54459, ynB_eq]
  refine FF_by (ok36 _ (h.length + 1) q.b S11 (hf.b) (by omega) (by rw [← hS10]; simp)) ?_
  simp [t54449, t54060, t54448, t54401, t54442, t54453, t54441, t54459, ynB_eq]
  refine FF_by (ok36 _ (h.length + 1) q.p S12 (hf.p) (by omega) (by rw [← hS11]; simp)) ?_
  simp [t54449, t54060, t54448, t54401, t54442, t54453, t54441, t54459, ynB_eq]
  refine FF_by (ok34 _ (h.length + 1) q.quota S13 (by first | omega | (simp [usr, hst]; omega) | (simp; omega)) (by rw [← hS12]; simp)) ?_
  simp [t54449, t54060, t54448, t54401, t54442, t54453, t54441, t54459, ynB_eq]
  refine FF_by (ok36 _ (h.length + 1) 0 S14 (by decide) (by omega) (by rw [← hS13]; simp)) ?_
  simp [t54449, t54060, t54448, t54401, t54442, t54453, t54441, t54459, ynB_eq]
  refine FF_by (ok36 _ (h.length + 1) 0 S15 (by decide) (by omega) (by rw [← hS14]; simp)) ?_
  simp [t54449, t54060, t54448, t54401, t54442, t54453, t54441, t54459, ynB_eq]
  refine FF_by (ok35c _ (h.length + 1) 0 S16 (by omega) (by rw [← hS15]; simp)) ?_
  simp [t54449, t54060, t54448, t54401, t54442, t54453, t54441, t54459, ynB_eq]
  have j16 : S16 = tsW (q.ss.map sTri) ++ (lng [] ++ S18) := by rw [hS16, hS17, sesW_tri]
  refine FF_by (ok39 _ (h.length + 1) (q.ss.map sTri) S18 (fun t ht => (hse t ht).1) (fun t ht => (hse t ht).2) (by rw [← j16]; omega) (by rw [← j16]; simp)) ?_
  simp [t54449, t54060, t54448, t54401, t54442, t54453, t54441, t54459, ynB_eq]
  refine FF_by (ok34 _ (h.length + 1) ([] : List UInt8) S19 (by first | omega | (simp [usr, hst]; omega) | (simp; omega)) (by rw [← hS18]; simp)) ?_
  simp [t54449, t54060, t54448, t54401, t54442, t54453, t54441, t54459, ynB_eq]
  refine FF_by (ok35c _ (h.length + 1) 2 S20 (by omega) (by rw [← hS19]; simp)) ?_
  simp [t54449, t54060, t54448, t54401, t54442, t54453, t54441, t54459, ynB_eq]
  refine FF_by (ok35c _ (h.length + 1) (ynB q.comp) S21 (by omega) (by rw [← hS20]; simp)) ?_
  simp [t54449, t54060, t54448, t54401, t54442, t54453, t54441, t54459, ynB_eq]
  refine FF_by (ok34 _ (h.length + 1) q.body S22 (by first | omega | (simp [usr, hst]; omega) | (simp; omega)) (by rw [← hS21]; simp)) ?_
  simp [t54449, t54060, t54448, t54401, t54442, t54453, t54441, t54459, ynB_eq]
  simp [inD, hS22, gotD, sel, sesW_tri, parsW_tri, ynB_eq]
  exact WkV.drop (by simp) id (by simp)
theorem ok16_4 {G : Nat → DV} (h : List Blk) (q : Qy) (rev : Int) (hf : QFine q) (h1 : 54449 ≤ rev) (h2 : rev ≤ 54452) :
    Ok Tryd.prog G 16 [.p (.string (txt (encW q true true true false true false))), .p (.int .u64 rev)] h (.tup [gotD q, .p (.string (txt (sesW q.ss))), .p (.string (txt (sel false (parsW q.ps)))), .p (.bool true)]) h := by
  have hlen := encW_length hf true true true false true false
  have o1 := hf.id
  have o2 := hf.user
  have o3 := hf.addr
  have o4 := hf.cl
  have o5 := hf.quota
  have o6 := hf.body
  have hse : ∀ t, t ∈ q.ss.map sTri → t.1 ≠ [] ∧ t.2.1 < B64 := fun t ht => by
    obtain ⟨x, hx, rfl⟩ := List.mem_map.1 ht
    exact ⟨hf.sk x hx, flag_lt _⟩
  have hpe : ∀ t, t ∈ q.ps.map pTri → t.1 ≠ [] ∧ t.2.1 < B64 := fun t ht => by
    obtain ⟨x, hx, rfl⟩ := List.mem_map.1 ht
    exact ⟨hf.pk x hx, by simp [pTri, B64]⟩
  obtain ⟨S23, hS23⟩ : ∃ S, S = ([] : List UInt8) := ⟨_, rfl⟩
  obtain ⟨S22, hS22⟩ : ∃ S, S = lng q.body ++ S23 := ⟨_, rfl⟩
  obtain ⟨S21, hS21⟩ : ∃ S, S = [(ynB q.comp)] ++ S22 := ⟨_, rfl⟩
  obtain ⟨S20, hS20⟩ : ∃ S, S = [2] ++ S21 := ⟨_, rfl⟩
  obtain ⟨S19, hS19⟩ : ∃ S, S = lng ([] : List UInt8) ++ S20 := ⟨_, rfl⟩
  obtain ⟨S18, hS18⟩ : ∃ S, S = lng ([] : List UInt8) ++ S19 := ⟨_, rfl⟩
  obtain ⟨S17, hS17⟩ : ∃ S, S = sesW q.ss ++ S18 := ⟨_, rfl⟩
  obtain ⟨S16, hS16⟩ : ∃ S, S = [0] ++ S17 := ⟨_, rfl⟩
  obtain ⟨S15, hS15⟩ : ∃ S, S = uv 0 ++ S16 := ⟨_, rfl⟩
  obtain ⟨S14, hS14⟩ : ∃ S, S = uv 0 ++ S15 := ⟨_, rfl⟩
  obtain ⟨S13, hS13⟩ : ∃ S, S = lng q.quota ++ S14 := ⟨_, rfl⟩
  obtain ⟨S12, hS12⟩ : ∃ S, S = uv q.p ++ S13 := ⟨_, rfl⟩
  obtain ⟨S11, hS11⟩ : ∃ S, S = uv q.b ++ S12 := ⟨_, rfl⟩
  obtain ⟨S10, hS10⟩ : ∃ S, S = uv q.a ++ S11 := ⟨_, rfl⟩
  obtain ⟨S9, hS9⟩ : ∃ S, S = lng q.cl ++ S10 := ⟨_, rfl⟩
  obtain ⟨S8, hS8⟩ : ∃ S, S = lng hst ++ S9 := ⟨_, rfl⟩
  obtain ⟨S7, hS7⟩ : ∃ S, S = lng usr ++ S8 := ⟨_, rfl⟩
  obtain ⟨S6, hS6⟩ : ∃ S, S = [1] ++ S7 := ⟨_, rfl⟩
  obtain ⟨S5, hS5⟩ : ∃ S, S = z8 ++ S6 := ⟨_, rfl⟩
  obtain ⟨S4, hS4⟩ : ∃ S, S = lng q.addr ++ S5 := ⟨_, rfl⟩
  obtain ⟨S3, hS3⟩ : ∃ S, S = lng ([] : List UInt8) ++ S4 := ⟨_, rfl⟩
  obtain ⟨S2, hS2⟩ : ∃ S, S = lng q.user ++ S3 := ⟨_, rfl⟩
  obtain ⟨S1, hS1⟩ : ∃ S, S = [1] ++ S2 := ⟨_, rfl⟩
  obtain ⟨S0, hS0⟩ : ∃ S, S = lng q.id ++ S1 := ⟨_, rfl⟩
  have hS : encW q true true true false true false = S0 := by rw [hS0, hS1, hS2, hS3, hS4, hS5, hS6, hS7, hS8, hS9, hS10, hS11, hS12, hS13, hS14, hS15, hS16, hS17, hS18, hS19, hS20, hS21, hS22, hS23]; simp [encW, cliW, sel, List.append_assoc]
  rw [hS] at hlen ⊢
  have L0 : S1.length ≤ S0.length := by rw [hS0]; simp
  have L1 : S2.length ≤ S1.length := by rw [hS1]; simp
  have L2 : S3.length ≤ S2.length := by rw [hS2]; simp
  have L3 : S4.length ≤ S3.length := by rw [hS3]; simp
  have L4 : S5.length ≤ S4.length := by rw [hS4]; simp
  have L5 : S6.length ≤ S5.length := by rw [hS5]; simp
  have L6 : S7.length ≤ S6.length := by rw [hS6]; simp
  have L7 : S8.length ≤ S7.length := by rw [hS7]; simp
  have L8 : S9.length ≤ S8.length := by rw [hS8]; simp
  have L9 : S10.length ≤ S9.length := by rw [hS9]; simp
  have L10 : S11.length ≤ S10.length := by rw [hS10]; simp
  have L11 : S12.length ≤ S11.length := by rw [hS11]; simp
  have L12 : S13.length ≤ S12.length := by rw [hS12]; simp
  have L13 : S14.length ≤ S13.length := by rw [hS13]; simp
  have L14 : S15.length ≤ S14.length := by rw [hS14]; simp
  have L15 : S16.length ≤ S15.length := by rw [hS15]; simp
  have L16 : S17.length ≤ S16.length := by rw [hS16]; simp
  have L17 : S18.length ≤ S17.length := by rw [hS17]; simp
  have L18 : S19.length ≤ S18.length := by rw [hS18]; simp
  have L19 : S20.length ≤ S19.length := by rw [hS19]; simp
  have L20 : S21.length ≤ S20.length := by rw [hS20]; simp
  have L21 : S22.length ≤ S21.length := by rw [hS21]; simp
  have L22 : S23.length ≤ S22.length := by rw [hS22]; simp
  have t54449 : (54449 : Int) ≤ rev := by omega
  have t54060 : (54060 : Int) ≤ rev := by omega
  have t54448 : (54448 : Int) ≤ rev := by omega
  have t54401 : (54401 : Int) ≤ rev := by omega
  have t54442 : (54442 : Int) ≤ rev := by omega
  have t54453 : ¬ (54453 : Int) ≤ rev := by omega
  have t54441 : (54441 : Int) ≤ rev := by omega
  have t54459 : ¬ (54459 : Int) ≤ rev := by omega
  refine Ok_by Tryd.func16 c16_ok r16_ok 152 rfl ?_
  have bx : ∀ s : List UInt8, DV.agg [.p (.string (txt s)), .p (.bool false)] = inD s false := fun s => rfl
  simp [c16, r16, t54449, t54060, t54448, t54401, t54442, t54453, t54441, t54459, ynB_eq]
  simp only [bx]
  refine FF_by (ok34 _ (h.length + 1) q.id S1 (by first | omega | (simp [usr, hst]; omega) | (simp; omega)) (by rw [← hS0]; simp)) ?_
  simp [t54449, t54060, t54448, t54401, t54442, t54453, t54441, t54459, ynB_eq]
  refine FF_by (ok35c _ (h.length + 1) 1 S2 (by omega) (by rw [← hS1]; simp)) ?_
  simp [t54449, t54060, t54448, t54401, t54442, t54453, t54441, t54459, ynB_eq]
  refine FF_by (ok34 _ (h.length + 1) q.user S3 (by first | omega | (simp [usr, hst]; omega) | (simp; omega)) (by rw [← hS2]; simp)) ?_
  simp [t54449, t54060, t54448, t54401, t54442, t54453, t54441, t54459, ynB_eq]
  refine FF_by (ok34 _ (h.length + 1) ([] : List UInt8) S4 (by first | omega | (simp [usr, hst]; omega) | (simp; omega)) (by rw [← hS3]; simp)) ?_
  simp [t54449, t54060, t54448, t54401, t54442, t54453, t54441, t54459, ynB_eq]
  refine FF_by (ok34 _ (h.length + 1) q.addr S5 (by first | omega | (simp [usr, hst]; omega) | (simp; omega)) (by rw [← hS4]; simp)) ?_
  simp [t54449, t54060, t54448, t54401, t54442, t54453, t54441, t54459, ynB_eq]
  refine FF_by (ok35z _ (h.length + 1) S6 (by omega) (by rw [← hS5]; simp)) ?_
  simp [t54449, t54060, t54448, t54401, t54442, t54453, t54441, t54459, ynB_eq]
  refine FF_by (ok35c _ (h.length + 1) 1 S7 (by omega) (by rw [← hS6]; simp)) ?_
  simp [t54449, t54060, t54448, t54401, t54442, t54453, t54441, t54459, ynB_eq]
  refine FF_by (ok34 _ (h.length + 1) usr S8 (by first | omega | (simp [usr, hst]; omega) | (simp; omega)) (by rw [← hS7]; simp)) ?_
  simp [t54449, t54060, t54448, t54401, t54442, t54453, t54441, t54459, ynB_eq]
  refine FF_by (ok34 _ (h.length + 1) hst S9 (by first | omega | (simp [usr, hst]; omega) | (simp; omega)) (by rw [← hS8]; simp)) ?_
  simp [t54449, t54060, t54448, t54401, t54442, t54453, t54441, t54459, ynB_eq]
  refine FF_by (ok34 _ (h.length + 1) q.cl S10 (by first | omega | (simp [usr, hst]; omega) | (simp; omega)) (by rw [← hS9]; simp)) ?_
  simp [t54449, t54060, t54448, t54401, t54442, t54453, t54441, t54459, ynB_eq]
  refine FF_by (ok36 _ (h.length + 1) q.a S11 (hf.a) (by omega) (by rw [← hS10]; simp)) ?_
  simp [t54449, t54060, t54448, t54401, t54442, t54453, t54441, t54459, ynB_eq]
  refine FF_by (ok36 _ (h.length + 1) q.b S12 (hf.b) (by omega) (by rw [← hS11]; simp)) ?_
  simp [t54449, t54060, t54448, t54401, t54442, t54453, t54441, t54459, ynB_eq]
  refine FF_by (ok36 _ (h.length + 1) q.p S13 (hf.p) (by omega) (by rw [← hS12]; simp)) ?_
  simp [t54449, t54060, t54448, t54401, t54442, t54453, t54441, t54459, ynB_eq]
  refine FF_by (ok34 _ (h.length + 1) q.quota S14 (by first | omega | (simp [usr, hst]; omega) | (simp; omega)) (by rw [← hS13]; simp)) ?_
  simp [t54449, t54060, t54448, t54401, t54442, t54453, t54441, t54459, ynB_eq]
  refine FF_by (ok36 _ (h.length + 1) 0 S15 (by decide) (by omega) (by rw [← hS14]; simp)) ?_
  simp [t54449, t54060, t54448, t54401, t54442, t54453, t54441, t54459, ynB_eq]
  refine FF_by (ok36 _ (h.length + 1) 0 S16 (by decide) (by omega) (by rw [← hS15]; simp)) ?_
  simp [t54449, t54060, t54448, t54401, t54442, t54453, t54441, t54459, ynB_eq]
  refine FF_by (ok35c _ (h.length + 1) 0 S17 (by omega) (by rw [← hS16]; simp)) ?_
  simp [t54449, t54060, t54448, t54401, t54442, t54453, t54441, t54459, ynB_eq]
  have j17 : S17 = tsW (q.ss.map sTri) ++ (lng [] ++ S19) := by rw [hS17, hS18, sesW_tri]
  refine FF_by (ok39 _ (h.length + 1) (q.ss.map sTri) S19 (fun t ht => (hse t ht).1) (fun t ht => (hse t ht).2) (by rw [← j17]; omega) (by rw [← j17]; simp)) ?_
  simp [t54449, t54060, t54448, t54401, t54442, t54453, t54441, t54459, ynB_eq]
  refine FF_by (ok34 _ (h.length + 1) ([] : List UInt8) S20 (by first | omega | (simp [usr, hst]; omega) | (simp; omega)) (by rw [← hS19]; simp)) ?_
  simp [t54449, t54060, t54448, t54401, t54442, t54453, t54441, t54459, ynB_eq]
  refine FF_by (ok35c _ (h.length + 1) 2 S21 (by omega) (by rw [← hS20]; simp)) ?_
  simp [t54449, t54060, t54448, t54401, t54442, t54453, t54441, t54459, ynB_eq]
  refine FF_by (ok35c _ (h.length + 1) (ynB q.comp) S22 (by omega) (by rw [← hS21]; simp)) ?_
  simp [t54449, t54060, t54448, t54401, t54442, t54453, t54441, t54459, ynB_eq]
  refine FF_by (ok34 _ (h.length + 1) q.body S23 (by first | omega | (simp [usr, hst]; omega) | (simp; omega)) (by rw [← hS22]; simp)) ?_
  simp [t54449, t54060, t54448, t54401, t54442, t54453, t54441, t54459, ynB_eq]
  simp [inD, hS23, gotD, sel, sesW_tri, parsW_tri, ynB_eq]
  exact WkV.drop (by simp) id (by simp)
theorem ok16_5 {G : Nat → DV} (h : List Blk) (q : Qy) (rev : Int) (hf : QFine q) (h1 : 54453 ≤ rev) (h2 : rev ≤ 54458) :
    Ok Tryd.prog G 16 [.p (.string (txt (encW q true true true true true false))), .p (.int .u64 rev)] h (.tup [gotD q, .p (.string (txt (sesW q.ss))), .p (.string (txt (sel false (parsW q.ps)))), .p (.bool true)]) h := by
  have hlen := encW_length hf true true true true true false
  have o1 := hf.id
  have o2 := hf.user
  have o3 := hf.addr
  have o4 := hf.cl
  have o5 := hf.quota
  have o6 := hf.body
  have hse : ∀ t, t ∈ q.ss.map sTri → t.1 ≠ [] ∧ t.2.1 < B64 := fun t ht => by
    obtain ⟨x, hx, rfl⟩ := List.mem_map.1 ht
    exact ⟨hf.sk x hx, flag_lt _⟩
  have hpe : ∀ t, t ∈ q.ps.map pTri → t.1 ≠ [] ∧ t.2.1 < B64 := fun t ht => by
    obtain ⟨x, hx, rfl⟩ := List.mem_map.1 ht
    exact ⟨hf.pk x hx, by simp [pTri, B64]⟩
  obtain ⟨S26, hS26⟩ : ∃ S, S = ([] : List UInt8) := ⟨_, rfl⟩
  obtain ⟨S25, hS25⟩ : ∃ S, S = lng q.body ++ S26 := ⟨_, rfl⟩
  obtain ⟨S24, hS24⟩ : ∃ S, S = [(ynB q.comp)] ++ S25 := ⟨_, rfl⟩
  obtain ⟨S23, hS23⟩ : ∃ S, S = [2] ++ S24 := ⟨_, rfl⟩
  obtain ⟨S22, hS22⟩ : ∃ S, S = lng ([] : List UInt8) ++ S23 := ⟨_, rfl⟩
  obtain ⟨S21, hS21⟩ : ∃ S, S = lng ([] : List UInt8) ++ S22 := ⟨_, rfl⟩
  obtain ⟨S20, hS20⟩ : ∃ S, S = sesW q.ss ++ S21 := ⟨_, rfl⟩
  obtain ⟨S19, hS19⟩ : ∃ S, S = uv 0 ++ S20 := ⟨_, rfl⟩
  obtain ⟨S18, hS18⟩ : ∃ S, S = uv 0 ++ S19 := ⟨_, rfl⟩
  obtain ⟨S17, hS17⟩ : ∃ S, S = uv 0 ++ S18 := ⟨_, rfl⟩
  obtain ⟨S16, hS16⟩ : ∃ S, S = [0] ++ S17 := ⟨_, rfl⟩
  obtain ⟨S15, hS15⟩ : ∃ S, S = uv 0 ++ S16 := ⟨_, rfl⟩
  obtain ⟨S14, hS14⟩ : ∃ S, S = uv 0 ++ S15 := ⟨_, rfl⟩
  obtain ⟨S13, hS13⟩ : ∃ S, S = lng q.quota ++ S14 := ⟨_, rfl⟩
  obtain ⟨S12, hS12⟩ : ∃ S, S = uv q.p ++ S13 := ⟨_, rfl⟩
  obtain ⟨S11, hS11⟩ : ∃ S, S = uv q.b ++ S12 := ⟨_, rfl⟩
  obtain ⟨S10, hS10⟩ : ∃ S, S = uv q.a ++ S11 := ⟨_, rfl⟩
  obtain ⟨S9, hS9⟩ : ∃ S, S = lng q.cl ++ S10 := ⟨_, rfl⟩
  obtain ⟨S8, hS8⟩ : ∃ S, S = lng hst ++ S9 := ⟨_, rfl⟩
  obtain ⟨S7, hS7⟩ : ∃ S, S = lng usr ++ S8 := ⟨_, rfl⟩
  obtain ⟨S6, hS6⟩ : ∃ S, S = [1] ++ S7 := ⟨_, rfl⟩
  obtain ⟨S5, hS5⟩ : ∃ S, S = z8 ++ S6 := ⟨_, rfl⟩
  obtain ⟨S4, hS4⟩ : ∃ S, S = lng q.addr ++ S5 := ⟨_, rfl⟩
  obtain ⟨S3, hS3⟩ : ∃ S, S = lng ([] : List UInt8) ++ S4 := ⟨_, rfl⟩
  obtain ⟨S2, hS2⟩ : ∃ S, S = lng q.user ++ S3 := ⟨_, rfl⟩
  obtain ⟨S1, hS1⟩ : ∃ S, S = [1] ++ S2 := ⟨_, rfl⟩
  obtain ⟨S0, hS0⟩ : ∃ S, S = lng q.id ++ S1 := ⟨_, rfl⟩
  have hS : encW q true true true true true false = S0 := by rw [hS0, hS1, hS2, hS3, hS4, hS5, hS6, hS7, hS8, hS9, hS10, hS11, hS12, hS13, hS14, hS15, hS16, hS17, hS18, hS19, hS20, hS21, hS22, hS23, hS24, hS25, hS26]; simp [encW, cliW, sel, List.append_assoc]
  rw [hS] at hlen ⊢
  have L0 : S1.length ≤ S0.length := by rw [hS0]; simp
  have L1 : S2.length ≤ S1.length := by rw [hS1]; simp
  have L2 : S3.length ≤ S2.length := by rw [hS2]; simp
  have L3 : S4.length ≤ S3.length := by rw [hS3]; simp
  have L4 : S5.length ≤ S4.length := by rw [hS4]; simp
  have L5 : S6.length ≤ S5.length := by rw [hS5]; simp
  have L6 : S7.length ≤ S6.length := by rw [hS6]; simp
  have L7 : S8.length ≤ S7.length := by rw [hS7]; simp
  have L8 : S9.length ≤ S8.length := by rw [hS8]; simp
  have L9 : S10.length ≤ S9.length := by rw [hS9]; simp
  have L10 : S11.length ≤ S10.length := by rw [hS10]; simp
  have L11 : S12.length ≤ S11.length := by rw [hS11]; simp
  have L12 : S13.length ≤ S12.length := by rw [hS12]; simp
  have L13 : S14.length ≤ S13.length := by rw [hS13]; simp
  have L14 : S15.length ≤ S14.length := by rw [hS14]; simp
  have L15 : S16.length ≤ S15.length := by rw [hS15]; simp
  have L16 : S17.length ≤ S16.length := by rw [hS16]; simp
  have L17 : S18.length ≤ S17.length := by rw [hS17]; simp
  have L18 : S19.length ≤ S18.length := by rw [hS18]; simp
  have L19 : S20.length ≤ S19.length := by rw [hS19]; simp
  have L20 : S21.length ≤ S20.length := by rw [hS20]; simp
  have L21 : S22.length ≤ S21.length := by rw [hS21]; simp
  have L22 : S23.length ≤ S22.length := by rw [hS22]; simp
  have L23 : S24.length ≤ S23.length := by rw [hS23]; simp
  have L24 : S25.length ≤ S24.length := by rw [hS24]; simp
  have L25 : S26.length ≤ S25.length := by rw [hS25]; simp
  have t54449 : (54449 : Int) ≤ rev := by omega
  have t54060 : (54060 : Int) ≤ rev := by omega
  have t54448 : (54448 : Int) ≤ rev := by omega
  have t54401 : (54401 : Int) ≤ rev := by omega
  have t54442 : (54442 : Int) ≤ rev := by omega
  have t54453 : (54453 : Int) ≤ rev := by omega
  have t54441 : (54441 : Int) ≤ rev := by omega
  have t54459 : ¬ (54459 : Int) ≤ rev := by omega
  refine Ok_by Tryd.func16 c16_ok r16_ok 152 rfl ?_
  have bx : ∀ s : List UInt8, DV.agg [.p (.string (txt s)), .p (.bool false)] = inD s false := fun s => rfl
  simp [c16, r16, t54449, t54060, t54448, t54401, t54442, t54453, t54441, t54459, ynB_eq]
  simp only [bx]
  refine FF_by (ok34 _ (h.length + 1) q.id S1 (by first | omega | (simp [usr, hst]; omega) | (simp; omega)) (by rw [← hS0]; simp)) ?_
  simp [t54449, t54060, t54448, t54401, t54442, t54453, t54441, t54459, ynB_eq]
  refine FF_by (ok35c _ (h.length + 1) 1 S2 (by omega) (by rw [← hS1]; simp)) ?_
  simp [t54449, t54060, t54448, t54401, t54442, t54453, t54441, t54459, ynB_eq]
  refine FF_by (ok34 _ (h.length + 1) q.user S3 (by first | omega | (simp [usr, hst]; omega) | (simp; omega)) (by rw [← hS2]; simp)) ?_
  simp [t54449, t54060, t54448, t54401, t54442, t54453, t54441, t54459, ynB_eq]
  refine FF_by (ok34 _ (h.length + 1) ([] : List UInt8) S4 (by first | omega | (simp [usr, hst]; omega) | (simp; omega)) (by rw [← hS3]; simp)) ?_
  simp [t54449, t54060, t54448, t54401, t54442, t54453, t54441, t54459, ynB_eq]
  refine FF_by (ok34 _ (h.length + 1) q.addr S5 (by first | omega | (simp [usr, hst]; omega) | (simp; omega)) (by rw [← hS4]; simp)) ?_
  simp [t54449, t54060, t54448, t54401, t54442, t54453, t54441, t54459, ynB_eq]
  refine FF_by (ok35z _ (h.length + 1) S6 (by omega) (by rw [← hS5]; simp)) ?_
  simp [t54449, t54060, t54448, t54401, t54442, t54453, t54441, t54459, ynB_eq]
  refine FF_by (ok35c _ (h.length + 1) 1 S7 (by omega) (by rw [← hS6]; simp)) ?_
  simp [t54449, t54060, t54448, t54401, t54442, t54453, t54441, t54459, ynB_eq]
  refine FF_by (ok34 _ (h.length + 1) usr S8 (by first | omega | (simp [usr, hst]; omega) | (simp; omega)) (by rw [← hS7]; simp)) ?_
  simp [t54449, t54060, t54448, t54401, t54442, t54453, t54441, t54459, ynB_eq]
  refine FF_by (ok34 _ (h.length + 1) hst S9 (by first | omega | (simp [usr, hst]; omega) | (simp; omega)) (by rw [← hS8]; simp)) ?_
  simp [t54449, t54060, t54448, t54401, t54442, t54453, t54441, t54459, ynB_eq]
  refine FF_by (ok34 _ (h.length + 1) q.cl S10 (by first | omega | (simp [usr, hst]; omega) | (simp; omega)) (by rw [← hS9]; simp)) ?_
  simp [t54449, t54060, t54448, t54401, t54442, t54453, t54441, t54459, ynB_eq]
  refine FF_by (ok36 _ (h.length + 1) q.a S11 (hf.a) (by omega) (by rw [← hS10]; simp)) ?_
  simp [t54449, t54060, t54448, t54401, t54442, t54453, t54441, t54459, ynB_eq]
  refine FF_by (ok36 _ (h.length + 1) q.b S12 (hf.b) (by omega) (by rw [← hS11]; simp)) ?_
  simp [t54449, t54060, t54448, t54401, t54442, t54453, t54441, t54459, ynB_eq]
  refine FF_by (ok36 _ (h.length + 1) q.p S13 (hf.p) (by omega) (by rw [← hS12]; simp)) ?_
  simp [t54449, t54060, t54448, t54401, t54442, t54453, t54441, t54459, ynB_eq]
  refine FF_by (ok34 _ (h.length + 1) q.quota S14 (by first | omega | (simp [usr, hst]; omega) | (simp; omega)) (by rw [← hS13]; simp)) ?_
  simp [t54449, t54060, t54448, t54401, t54442, t54453, t54441, t54459, ynB_eq]
  refine FF_by (ok36 _ (h.length + 1) 0 S15 (by decide) (by omega) (by rw [← hS14]; simp)) ?_
  simp [t54449, t54060, t54448, t54401, t54442, t54453, t54441, t54459, ynB_eq]
  refine FF_by (ok36 _ (h.length + 1) 0 S16 (by decide) (by omega) (by rw [← hS15]; simp)) ?_
  simp [t54449, t54060, t54448, t54401, t54442, t54453, t54441, t54459, ynB_eq]
  refine FF_by (ok35c _ (h.length + 1) 0 S17 (by omega) (by rw [← hS16]; simp)) ?_
  simp [t54449, t54060, t54448, t54401, t54442, t54453, t54441, t54459, ynB_eq]
  refine FF_by (ok36 _ (h.length + 1) 0 S18 (by decide) (by omega) (by rw [← hS17]; simp)) ?_
  simp [t54449, t54060, t54448, t54401, t54442, t54453, t54441, t54459, ynB_eq]
  refine FF_by (ok36 _ (h.length + 1) 0 S19 (by decide) (by omega) (by rw [← hS18]; simp)) ?_
  simp [t54449, t54060, t54448, t54401, t54442, t54453, t54441, t54459, ynB_eq]
  refine FF_by (ok36 _ (h.length + 1) 0 S20 (by decide) (by omega) (by rw [← hS19]; simp)) ?_
  simp [t54449, t54060, t54448, t54401, t54442, t54453, t54441, t54459, ynB_eq]
  have j20 : S20 = tsW (q.ss.map sTri) ++ (lng [] ++ S22) := by rw [hS20, hS21, sesW_tri]
  refine FF_by (ok39 _ (h.length + 1) (q.ss.map sTri) S22 (fun t ht => (hse t ht).1) (fun t ht => (hse t ht).2) (by rw [← j20]; omega) (by rw [← j20]; simp)) ?_
  simp [t54449, t54060, t54448, t54401, t54442, t54453, t54441, t54459, ynB_eq]
  refine FF_by (ok34 _ (h.length + 1) ([] : List UInt8) S23 (by first | omega | (simp [usr, hst]; omega) | (simp; omega)) (by rw [← hS22]; simp)) ?_
  simp [t54449, t54060, t54448, t54401, t54442, t54453, t54441, t54459, ynB_eq]
  refine FF_by (ok35c _ (h.length + 1) 2 S24 (by omega) (by rw [← hS23]; simp)) ?_
  simp [t54449, t54060, t54448, t54401, t54442, t54453, t54441, t54459, ynB_eq]
  refine FF_by (ok35c _ (h.length + 1) (ynB q.comp) S25 (by omega) (by rw [← hS24]; simp)) ?_
  simp [t54449, t54060, t54448, t54401, t54442, t54453, t54441, t54459, ynB_eq]
  refine FF_by (ok34 _ (h.length + 1) q.body S26 (by first | omega | (simp [usr, hst]; omega) | (simp; omega)) (by rw [← hS25]; simp)) ?_
  simp [t54449, t54060, t54448, t54401, t54442, t54453, t54441, t54459, ynB_eq]
  simp [inD, hS26, gotD, sel, sesW_tri, parsW_tri, ynB_eq]
  exact WkV.drop (by simp) id (by simp)
theorem ok16_6 {G : Nat → DV} (h : List Blk) (q : Qy) (rev : Int) (hf : QFine q) (h1 : 54459 ≤ rev) (h2 : rev ≤ 54489) :
    Ok Tryd.prog G 16 [.p (.string (txt (encW q true true true true true true))), .p (.int .u64 rev)] h (.tup [gotD q, .p (.string (txt (sesW q.ss))), .p (.string (txt (sel true (parsW q.ps)))), .p (.bool true)]) h := by
  have hlen := encW_length hf true true true true true true
  have o1 := hf.id
  have o2 := hf.user
  have o3 := hf.addr
  have o4 := hf.cl
  have o5 := hf.quota
  have o6 := hf.body
  have hse : ∀ t, t ∈ q.ss.map sTri → t.1 ≠ [] ∧ t.2.1 < B64 := fun t ht => by
    obtain ⟨x, hx, rfl⟩ := List.mem_map.1 ht
    exact ⟨hf.sk x hx, flag_lt _⟩
  have hpe : ∀ t, t ∈ q.ps.map pTri → t.1 ≠ [] ∧ t.2.1 < B64 := fun t ht => by
    obtain ⟨x, hx, rfl⟩ := List.mem_map.1 ht
    exact ⟨hf.pk x hx, by simp [pTri, B64]⟩
  obtain ⟨S28, hS28⟩ : ∃ S, S = ([] : List UInt8) := ⟨_, rfl⟩
  obtain ⟨S27, hS27⟩ : ∃ S, S = lng ([] : List UInt8) ++ S28 := ⟨_, rfl⟩
  obtain ⟨S26, hS26⟩ : ∃ S, S = parsW q.ps ++ S27 := ⟨_, rfl⟩
  obtain ⟨S25, hS25⟩ : ∃ S, S = lng q.body ++ S26 := ⟨_, rfl⟩
  obtain ⟨S24, hS24⟩ : ∃ S, S = [(ynB q.comp)] ++ S25 := ⟨_, rfl⟩
  obtain ⟨S23, hS23⟩ : ∃ S, S = [2] ++ S24 := ⟨_, rfl⟩
  obtain ⟨S22, hS22⟩ : ∃ S, S = lng ([] : List UInt8) ++ S23 := ⟨_, rfl⟩
  obtain ⟨S21, hS21⟩ : ∃ S, S = lng ([] : List UInt8) ++ S22 := ⟨_, rfl⟩
  obtain ⟨S20, hS20⟩ : ∃ S, S = sesW q.ss ++ S21 := ⟨_, rfl⟩
  obtain ⟨S19, hS19⟩ : ∃ S, S = uv 0 ++ S20 := ⟨_, rfl⟩
  obtain ⟨S18, hS18⟩ : ∃ S, S = uv 0 ++ S19 := ⟨_, rfl⟩
  obtain ⟨S17, hS17⟩ : ∃ S, S = uv 0 ++ S18 := ⟨_, rfl⟩
  obtain ⟨S16, hS16⟩ : ∃ S, S = [0] ++ S17 := ⟨_, rfl⟩
  obtain ⟨S15, hS15⟩ : ∃ S, S = uv 0 ++ S16 := ⟨_, rfl⟩
  obtain ⟨S14, hS14⟩ : ∃ S, S = uv 0 ++ S15 := ⟨_, rfl⟩
  obtain ⟨S13, hS13⟩ : ∃ S, S = lng q.quota ++ S14 := ⟨_, rfl⟩
  obtain ⟨S12, hS12⟩ : ∃ S, S = uv q.p ++ S13 := ⟨_, rfl⟩
  obtain ⟨S11, hS11⟩ : ∃ S, S = uv q.b ++ S12 := ⟨_, rfl⟩
  obtain ⟨S10, hS10⟩ : ∃ S, S = uv q.a ++ S11 := ⟨_, rfl⟩
  obtain ⟨S9, hS9⟩ : ∃ S, S = lng q.cl ++ S10 := ⟨_, rfl⟩
  obtain ⟨S8, hS8⟩ : ∃ S, S = lng hst ++ S9 := ⟨_, rfl⟩
  obtain ⟨S7, hS7⟩ : ∃ S, S = lng usr ++ S8 := ⟨_, rfl⟩
  obtain ⟨S6, hS6⟩ : ∃ S, S = [1] ++ S7 := ⟨_, rfl⟩
  obtain ⟨S5, hS5⟩ : ∃ S, S = z8 ++ S6 := ⟨_, rfl⟩
  obtain ⟨S4, hS4⟩ : ∃ S, S = lng q.addr ++ S5 := ⟨_, rfl⟩
  obtain ⟨S3, hS3⟩ : ∃ S, S = lng ([] : List UInt8) ++ S4 := ⟨_, rfl⟩
  obtain ⟨S2, hS2⟩ : ∃ S, S = lng q.user ++ S3 := ⟨_, rfl⟩
  obtain ⟨S1, hS1⟩ : ∃ S, S = [1] ++ S2 := ⟨_, rfl⟩
  obtain ⟨S0, hS0⟩ : ∃ S, S = lng q.id ++ S1 := ⟨_, rfl⟩
  have hS : encW q true true true true true true = S0 := by rw [hS0, hS1, hS2, hS3, hS4, hS5, hS6, hS7, hS8, hS9, hS10, hS11, hS12, hS13, hS14, hS15, hS16, hS17, hS18, hS19, hS20, hS21, hS22, hS23, hS24, hS25, hS26, hS27, hS28]; simp [encW, cliW, sel, List.append_assoc]
  rw [hS] at hlen ⊢
  have L0 : S1.length ≤ S0.length := by rw [hS0]; simp
  have L1 : S2.length ≤ S1.length := by rw [hS1]; simp
  have L2 : S3.length ≤ S2.length := by rw [hS2]; simp
  have L3 : S4.length ≤ S3.length := by rw [hS3]; simp
  have L4 : S5.length ≤ S4.length := by rw [hS4]; simp
  have L5 : S6.length ≤ S5.length := by rw [hS5]; simp
  have L6 : S7.length ≤ S6.length := by rw [hS6]; simp
  have L7 : S8.length ≤ S7.length := by rw [hS7]; simp
  have L8 : S9.length ≤ S8.length := by rw [hS8]; simp
  have L9 : S10.length ≤ S9.length := by rw [hS9]; simp
  have L10 : S11.length ≤ S10.length := by rw [hS10]; simp
  have L11 : S12.length ≤ S11.length := by rw [hS11]; simp
  have L12 : S13.length ≤ S12.length := by rw [hS12]; simp
  have L13 : S14.length ≤ S13.length := by rw [hS13]; simp
  have L14 : S15.length ≤ S14.length := by rw [hS14]; simp
  have L15 : S16.length ≤ S15.length := by rw [hS15]; simp
  have L16 : S17.length ≤ S16.length := by rw [hS16]; simp
  have L17 : S18.length ≤ S17.length := by rw [hS17]; simp
  have L18 : S19.length ≤ S18.length := by rw [hS18]; simp
  have L19 : S20.length ≤ S19.length := by rw [hS19]; simp
  have L20 : S21.length ≤ S20.length := by rw [hS20]; simp
  have L21 : S22.length ≤ S21.length := by rw [hS21]; simp
  have L22 : S23.length ≤ S22.length := by rw [hS22]; simp
  have L23 : S24.length ≤ S23.length := by rw [hS23]; simp
  have L24 : S25.length ≤ S24.length := by rw [hS24]; simp
  have L25 : S26.length ≤ S25.length := by rw [hS25]; simp
  have L26 : S27.length ≤ S26.length := by rw [hS26]; simp
  have L27 : S28.length ≤ S27.length := by rw [hS27]; simp
  have t54449 : (54449 : Int) ≤ rev := by omega
  have t54060 : (54060 : Int) ≤ rev := by omega
  have t54448 : (54448 : Int) ≤ rev := by omega
  have t54401 : (54401 : Int) ≤ rev := by omega
  have t54442 : (54442 : Int) ≤ rev := by omega
  have t54453 : (54453 : Int) ≤ rev := by omega
  have t54441 : (54441 : Int) ≤ rev := by omega
  have t54459 : (54459 : Int) ≤ rev := by omega
  refine Ok_by Tryd.func16 c16_ok r16_ok 152 rfl ?_
  have bx : ∀ s : List UInt8, DV.agg [.p (.string (txt s)), .p (.bool false)] = inD s false := fun s => rfl
  simp [c16, r16, t54449, t54060, t54448, t54401, t54442, t54453, t54441, t54459, ynB_eq]
  simp only [bx]
  refine FF_by (ok34 _ (h.length + 1) q.id S1 (by first | omega | (simp [usr, hst]; omega) | (simp; omega)) (by rw [← hS0]; simp)) ?_
  simp [t54449, t54060, t54448, t54401, t54442, t54453, t54441, t54459, ynB_eq]
  refine FF_by (ok35c _ (h.length + 1) 1 S2 (by omega) (by rw [← hS1]; simp)) ?_
  simp [t54449, t54060, t54448, t54401, t54442, t54453, t54441, t54459, ynB_eq]
  refine FF_by (ok34 _ (h.length + 1) q.user S3 (by first | omega | (simp [usr, hst]; omega) | (simp; omega)) (by rw [← hS2]; simp)) ?_
  simp [t54449, t54060, t54448, t54401, t54442, t54453, t54441, t54459, ynB_eq]
  refine FF_by (ok34 _ (h.length + 1) ([] : List UInt8) S4 (by first | omega | (simp [usr, hst]; omega) | (simp; omega)) (by rw [← hS3]; simp)) ?_
  simp [t54449, t54060, t54448, t54401, t54442, t54453, t54441, t54459, ynB_eq]
  refine FF_by (ok34 _ (h.length + 1) q.addr S5 (by first | omega | (simp [usr, hst]; omega) | (simp; omega)) (by rw [← hS4]; simp)) ?_
  simp [t54449, t54060, t54448, t54401, t54442, t54453, t54441, t54459, ynB_eq]
  refine FF_by (ok35z _ (h.length + 1) S6 (by omega) (by rw [← hS5]; simp)) ?_
  simp [t54449, t54060, t54448, t54401, t54442, t54453, t54441, t54459, ynB_eq]
  refine FF_by (ok35c _ (h.length + 1) 1 S7 (by omega) (by rw [← hS6]; simp)) ?_
  simp [t54449, t54060, t54448, t54401, t54442, t54453, t54441, t54459, ynB_eq]
  refine FF_by (ok34 _ (h.length + 1) usr S8 (by first | omega | (simp [usr, hst]; omega) | (simp; omega)) (by rw [← hS7]; simp)) ?_
  simp [t54449, t54060, t54448, t54401, t54442, t54453, t54441, t54459, ynB_eq]
  refine FF_by (ok34 _ (h.length + 1) hst S9 (by first | omega | (simp [usr, hst]; omega) | (simp; omega)) (by rw [← hS8]; simp)) ?_
  simp [t54449, t54060, t54448, t54401, t54442, t54453, t54441, t54459, ynB_eq]
  refine FF_by (ok34 _ (h.length + 1) q.cl S10 (by first | omega | (simp [usr, hst]; omega) | (simp; omega)) (by rw [← hS9]; simp)) ?_
  simp [t54449, t54060, t54448, t54401, t54442, t54453, t54441, t54459, ynB_eq]
  refine FF_by (ok36 _ (h.length + 1) q.a S11 (hf.a) (by omega) (by rw [← hS10]; simp)) ?_
  simp [t54449, t54060, t54448, t54401, t54442, t54453, t54441, t54459, ynB_eq]
  refine FF_by (ok36 _ (h.length + 1) q.b S12 (hf.b) (by omega) (by rw [← hS11]; simp)) ?_
  simp [t54449, t54060, t54448, t54401, t54442, t54453, t54441, t54459, ynB_eq]
  refine FF_by (ok36 _ (h.length + 1) q.p S13 (hf.p) (by omega) (by rw [← hS12]; simp)) ?_
  simp [t54449, t54060, t54448, t54401, t54442, t54453, t54441, t54459, ynB_eq]
  refine FF_by (ok34 _ (h.length + 1) q.quota S14 (by first | omega | (simp [usr, hst]; omega) | (simp; omega)) (by rw [← hS13]; simp)) ?_
  simp [t54449, t54060, t54448, t54401, t54442, t54453, t54441, t54459, ynB_eq]
  refine FF_by (ok36 _ (h.length + 1) 0 S15 (by decide) (by omega) (by rw [← hS14]; simp)) ?_
  simp [t54449, t54060, t54448, t54401, t54442, t54453, t54441, t54459, ynB_eq]
  refine FF_by (ok36 _ (h.length + 1) 0 S16 (by decide) (by omega) (by rw [← hS15]; simp)) ?_
  simp [t54449, t54060, t54448, t54401, t54442, t54453, t54441, t54459, ynB_eq]
  refine FF_by (ok35c _ (h.length + 1) 0 S17 (by omega) (by rw [← hS16]; simp)) ?_
  simp [t54449, t54060, t54448, t54401, t54442, t54453, t54441, t54459, ynB_eq]
  refine FF_by (ok36 _ (h.length + 1) 0 S18 (by decide) (by omega) (by rw [← hS17]; simp)) ?_
  simp [t54449, t54060, t54448, t54401, t54442, t54453, t54441, t54459, ynB_eq]
  refine FF_by (ok36 _ (h.length + 1) 0 S19 (by decide) (by omega) (by rw [← hS18]; simp)) ?_
  simp [t54449, t54060, t54448, t54401, t54442, t54453, t54441, t54459, ynB_eq]
  refine FF_by (ok36 _ (h.length + 1) 0 S20 (by decide) (by omega) (by rw [← hS19]; simp)) ?_
  simp [t54449, t54060, t54448, t54401, t54442, t54453, t54441, t54459, ynB_eq]
  have j20 : S20 = tsW (q.ss.map sTri) ++ (lng [] ++ S22) := by rw [hS20, hS21, sesW_tri]
  refine FF_by (ok39 _ (h.length + 1) (q.ss.map sTri) S22 (fun t ht => (hse t ht).1) (fun t ht => (hse t ht).2) (by rw [← j20]; omega) (by rw [← j20]; simp)) ?_
  simp [t54449, t54060, t54448, t54401, t54442, t54453, t54441, t54459, ynB_eq]
  refine FF_by (ok34 _ (h.length + 1) ([] : List UInt8) S23 (by first | omega | (simp [usr, hst]; omega) | (simp; omega)) (by rw [← hS22]; simp)) ?_
  simp [t54449, t54060, t54448, t54401, t54442, t54453, t54441, t54459, ynB_eq]
  refine FF_by (ok35c _ (h.length + 1) 2 S24 (by omega) (by rw [← hS23]; simp)) ?_
  simp [t54449, t54060, t54448, t54401, t54442, t54453, t54441, t54459, ynB_eq]
  refine FF_by (ok35c _ (h.length + 1) (ynB q.comp) S25 (by omega) (by rw [← hS24]; simp)) ?_
  simp [t54449, t54060, t54448, t54401, t54442, t54453, t54441, t54459, ynB_eq]
  refine FF_by (ok34 _ (h.length + 1) q.body S26 (by first | omega | (simp [usr, hst]; omega) | (simp; omega)) (by rw [← hS25]; simp)) ?_
  simp [t54449, t54060, t54448, t54401, t54442, t54453, t54441, t54459, ynB_eq]
  have j26 : S26 = tsW (q.ps.map pTri) ++ (lng [] ++ S28) := by rw [hS26, hS27, parsW_tri]
  refine FF_by (ok39 _ (h.length + 1) (q.ps.map pTri) S28 (fun t ht => (hpe t ht).1) (fun t ht => (hpe t ht).2) (by rw [← j26]; omega) (by rw [← j26]; simp)) ?_
  simp [t54449, t54060, t54448, t54401, t54442, t54453, t54441, t54459, ynB_eq]
  simp [inD, hS28, gotD, sel, sesW_tri, parsW_tri, ynB_eq]
  exact WkV.drop (by simp) id (by simp)
theorem ok16 {G : Nat → DV} (h : List Blk) (q : Qy) (rev : Int) (hf : QFine q) (h1 : 54430 ≤ rev) (h2 : rev ≤ 54489) :
    Ok Tryd.prog G 16 [.p (.string (txt (encR q rev))), .p (.int .u64 rev)] h (.tup [gotD q, .p (.string (txt (sesW q.ss))), .p (.string (txt (sel (decide ((54459 : Int) ≤ rev)) (parsW q.ps)))), .p (.bool true)]) h := by
  rcases (show (54430 ≤ rev ∧ rev ≤ 54440) ∨ (54441 ≤ rev ∧ rev ≤ 54441) ∨ (54442 ≤ rev ∧ rev ≤ 54447) ∨ (54448 ≤ rev ∧ rev ≤ 54448) ∨ (54449 ≤ rev ∧ rev ≤ 54452) ∨ (54453 ≤ rev ∧ rev ≤ 54458) ∨ (54459 ≤ rev ∧ rev ≤ 54489) by omega) with ⟨a, b⟩ | ⟨a, b⟩ | ⟨a, b⟩ | ⟨a, b⟩ | ⟨a, b⟩ | ⟨a, b⟩ | ⟨a, b⟩
  · rw [encR, decide_eq_false (show ¬ (54449 : Int) ≤ rev by omega), decide_eq_false (show ¬ (54448 : Int) ≤ rev by omega), decide_eq_false (show ¬ (54442 : Int) ≤ rev by omega), decide_eq_false (show ¬ (54453 : Int) ≤ rev by omega), decide_eq_false (show ¬ (54441 : Int) ≤ rev by omega), decide_eq_false (show ¬ (54459 : Int) ≤ rev by omega)]
    exact ok16_0 h q rev hf a b
  · rw [encR, decide_eq_false (show ¬ (54449 : Int) ≤ rev by omega), decide_eq_false (show ¬ (54448 : Int) ≤ rev by omega), decide_eq_false (show ¬ (54442 : Int) ≤ rev by omega), decide_eq_false (show ¬ (54453 : Int) ≤ rev by omega), decide_eq_true (show (54441 : Int) ≤ rev by omega), decide_eq_false (show ¬ (54459 : Int) ≤ rev by omega)]
    exact ok16_1 h q rev hf a b
  · rw [encR, decide_eq_false (show ¬ (54449 : Int) ≤ rev by omega), decide_eq_false (show ¬ (54448 : Int) ≤ rev by omega), decide_eq_true (show (54442 : Int) ≤ rev by omega), decide_eq_false (show ¬ (54453 : Int) ≤ rev by omega), decide_eq_true (show (54441 : Int) ≤ rev by omega), decide_eq_false (show ¬ (54459 : Int) ≤ rev by omega)]
    exact ok16_2 h q rev hf a b
  · rw [encR, decide_eq_false (show ¬ (54449 : Int) ≤ rev by omega), decide_eq_true (show (54448 : Int) ≤ rev by omega), decide_eq_true (show (54442 : Int) ≤ rev by omega), decide_eq_false (show ¬ (54453 : Int) ≤ rev by omega), decide_eq_true (show (54441 : Int) ≤ rev by omega), decide_eq_false (show ¬ (54459 : Int) ≤ rev by omega)]
    exact ok16_3 h q rev hf a b
  · rw [encR, decide_eq_true (show (54449 : Int) ≤ rev by omega), decide_eq_true (show (54448 : Int) ≤ rev by omega), decide_eq_true (show (54442 : Int) ≤ rev by omega), decide_eq_false (show ¬ (54453 : Int) ≤ rev by omega), decide_eq_true (show (54441 : Int) ≤ rev by omega), decide_eq_false (show ¬ (54459 : Int) ≤ rev by omega)]
    exact ok16_4 h q rev hf a b
  · rw [encR, decide_eq_true (show (54449 : Int) ≤ rev by omega), decide_eq_true (show (54448 : Int) ≤ rev by omega), decide_eq_true (show (54442 : Int) ≤ rev by omega), decide_eq_true (show (54453 : Int) ≤ rev by omega), decide_eq_true (show (54441 : Int) ≤ rev by omega), decide_eq_false (show ¬ (54459 : Int) ≤ rev by omega)]
    exact ok16_5 h q rev hf a b
  · rw [encR, decide_eq_true (show (54449 : Int) ≤ rev by omega), decide_eq_true (show (54448 : Int) ≤ rev by omega), decide_eq_true (show (54442 : Int) ≤ rev by omega), decide_eq_true (show (54453 : Int) ≤ rev by omega), decide_eq_true (show (54441 : Int) ≤ rev by omega), decide_eq_true (show (54459 : Int) ≤ rev by omega)]
    exact ok16_6 h q rev hf a b
end Go.Proofs.YtdgnjngbheecnaaDoor
