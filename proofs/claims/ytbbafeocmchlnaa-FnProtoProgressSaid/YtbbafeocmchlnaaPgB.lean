/- Progress: read out of bytes. -/
import Derived.Test.YtbbafeocmchlnaaPgA
set_option linter.unusedVariables false
set_option linter.unusedSimpArgs false
set_option maxRecDepth 100000
namespace Go.Proofs.Ytbbafeocmchlnaa
open Go Go.Den Go.Proofs

def B63 : Nat := 9223372036854775808
theorem ok117 {G : Nat → DV} (h : List Blk) (n : Nat) (hn : n < B64) : Ok Try.prog G 117 [.p (.int .u64 n)] h (.p (.string (txt (dig n)))) h := by
  refine Ok_by Try.func117 c117_ok r117_ok 4 rfl ?_
  simp [c117, r117]
  refine FF_by (ok107 _ n hn) ?_
  simp
theorem cf117 : cFunc Try.prog 117 = true := by kernel_rfl
def progT (a b c d e n : Nat) (w : Bool) : List UInt8 :=
  [114, 111, 119, 115, 61] ++ dig a ++ [44, 32, 98, 121, 116, 101, 115, 61] ++ dig b ++ [44, 32, 116, 111, 116, 97, 108, 32, 114, 111, 119, 115, 61] ++ dig c ++
    (if w = true then [44, 32, 119, 114, 111, 116, 101, 32, 114, 111, 119, 115, 61] ++ dig d ++ [32, 119, 114, 111, 116, 101, 32, 98, 121, 116, 101, 115, 61] ++ dig e ++ [32, 101, 108, 97, 112, 115, 101, 100, 61] ++ durT n
      else [44, 32, 101, 108, 97, 112, 115, 101, 100, 61] ++ durT n)
def progC (a b c d e n : Nat) (w : Bool) : List DV := [.p (.int .u64 a), .p (.int .u64 b), .p (.int .u64 c), .p (.int .u64 d), .p (.int .u64 e), .p (.int .i64 n), .p (.bool w)]
theorem durT_len (n : Nat) (hn : n < B63) : (durT n).length ≤ 32 := (ok151 (G := fun _ => .any) [bufB 32 []] 0 n hn rfl).2
theorem ok78 {G : Nat → DV} (h : List Blk) (xb : Nat) (a b c d e n : Nat) (w : Bool) (ha : a < B64) (hb : b < B64) (hc : c < B64) (hd : d < B64) (he : e < B64) (hn : n < B63) (hx : h[xb]? = some (.cells 7 [.agg (progC a b c d e n w)])) :
    Ok Try.prog G 78 [.ptr xb 0 0 1] h (.p (.string (txt (progT a b c d e n w)))) h := by
  refine Ok_by Try.func78 c78_ok r78_ok 64 rfl ?_
  have la := dig_length a ha
  have lb := dig_length b hb
  have lc := dig_length c hc
  have ld := dig_length d hd
  have le := dig_length e he
  have ln := durT_len n hn
  simp [c78, r78, hx, progC]
  refine DCV_by cf117 ?_
  refine DF_by (ok117 _ a ha) ?_
  simp [hx, progC]
  refine ⟨by omega, by omega, ?_⟩
  refine DCV_by cf117 ?_
  refine DF_by (ok117 _ b hb) ?_
  simp [hx, progC]
  refine ⟨by omega, by omega, ?_⟩
  refine DCV_by cf117 ?_
  refine DF_by (ok117 _ c hc) ?_
  cases w
  · simp [hx, progC]
    refine ⟨by omega, by omega, ?_⟩
    refine FF_by (ok118 _ n hn) ?_
    simp
    refine ⟨by omega, ?_⟩
    simp [progT]
  · simp [hx, progC]
    refine ⟨by omega, by omega, ?_⟩
    refine DCV_by cf117 ?_
    refine DF_by (ok117 _ d hd) ?_
    simp [hx, progC]
    refine ⟨by omega, by omega, ?_⟩
    refine DCV_by cf117 ?_
    refine DF_by (ok117 _ e he) ?_
    simp [hx, progC]
    refine ⟨by omega, by omega, ?_⟩
    refine DF_by (ok118 _ n hn) ?_
    simp
    refine ⟨by omega, ?_⟩
    simp [progT]

def progZ : DV := .agg [.p (.int .u64 0), .p (.int .u64 0), .p (.int .u64 0), .p (.int .u64 0), .p (.int .u64 0), .p (.int .i64 0), .p (.string ⟨#[]⟩)]
def progD (a b c d e : Nat) (n : Int) (t : List UInt8) : DV := .agg [.p (.int .u64 a), .p (.int .u64 b), .p (.int .u64 c), .p (.int .u64 d), .p (.int .u64 e), .p (.int .i64 n), .p (.string (txt t))]
def progK (w : Bool) : List DV := progC 0 0 0 0 0 0 w

section
variable {G : Nat → DV} {rev : Nat} {ds : List Dec} {F : List Value → List DV}
theorem ok40e (h77 : ∀ (h : List Blk) (R : Rd) (r l : List UInt8) (xb : Nat), r.length < 140737488355328 → RdSX xb (.cells 7 [.agg (progK false)]) h R r l → OkR Try.prog G 77 [.ptr xb 0 0 1, .ptr R.rb 0 0 1, .p (.int .u64 rev)] h (DecOut 265 h R xb 7 F (decs ds r)))
    (h : List Blk) (D : List UInt8) (hD : D.length < 140737488355328) (he : decs ds D = none) : Ok Try.prog G 40 [.p (.string (txt D)), .p (.int .u64 rev)] h (.tup [progZ, .p (.int .i64 0), .p (.bool false)]) h := by
  refine Ok_by Try.func40 c40_ok r40_ok 30 rfl ?_
  simp [c40, r40]
  refine FF_by (ok60 _ D) ?_
  simp [rdBs]
  refine FF_byR (h77 (h ++ rdFrame h.length (.cells 7 [progZ]) _ D) (rdNew (h.length + 1) D) D [] (h.length + 4) hD (rdFrame_s h (.cells 7 [progZ]) 7 _ D)) ?_
  intro v h' ho
  rw [he] at ho
  obtain ⟨⟨x, rfl⟩, R', r', l', X, s, q⟩ := ho
  obtain ⟨hp, hc, hrb, hlt⟩ := rdFrame_keep q
  simp [hc, progZ, hlt]
  exact WkV.ofPure (HPre_set hp (Nat.le_refl _)) rfl
theorem ok40s (h77 : ∀ (h : List Blk) (R : Rd) (r l : List UInt8) (xb : Nat), r.length < 140737488355328 → RdSX xb (.cells 7 [.agg (progK false)]) h R r l → OkR Try.prog G 77 [.ptr xb 0 0 1, .ptr R.rb 0 0 1, .p (.int .u64 rev)] h (DecOut 265 h R xb 7 F (decs ds r)))
    {W : List UInt8} {vs : List Value} (hex : Ex (decs ds) W vs) (a b c d e n : Nat) (w : Bool) (hF : F vs = progC a b c d e n w) (ha : a < B64) (hb : b < B64) (hc : c < B64) (hd : d < B64) (he : e < B64) (hn : n < B63)
    (h : List Blk) (rest : List UInt8) (hD : (W ++ rest).length < 140737488355328) : Ok Try.prog G 40 [.p (.string (txt (W ++ rest))), .p (.int .u64 rev)] h (.tup [progD a b c d e n (progT a b c d e n w), .p (.int .i64 rest.length), .p (.bool true)]) h := by
  have hex := hex.out rest
  generalize W ++ rest = D at hD hex
  refine Ok_by Try.func40 c40_ok r40_ok 30 rfl ?_
  simp [c40, r40]
  refine FF_by (ok60 _ D) ?_
  simp [rdBs]
  refine FF_byR (h77 (h ++ rdFrame h.length (.cells 7 [progZ]) _ D) (rdNew (h.length + 1) D) D [] (h.length + 4) hD (rdFrame_s h (.cells 7 [progZ]) 7 _ D)) ?_
  intro v h' ho
  rw [hex] at ho
  obtain ⟨rfl, R', l', s, q⟩ := ho
  obtain ⟨hp, hc7, hrb, hlt⟩ := rdFrame_keep q
  have hx := s.x
  rw [hF] at hx
  have hx' := hx
  unfold progC at hx'
  simp [hx']
  refine DF_by (ok78 h' (h.length + 4) a b c d e n w ha hb hc hd he hn hx) ?_
  simp
  refine DF_by (hrb ▸ ok63 h' R' rest l' s.s) ?_
  simp [hc7, progZ, hlt]
  exact WkV.ofPure (HPre_set hp (Nat.le_refl _)) rfl
end

def progW (rev a b c d e n : Nat) : List UInt8 := uv a ++ (uv b ++ (uv c ++ (if 54420 ≤ rev then uv d ++ (uv e ++ (if 54460 ≤ rev then uv n else [])) else [])))
theorem ok38 {G : Nat → DV} (h : List Blk) (a b c d e : Nat) (n : Int) (t : List UInt8) : Ok Try.prog G 38 [progD a b c d e n t] h (.p (.bool (decide (t.length ≤ 2147483647)))) h := by
  refine Ok_by Try.func38 c38_ok r38_ok 6 rfl ?_
  simp [c38, r38, progD]
  refine CC_by (fun h1 => ?_) (fun h1 => ?_)
  · have h1 : ¬ t.length ≤ 2147483647 := by simp at h1; omega
    simp [h1]
  · have h1 : t.length ≤ 2147483647 := by simp at h1; omega
    simp [h1]
theorem ok39 {G : Nat → DV} (h : List Blk) (rev a b c d e n : Nat) (t : List UInt8) (ha : a < B64) (hb : b < B64) (hc : c < B64) (hd : d < B64) (he : e < B64) (hn : n < B63) : Ok Try.prog G 39 [progD a b c d e n t, .p (.int .u64 rev)] h (.p (.string (txt (progW rev a b c d e n)))) h := by
  have la := uv_length a ha
  have lb := uv_length b hb
  have lc := uv_length c hc
  have ld := uv_length d hd
  have le := uv_length e he
  have ln := uv_length n (by simp [B63, B64] at hn ⊢; omega)
  have hwn : IntKind.u64.wrap (n : Int) = n := by simp [IntKind.wrap, IntKind.bits, IntKind.signed]; simp [B63] at hn; omega
  refine Ok_by Try.func39 c39_ok r39_ok 35 rfl ?_
  simp [c39, r39, progD]
  refine DF_by (ok17 _ a ha) ?_
  simp
  refine DF_by (ok17 _ b hb) ?_
  simp
  refine ⟨by omega, ?_⟩
  refine DF_by (ok17 _ c hc) ?_
  by_cases g1 : 54420 ≤ rev
  · simp [show (54420 : Int) ≤ (rev : Int) by omega]
    refine ⟨by omega, ?_⟩
    refine DF_by (ok17 _ d hd) ?_
    simp
    refine DF_by (ok17 _ e he) ?_
    by_cases g2 : 54460 ≤ rev
    · simp [show (54460 : Int) ≤ (rev : Int) by omega, hwn]
      refine ⟨by omega, by omega, ?_⟩
      refine FF_by (ok17 _ n (by simp [B63, B64] at hn ⊢; omega)) ?_
      simp
      refine ⟨by omega, ?_⟩
      simp [progW, g1, g2]
    · simp [show ¬ (54460 : Int) ≤ (rev : Int) by omega]
      refine ⟨by omega, by omega, ?_⟩
      simp [progW, g1, g2]
  · have g2 : ¬ 54460 ≤ rev := by omega
    simp [show ¬ (54420 : Int) ≤ (rev : Int) by omega, show ¬ (54460 : Int) ≤ (rev : Int) by omega]
    refine ⟨by omega, ?_⟩
    simp [progW, g1]
end Go.Proofs.Ytbbafeocmchlnaa
