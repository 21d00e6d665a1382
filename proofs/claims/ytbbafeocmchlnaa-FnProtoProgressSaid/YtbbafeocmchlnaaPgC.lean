/- Progress: the walk of the law FnProtoProgress. -/
import Derived.Test.YtbbafeocmchlnaaPgB
set_option linter.unusedVariables false
set_option linter.unusedSimpArgs false
set_option maxRecDepth 100000
namespace Go.Proofs.Ytbbafeocmchlnaa
open Go Go.Den Go.Proofs

theorem progW_pos (rev a b c d e n : Nat) (ha : a < B64) : 0 < (progW rev a b c d e n).length := by
  have : 0 < (uv a).length := by
    by_cases h : a < 128
    · rw [uv_lt h]; simp
    · rw [uv_ge (by omega)]; simp
  simp only [progW, List.length_append]; omega
theorem progW_len (rev a b c d e n : Nat) (ha : a < B64) (hb : b < B64) (hc : c < B64) (hd : d < B64) (he : e < B64) (hn : n < B64) : (progW rev a b c d e n).length ≤ 60 := by
  have la := uv_length a ha
  have lb := uv_length b hb
  have lc := uv_length c hc
  have ld := uv_length d hd
  have le := uv_length e he
  have ln := uv_length n hn
  unfold progW
  split
  · split <;> simp <;> omega
  · simp; omega

theorem ok10a (rev a b c d e n cut : Nat) (t bh : List UInt8) (g1 : ¬ 54420 ≤ rev) (g2 : ¬ 54460 ≤ rev) (ha : a < B64) (hb : b < B64) (hc : c < B64) (hd : d < B64) (he : e < B64) (hn : n < B63) (hcut : cut < 65536) :
    Ok Try.prog (fun _ => .any) 10 [progD a b c d e n t, .p (.int .u64 rev), .p (.string (txt bh)), .p (.int .u16 cut)] [] (.p (.bool true)) [] := by
  have hn64 : n < B64 := by simp [B63, B64] at hn ⊢; omega
  have z64 : 0 < B64 := by decide
  have z63 : 0 < B63 := by decide
  have hWl := progW_len rev a b c d e n ha hb hc hd he hn64
  have hWp := progW_pos rev a b c d e n ha
  have hWeq : progW rev a b c d e n = uv a ++ (uv b ++ (uv c ++ ([]))) := by simp [progW, g1]
  have hex : Ex (decs [dU, dU, dU]) (progW rev a b c d e n) [.int .u64 (a : Nat), .int .u64 (b : Nat), .int .u64 (c : Nat)] := by
    rw [hWeq]
    exact (Ex.cons (ex_dU a ha) (Ex.cons (ex_dU b hb) (Ex.cons (ex_dU c hc) Ex.nil)))
  have h77 : ∀ (h : List Blk) (R : Rd) (r l : List UInt8) (xb : Nat), r.length < 140737488355328 → RdSX xb (.cells 7 [.agg (progK false)]) h R r l → OkR Try.prog (fun _ => .any) 77 [.ptr xb 0 0 1, .ptr R.rb 0 0 1, .p (.int .u64 rev)] h (DecOut 265 h R xb 7 _ (decs _ r)) := fun h R r l xb hr s => ok77a h R r l xb rev g1 g2 hr s
  have hm := Nat.mod_lt cut hWp
  have e1 : (cut : Int).tmod ((progW rev a b c d e n).length : Int) = ((cut % (progW rev a b c d e n).length : Nat) : Int) := by
    rw [Int.tmod_eq_emod_of_nonneg (by omega)]; simp
  generalize cut % (progW rev a b c d e n).length = M at hm e1
  have w16 : IntKind.i64.wrap (cut : Int) = cut := by simp [IntKind.wrap, IntKind.bits, IntKind.signed]; omega
  refine Ok_by Try.func10 c10_ok r10_ok 82 rfl ?_
  simp [c10, r10, progD]
  refine FF_by (ok38 _ a b c d e n t) ?_
  by_cases h1 : t.length ≤ 2147483647
  · by_cases h2 : bh.length ≤ 2147483647
    · have h2' : decide ((2147483647 : Int) < (bh.length : Int)) = false := by simp; omega
      simp [h1, h2', show ¬ (n : Int) < 0 by omega]
      have hb1 : (bh.take (min bh.length 100)).length ≤ 100 := by simp
      generalize bh.take (min bh.length 100) = b1 at hb1
      refine FF_by (ok39 _ rev a b c d e n [] ha hb hc hd he hn) ?_
      simp [show (rev : Int) < 54420 by omega, show (rev : Int) < 54460 by omega]
      refine ⟨by omega, ?_⟩
      refine FF_by (ok40s h77 hex a b c 0 0 0 false (by rfl) ha hb hc z64 z64 z63 _ b1 (by simp; omega)) ?_
      simp [progD, w16, e1]
      refine ⟨fun h => by rw [h] at hWp; simp at hWp, by omega, ?_⟩
      refine FF_by (ok40e h77 _ _ (by simp; omega) (hex.of_take hm)) ?_
      simp [progZ]
      refine FF_by (ok14 _) ?_
      simp
    · have h2' : decide ((2147483647 : Int) < (bh.length : Int)) = true := by simp; omega
      simp [h1, h2']
  · simp [h1]

theorem ok10b (rev a b c d e n cut : Nat) (t bh : List UInt8) (g1 : 54420 ≤ rev) (g2 : ¬ 54460 ≤ rev) (ha : a < B64) (hb : b < B64) (hc : c < B64) (hd : d < B64) (he : e < B64) (hn : n < B63) (hcut : cut < 65536) :
    Ok Try.prog (fun _ => .any) 10 [progD a b c d e n t, .p (.int .u64 rev), .p (.string (txt bh)), .p (.int .u16 cut)] [] (.p (.bool true)) [] := by
  have hn64 : n < B64 := by simp [B63, B64] at hn ⊢; omega
  have z64 : 0 < B64 := by decide
  have z63 : 0 < B63 := by decide
  have hWl := progW_len rev a b c d e n ha hb hc hd he hn64
  have hWp := progW_pos rev a b c d e n ha
  have hWeq : progW rev a b c d e n = uv a ++ (uv b ++ (uv c ++ (uv d ++ (uv e ++ ([]))))) := by simp [progW, g1, g2]
  have hex : Ex (decs [dU, dU, dU, dU, dU]) (progW rev a b c d e n) [.int .u64 (a : Nat), .int .u64 (b : Nat), .int .u64 (c : Nat), .int .u64 (d : Nat), .int .u64 (e : Nat)] := by
    rw [hWeq]
    exact (Ex.cons (ex_dU a ha) (Ex.cons (ex_dU b hb) (Ex.cons (ex_dU c hc) (Ex.cons (ex_dU d hd) (Ex.cons (ex_dU e he) Ex.nil)))))
  have h77 : ∀ (h : List Blk) (R : Rd) (r l : List UInt8) (xb : Nat), r.length < 140737488355328 → RdSX xb (.cells 7 [.agg (progK false)]) h R r l → OkR Try.prog (fun _ => .any) 77 [.ptr xb 0 0 1, .ptr R.rb 0 0 1, .p (.int .u64 rev)] h (DecOut 265 h R xb 7 _ (decs _ r)) := fun h R r l xb hr s => ok77b h R r l xb rev g1 g2 hr s
  have hm := Nat.mod_lt cut hWp
  have e1 : (cut : Int).tmod ((progW rev a b c d e n).length : Int) = ((cut % (progW rev a b c d e n).length : Nat) : Int) := by
    rw [Int.tmod_eq_emod_of_nonneg (by omega)]; simp
  generalize cut % (progW rev a b c d e n).length = M at hm e1
  have w16 : IntKind.i64.wrap (cut : Int) = cut := by simp [IntKind.wrap, IntKind.bits, IntKind.signed]; omega
  refine Ok_by Try.func10 c10_ok r10_ok 82 rfl ?_
  simp [c10, r10, progD]
  refine FF_by (ok38 _ a b c d e n t) ?_
  by_cases h1 : t.length ≤ 2147483647
  · by_cases h2 : bh.length ≤ 2147483647
    · have h2' : decide ((2147483647 : Int) < (bh.length : Int)) = false := by simp; omega
      simp [h1, h2', show ¬ (n : Int) < 0 by omega]
      have hb1 : (bh.take (min bh.length 100)).length ≤ 100 := by simp
      generalize bh.take (min bh.length 100) = b1 at hb1
      refine FF_by (ok39 _ rev a b c d e n [] ha hb hc hd he hn) ?_
      simp [show ¬ (rev : Int) < 54420 by omega, show (rev : Int) < 54460 by omega]
      refine ⟨by omega, ?_⟩
      refine FF_by (ok40s h77 hex a b c d e 0 true (by rfl) ha hb hc hd he z63 _ b1 (by simp; omega)) ?_
      simp [progD, w16, e1]
      refine ⟨fun h => by rw [h] at hWp; simp at hWp, by omega, ?_⟩
      refine FF_by (ok40e h77 _ _ (by simp; omega) (hex.of_take hm)) ?_
      simp [progZ]
      refine FF_by (ok14 _) ?_
      simp
    · have h2' : decide ((2147483647 : Int) < (bh.length : Int)) = true := by simp; omega
      simp [h1, h2']
  · simp [h1]

theorem hFc (n : Nat) (hn : n < B63) (a b c d e : Nat) : [DV.p (.int .u64 a), .p (.int .u64 b), .p (.int .u64 c), .p (.int .u64 d), .p (.int .u64 e), .p (elapV (.int .u64 n)), .p (.bool true)] = progC a b c d e n true := by
  have hw : IntKind.i64.wrap (n : Int) = n := by simp [IntKind.wrap, IntKind.bits, IntKind.signed]; simp [B63] at hn; omega
  simp only [elapV, hw]
  rfl

theorem ok10c (rev a b c d e n cut : Nat) (t bh : List UInt8) (g1 : 54420 ≤ rev) (g2 : 54460 ≤ rev) (ha : a < B64) (hb : b < B64) (hc : c < B64) (hd : d < B64) (he : e < B64) (hn : n < B63) (hcut : cut < 65536) :
    Ok Try.prog (fun _ => .any) 10 [progD a b c d e n t, .p (.int .u64 rev), .p (.string (txt bh)), .p (.int .u16 cut)] [] (.p (.bool true)) [] := by
  have hn64 : n < B64 := by simp [B63, B64] at hn ⊢; omega
  have z64 : 0 < B64 := by decide
  have z63 : 0 < B63 := by decide
  have hWl := progW_len rev a b c d e n ha hb hc hd he hn64
  have hWp := progW_pos rev a b c d e n ha
  have hWeq : progW rev a b c d e n = uv a ++ (uv b ++ (uv c ++ (uv d ++ (uv e ++ (uv n ++ ([])))))) := by simp [progW, g1, g2]
  have hex : Ex (decs [dU, dU, dU, dU, dU, dU]) (progW rev a b c d e n) [.int .u64 (a : Nat), .int .u64 (b : Nat), .int .u64 (c : Nat), .int .u64 (d : Nat), .int .u64 (e : Nat), .int .u64 (n : Nat)] := by
    rw [hWeq]
    exact (Ex.cons (ex_dU a ha) (Ex.cons (ex_dU b hb) (Ex.cons (ex_dU c hc) (Ex.cons (ex_dU d hd) (Ex.cons (ex_dU e he) (Ex.cons (ex_dU n hn64) Ex.nil))))))
  have h77 : ∀ (h : List Blk) (R : Rd) (r l : List UInt8) (xb : Nat), r.length < 140737488355328 → RdSX xb (.cells 7 [.agg (progK false)]) h R r l → OkR Try.prog (fun _ => .any) 77 [.ptr xb 0 0 1, .ptr R.rb 0 0 1, .p (.int .u64 rev)] h (DecOut 265 h R xb 7 _ (decs _ r)) := fun h R r l xb hr s => ok77c h R r l xb rev g1 g2 hr s
  have hm := Nat.mod_lt cut hWp
  have e1 : (cut : Int).tmod ((progW rev a b c d e n).length : Int) = ((cut % (progW rev a b c d e n).length : Nat) : Int) := by
    rw [Int.tmod_eq_emod_of_nonneg (by omega)]; simp
  generalize cut % (progW rev a b c d e n).length = M at hm e1
  have w16 : IntKind.i64.wrap (cut : Int) = cut := by simp [IntKind.wrap, IntKind.bits, IntKind.signed]; omega
  refine Ok_by Try.func10 c10_ok r10_ok 82 rfl ?_
  simp [c10, r10, progD]
  refine FF_by (ok38 _ a b c d e n t) ?_
  by_cases h1 : t.length ≤ 2147483647
  · by_cases h2 : bh.length ≤ 2147483647
    · have h2' : decide ((2147483647 : Int) < (bh.length : Int)) = false := by simp; omega
      simp [h1, h2', show ¬ (n : Int) < 0 by omega]
      have hb1 : (bh.take (min bh.length 100)).length ≤ 100 := by simp
      generalize bh.take (min bh.length 100) = b1 at hb1
      refine FF_by (ok39 _ rev a b c d e n [] ha hb hc hd he hn) ?_
      simp [show ¬ (rev : Int) < 54420 by omega, show ¬ (rev : Int) < 54460 by omega]
      refine ⟨by omega, ?_⟩
      refine FF_by (ok40s h77 hex a b c d e n true (by exact hFc n hn a b c d e) ha hb hc hd he hn _ b1 (by simp; omega)) ?_
      simp [progD, w16, e1]
      refine ⟨fun h => by rw [h] at hWp; simp at hWp, by omega, ?_⟩
      refine FF_by (ok40e h77 _ _ (by simp; omega) (hex.of_take hm)) ?_
      simp [progZ]
      refine FF_by (ok14 _) ?_
      simp
    · have h2' : decide ((2147483647 : Int) < (bh.length : Int)) = true := by simp; omega
      simp [h1, h2']
  · simp [h1]

theorem ok10n (rev a b c d e cut : Nat) (n : Int) (t bh : List UInt8) (hn : n < 0) :
    Ok Try.prog (fun _ => .any) 10 [progD a b c d e n t, .p (.int .u64 rev), .p (.string (txt bh)), .p (.int .u16 cut)] [] (.p (.bool true)) [] := by
  refine Ok_by Try.func10 c10_ok r10_ok 82 rfl ?_
  simp [c10, r10, progD]
  refine FF_by (ok38 _ a b c d e n t) ?_
  by_cases h1 : t.length ≤ 2147483647
  · by_cases h2 : bh.length ≤ 2147483647
    · have h2' : decide ((2147483647 : Int) < (bh.length : Int)) = false := by simp; omega
      simp [h1, h2', hn]
      refine FF_by (ok14 _) ?_
      simp
    · have h2' : decide ((2147483647 : Int) < (bh.length : Int)) = true := by simp; omega
      simp [h1, h2']
  · simp [h1]

def progSh : Sh := .st [(1, .int .u64), (1, .int .u64), (1, .int .u64), (1, .int .u64), (1, .int .u64), (1, .int .i64), (1, .str)]
theorem shaped_prog {d : DV} (s : Shaped progSh d) : ∃ a b c d' e : Nat, ∃ n : Int, ∃ t : List UInt8, d = progD a b c d' e n t ∧ a < B64 ∧ b < B64 ∧ c < B64 ∧ d' < B64 ∧ e < B64 ∧ n < B63 := by
  cases s with
  | st hl h hc =>
    rename_i ds
    match ds, hl, h with
    | [d1, d2, d3, d4, d5, d6, d7], _, h =>
      obtain ⟨a, h1, k1⟩ := shaped_u64 (h 0 (by simp) (by simp))
      obtain ⟨b, h2, k2⟩ := shaped_u64 (h 1 (by simp) (by simp))
      obtain ⟨c, h3, k3⟩ := shaped_u64 (h 2 (by simp) (by simp))
      obtain ⟨d', h4, k4⟩ := shaped_u64 (h 3 (by simp) (by simp))
      obtain ⟨e, h5, k5⟩ := shaped_u64 (h 4 (by simp) (by simp))
      have h6 := h 5 (by simp) (by simp)
      obtain ⟨t, h7, k7⟩ := shaped_str (h 6 (by simp) (by simp))
      simp only [List.getElem_cons_zero, List.getElem_cons_succ] at h1 h2 h3 h4 h5 h6 h7
      subst h1; subst h2; subst h3; subst h4; subst h5; subst h7
      cases h6 with
      | @int k n hw =>
        have hw : IntKind.i64.min ≤ n ∧ n ≤ IntKind.i64.max := by simpa [Lit.wf] using hw
        have e2 : IntKind.i64.max = 9223372036854775807 := rfl
        exact ⟨a, b, c, d', e, n, t, rfl, k1, k2, k3, k4, k5, by simp [B63]; omega⟩
theorem protoProgress_walk (d : DV) (p : Int) (bh : ByteArray) (cut : Int) (sd : Shaped progSh d) (hp : (Lit.int IntKind.u64 p).wf = true) (hb : bh.size ≤ 140737488351232) (hc : (Lit.int IntKind.u16 cut).wf = true) :
    Ok Try.prog (fun _ => .any) 10 [d, .p (.int .u64 p), .p (.string bh), .p (.int .u16 cut)] [] (.p (.bool true)) [] := by
  obtain ⟨a, b, c, d', e, n, t, rfl, ha, hb', hc', hd, he, hn⟩ := shaped_prog sd
  obtain ⟨p, rfl, _⟩ := wf_nat rfl hp
  obtain ⟨cut, rfl, hcut⟩ := wf_nat rfl hc
  rw [txt_of bh]
  by_cases h0 : n < 0
  · exact ok10n p a b c d' e cut n t _ h0
  · obtain ⟨m, rfl⟩ : ∃ m : Nat, n = m := ⟨n.toNat, by omega⟩
    have hm : m < B63 := by omega
    have hcut : cut < 65536 := by simpa [IntKind.bits] using hcut
    by_cases g1 : 54420 ≤ p
    · by_cases g2 : 54460 ≤ p
      · exact ok10c p a b c d' e m cut t _ g1 g2 ha hb' hc' hd he hm hcut
      · exact ok10b p a b c d' e m cut t _ g1 g2 ha hb' hc' hd he hm hcut
    · exact ok10a p a b c d' e m cut t _ g1 (by omega) ha hb' hc' hd he hm hcut
end Go.Proofs.Ytbbafeocmchlnaa
