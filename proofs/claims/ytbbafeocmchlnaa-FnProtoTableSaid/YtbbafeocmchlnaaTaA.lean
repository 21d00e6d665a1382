/- Tables: what is read. -/
import Derived.Test.YtbbafeocmchlnaaRdD
import Derived.Test.YtbbafeocmchlnaaPrB
import Derived.Test.YtbbafeocmchlnaaHeD
set_option linter.unusedVariables false
set_option linter.unusedSimpArgs false
set_option maxRecDepth 100000
namespace Go.Proofs.Ytbbafeocmchlnaa
open Go Go.Den Go.Proofs

theorem ok64 {G : Nat → DV} (h : List Blk) (R : Rd) (r l : List UInt8) (xb : Nat) (rev : Nat) (hr : r.length < 140737488355328) (s0 : RdSX xb (.cells 2 [.agg [.p (.string ⟨#[]⟩), .p (.string ⟨#[]⟩)]]) h R r l) : OkR Try.prog G 64 [.ptr xb 0 0 1, .ptr R.rb 0 0 1, .p (.int .u64 rev)] h
    (DecOut 265 h R xb 2 (fun vs => match vs with | [w0, w1] => [.p (w0), .p (w1)] | _ => []) (decs [dS, dS] r)) := by
  refine OkR_by Try.func64 c64_ok r64_ok 26 rfl ?_
  have hx0 := s0.x
  simp [c64, r64, hx0]
  have q0 : RdX xb h h R R := .refl
  refine FF_byR (ok109' _ R r _ R.rb q0.rb (by omega) s0.s) ?_
  intro v h1 ho
  cases hd1 : dS r with
  | none =>
    rw [hd1] at ho
    obtain ⟨⟨x, rfl⟩, R1, r1, l1, s, k⟩ := ho
    have t := s0.next s k
    have tx := t.x
    simp [tx]
    refine REr_by _ _ .refl ?_
    simp only [DecOut, decs, hd1]
    exact ⟨⟨_, rfl⟩, R1, r1, l1, _, t.set, (q0.trans k.toX).set⟩
  | some x1 =>
    obtain ⟨w0, r1⟩ := x1
    rw [hd1] at ho
    obtain ⟨rfl, R1, l1, s, k⟩ := ho
    have t := s0.next s k
    have tx := t.x
    have ts : ∀ X, (h1.set xb X)[xb]? = some X := fun X => by rw [List.getElem?_set_self t.lt]
    have hl1 := dS_len hd1
    simp [tx, ts]
    have s1 := t.set (x' := .cells 2 [.agg [.p (w0), .p (.string ⟨#[]⟩)]])
    have q1 := (q0.trans k.toX).set (k := .cells 2 [.agg [.p (w0), .p (.string ⟨#[]⟩)]])
    refine FF_byR (ok109' _ R1 r1 _ R.rb q1.rb (by omega) s1.s) ?_
    intro v h2 ho
    cases hd2 : dS r1 with
    | none =>
      rw [hd2] at ho
      obtain ⟨⟨x, rfl⟩, R2, r2, l2, s, k⟩ := ho
      have t := s1.next s k
      have tx := t.x
      simp [tx]
      refine REr_by _ _ .refl ?_
      simp only [DecOut, decs, hd1, hd2]
      exact ⟨⟨_, rfl⟩, R2, r2, l2, _, t.set, (q1.trans k.toX).set⟩
    | some x2 =>
      obtain ⟨w1, r2⟩ := x2
      rw [hd2] at ho
      obtain ⟨rfl, R2, l2, s, k⟩ := ho
      have t := s1.next s k
      have tx := t.x
      have ts : ∀ X, (h2.set xb X)[xb]? = some X := fun X => by rw [List.getElem?_set_self t.lt]
      have hl2 := dS_len hd2
      simp [tx, ts]
      have s2 := t.set (x' := .cells 2 [.agg [.p (w0), .p (w1)]])
      have q2 := (q1.trans k.toX).set (k := .cells 2 [.agg [.p (w0), .p (w1)]])
      refine REr_by _ _ .refl ?_
      simp only [DecOut, decs, hd1, hd2]
      exact ⟨rfl, _, _, s2, q2⟩

def tabT (a b : List UInt8) : List UInt8 := [102, 105, 114, 115, 116, 61] ++ a ++ [44, 32, 115, 101, 99, 111, 110, 100, 61] ++ b
theorem ok65 {G : Nat → DV} (h : List Blk) (xb : Nat) (a b : List UInt8) (ha : a.length ≤ 1000000) (hb : b.length ≤ 1000000) (hx : h[xb]? = some (.cells 2 [.agg [.p (.string (txt a)), .p (.string (txt b))]])) : Ok Try.prog G 65 [.ptr xb 0 0 1] h (.p (.string (txt (tabT a b)))) h := by
  refine Ok_by Try.func65 c65_ok r65_ok 13 rfl ?_
  simp [c65, r65, hx]
  refine ⟨by omega, by omega, by omega, ?_⟩
  simp [tabT]
def tabZ : DV := .agg [.p (.string ⟨#[]⟩), .p (.string ⟨#[]⟩), .p (.string ⟨#[]⟩)]
def tabD (a b t : List UInt8) : DV := .agg [.p (.string (txt a)), .p (.string (txt b)), .p (.string (txt t))]
def tabW (a b : List UInt8) : List UInt8 := (uv a.length ++ a) ++ ((uv b.length ++ b) ++ [])
theorem ex_tab (a b : List UInt8) (ha : a.length ≤ 1000000) (hb : b.length ≤ 1000000) : Ex (decs [dS, dS]) (tabW a b) [.string (txt a), .string (txt b)] := .cons (ex_dS a (by omega)) (.cons (ex_dS b (by omega)) .nil)
theorem tabW_len (a b : List UInt8) (ha : a.length ≤ 1000000) (hb : b.length ≤ 1000000) : (tabW a b).length ≤ a.length + b.length + 20 := by
  have la := uv_length a.length (by simp [B64]; omega)
  have lb := uv_length b.length (by simp [B64]; omega)
  simp [tabW]; omega
theorem uv_pos (n : Nat) : 0 < (uv n).length := by
  by_cases h : n < 128
  · rw [uv_lt h]; simp
  · rw [uv_ge (by omega)]; simp
theorem tabW_pos (a b : List UInt8) : 0 < (tabW a b).length := by
  have := uv_pos a.length
  simp [tabW]; omega

theorem ok25e {G : Nat → DV} (h : List Blk) (D : List UInt8) (rev : Nat) (hD : D.length < 140737488355328) (he : decs [dS, dS] D = none) : Ok Try.prog G 25 [.p (.string (txt D)), .p (.int .u64 rev)] h (.tup [tabZ, .p (.int .i64 0), .p (.bool false)]) h := by
  refine Ok_by Try.func25 c25_ok r25_ok 22 rfl ?_
  simp [c25, r25]
  refine FF_by (ok60 _ D) ?_
  simp [rdBs]
  refine FF_byR (ok64 (h ++ rdFrame h.length (.cells 3 [tabZ]) _ D) (rdNew (h.length + 1) D) D [] (h.length + 4) rev hD (rdFrame_s h (.cells 3 [tabZ]) 2 _ D)) ?_
  intro v h' ho
  rw [he] at ho
  obtain ⟨⟨x, rfl⟩, R', r', l', X, s, q⟩ := ho
  obtain ⟨hp, hc, hrb, hlt⟩ := rdFrame_keep q
  simp [hc, tabZ, hlt]
  exact WkV.ofPure (HPre_set hp (Nat.le_refl _)) rfl
theorem ok25s {G : Nat → DV} (h : List Blk) (a b : List UInt8) (ha : a.length ≤ 1000000) (hb : b.length ≤ 1000000) (rest : List UInt8) (rev : Nat) (hr : rest.length < 100000000) :
    Ok Try.prog G 25 [.p (.string (txt (tabW a b ++ rest))), .p (.int .u64 rev)] h (.tup [tabD a b (tabT a b), .p (.int .i64 rest.length), .p (.bool true)]) h := by
  have hW := tabW_len a b ha hb
  have hD : (tabW a b ++ rest).length < 140737488355328 := by simp; omega
  have hex := (ex_tab a b ha hb).out rest
  generalize tabW a b ++ rest = D at hD hex
  refine Ok_by Try.func25 c25_ok r25_ok 22 rfl ?_
  simp [c25, r25]
  refine FF_by (ok60 _ D) ?_
  simp [rdBs]
  refine FF_byR (ok64 (h ++ rdFrame h.length (.cells 3 [tabZ]) _ D) (rdNew (h.length + 1) D) D [] (h.length + 4) rev hD (rdFrame_s h (.cells 3 [tabZ]) 2 _ D)) ?_
  intro v h' ho
  rw [hex] at ho
  obtain ⟨rfl, R', l', s, q⟩ := ho
  obtain ⟨hp, hc7, hrb, hlt⟩ := rdFrame_keep q
  have hx := s.x
  simp [hx]
  refine DF_by (ok65 h' (h.length + 4) a b ha hb hx) ?_
  simp
  refine DF_by (hrb ▸ ok63 h' R' rest l' s.s) ?_
  simp [hc7, tabZ, hlt]
  exact WkV.ofPure (HPre_set hp (Nat.le_refl _)) rfl

theorem ok6 (a b bh : List UInt8) (rev cut : Nat) (hcut : cut < 65536) (ha : a.length ≤ 140737488351232) (hb : b.length ≤ 140737488351232) (hbh : bh.length ≤ 140737488351232) :
    Ok Try.prog (fun _ => .any) 6 [.p (.string (txt a)), .p (.string (txt b)), .p (.string (txt bh)), .p (.int .u64 rev), .p (.int .u16 cut)] [] (.p (.bool true)) [] := by
  refine Ok_by Try.func6 c6_ok r6_ok 86 rfl ?_
  have hWp := tabW_pos a b
  have hm := Nat.mod_lt cut hWp
  have e1 : (cut : Int).tmod ((tabW a b).length : Int) = ((cut % (tabW a b).length : Nat) : Int) := by
    rw [Int.tmod_eq_emod_of_nonneg (by omega)]; simp
  generalize cut % (tabW a b).length = M at hm e1
  have w16 : IntKind.i64.wrap (cut : Int) = cut := by simp [IntKind.wrap, IntKind.bits, IntKind.signed]; omega
  by_cases h1 : a.length ≤ 2147483647
  · have h1' : decide ((2147483647 : Int) < (a.length : Int)) = false := by simp; omega
    by_cases h2 : b.length ≤ 2147483647
    · have h2' : decide ((2147483647 : Int) < (b.length : Int)) = false := by simp; omega
      by_cases h3 : bh.length ≤ 2147483647
      · have h3' : decide ((2147483647 : Int) < (bh.length : Int)) = false := by simp; omega
        simp [c6, r6, h1', h2', h3']
        have h13 := ok13 (G := fun _ => .any) [] [a, b, bh] (by simp [sumLen]; omega) (by simp)
        refine FF_by (Ok.lend gz h13 (.cons (frzR_lit (h := []) (x := []) (l := txts [a, b, bh]) rfl txts_plain) .nil) rfl) ?_
        by_cases h4 : sumLen [a, b, bh] ≤ 5000
        · have h5 : a.length + (b.length + bh.length) ≤ 5000 := by simpa [sumLen] using h4
          simp [h4]
          refine FF_by (ok16 _ a (by omega)) ?_
          simp
          refine FF_by (ok16 _ b (by omega)) ?_
          have hW := tabW_len a b (by omega) (by omega)
          have eW : uv a.length ++ (a ++ (uv b.length ++ b)) = tabW a b := by simp [tabW]
          have la := uv_length a.length (by simp [B64]; omega)
          have lb := uv_length b.length (by simp [B64]; omega)
          simp [eW]
          refine ⟨by omega, by omega, ?_⟩
          refine FF_by (ok25s _ a b (by omega) (by omega) bh rev (by omega)) ?_
          simp [tabD, w16, e1]
          refine ⟨fun h => by rw [h] at hWp; simp at hWp, by omega, ?_⟩
          refine FF_by (ok25e _ _ rev (by simp; omega) ((ex_tab a b (by omega) (by omega)).of_take hm)) ?_
          simp [tabZ]
          refine FF_by (ok14 _) ?_
          simp
        · simp [h4]
          refine FF_by (ok14 _) ?_
          simp
      · have h3' : decide ((2147483647 : Int) < (bh.length : Int)) = true := by simp; omega
        simp [c6, r6, h1', h2', h3']
    · have h2' : decide ((2147483647 : Int) < (b.length : Int)) = true := by simp; omega
      simp [c6, r6, h1', h2']
  · have h1' : decide ((2147483647 : Int) < (a.length : Int)) = true := by simp; omega
    simp [c6, r6, h1']

theorem protoTable_walk (a b bh : ByteArray) (p cut : Int) (ha : a.size ≤ 140737488351232) (hb : b.size ≤ 140737488351232) (hbh : bh.size ≤ 140737488351232) (hp : (Lit.int IntKind.u64 p).wf = true) (hc : (Lit.int IntKind.u16 cut).wf = true) :
    Ok Try.prog (fun _ => .any) 6 [.p (.string a), .p (.string b), .p (.string bh), .p (.int .u64 p), .p (.int .u16 cut)] [] (.p (.bool true)) [] := by
  obtain ⟨p, rfl, _⟩ := wf_nat rfl hp
  obtain ⟨cut, rfl, hcut⟩ := wf_nat rfl hc
  rw [txt_of a, txt_of b, txt_of bh]
  exact ok6 _ _ _ p cut (by simpa [IntKind.bits] using hcut) (by simpa using ha) (by simpa using hb) (by simpa using hbh)
end Go.Proofs.Ytbbafeocmchlnaa
