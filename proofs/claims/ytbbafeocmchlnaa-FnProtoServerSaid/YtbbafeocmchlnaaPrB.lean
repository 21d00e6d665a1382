/- Profiles: read out of bytes. -/
import Derived.Test.YtbbafeocmchlnaaPrA
import Derived.Test.YtbbafeocmchlnaaVer
set_option linter.unusedVariables false
set_option linter.unusedSimpArgs false
set_option maxRecDepth 100000
namespace Go.Proofs.Ytbbafeocmchlnaa
open Go Go.Den Go.Proofs

/-- A reader in a frame: a block of the result's ahead, the receiver's behind. -/
def rdFrame (n : Nat) (c x : Blk) (D : List UInt8) : List Blk := [c, .cells 1 (bts D), .cells 1 [.agg [.p (.slice none 0 0)]], .cells 2 [.agg [.sl (n + 1) 0 D.length D.length, .ptr (n + 1 + 1) 0 0 1]], x]
theorem rdFrame_s (h : List Blk) (c : Blk) (n : Nat) (k : List DV) (D : List UInt8) : RdSX (h.length + 4) (.cells n k) (h ++ rdFrame h.length c (.cells n k) D) (rdNew (h.length + 1) D) D [] := by
  refine ⟨?_, ?_, ?_, ?_⟩
  · have := (rdNew_s (h ++ [c]) D).push (x := [.cells n k])
    simpa [rdBs, rdFrame] using this
  · simp [rdFrame]
  · simp [Rd.own, rdNew, inSa]
  · simp [rdNew, inBlk]
theorem rdFrame_own {n i : Nat} {D : List UInt8} (h : i ≤ n) : ¬ (rdNew (n + 1) D).own i := by
  simp [Rd.own, rdNew, inSa]; omega
/-- What a frame with a reader leaves of what was there, and of its result's block. -/
theorem rdFrame_keep {h h' : List Blk} {c x : Blk} {D : List UInt8} {R' : Rd} (q : RdX (h.length + 4) (h ++ rdFrame h.length c x D) h' (rdNew (h.length + 1) D) R') : HPre h h' ∧ h'[h.length]? = some c ∧ R'.rb = h.length + 3 ∧ ∀ X, (h'.set h.length X)[h.length]? = some X := by
  refine ⟨q.pre (HPre.append _ _) (fun i hi => rdFrame_own (by omega)) (by omega), ?_, q.rb, ?_⟩
  · rw [q.old h.length (by simp [rdFrame]) (by omega) (rdFrame_own (Nat.le_refl _))]
    simp [rdFrame]
  · intro X
    have := q.len
    simp [rdFrame] at this
    rw [List.getElem?_set_self (by omega)]

def profDecs : List Dec := [dU, dU, dU, dB, dU, dB]
def profW (a b c d : Nat) (e f : Bool) : List UInt8 := uv a ++ (uv c ++ (uv b ++ (yn e ++ (uv d ++ (yn f ++ [])))))
theorem ex_prof (a b c d : Nat) (e f : Bool) (ha : a < B64) (hb : b < B64) (hc : c < B64) (hd : d < B64) : Ex (decs profDecs) (profW a b c d e f) [.int .u64 a, .int .u64 c, .int .u64 b, .bool e, .int .u64 d, .bool f] :=
  .cons (ex_dU a ha) (.cons (ex_dU c hc) (.cons (ex_dU b hb) (.cons (ex_dB e) (.cons (ex_dU d hd) (.cons (ex_dB f) .nil)))))
def profZ : DV := .agg [.p (.int .u64 0), .p (.int .u64 0), .p (.int .u64 0), .p (.int .u64 0), .p (.bool false), .p (.bool false), .p (.string ⟨#[]⟩)]
def profD (a b c d : Nat) (e f : Bool) (t : List UInt8) : DV := .agg [.p (.int .u64 a), .p (.int .u64 b), .p (.int .u64 c), .p (.int .u64 d), .p (.bool e), .p (.bool f), .p (.string (txt t))]

theorem ok24e {G : Nat → DV} (h : List Blk) (D : List UInt8) (rev : Nat) (hD : D.length < 140737488355328) (he : decs profDecs D = none) : Ok Try.prog G 24 [.p (.string (txt D)), .p (.int .u64 rev)] h (.tup [profZ, .p (.int .i64 0), .p (.bool false)]) h := by
  refine Ok_by Try.func24 c24_ok r24_ok 30 rfl ?_
  simp [c24, r24]
  refine FF_by (ok60 _ D) ?_
  simp [rdBs]
  refine FF_byR (ok61 (h ++ rdFrame h.length (.cells 7 [profZ]) _ D) (rdNew (h.length + 1) D) D [] (h.length + 4) rev hD (rdFrame_s h (.cells 7 [profZ]) 6 _ D)) ?_
  intro v h' ho
  rw [show decs [dU, dU, dU, dB, dU, dB] D = none from he] at ho
  obtain ⟨⟨x, rfl⟩, R', r', l', X, s, q⟩ := ho
  obtain ⟨hp, hc, hrb, hlt⟩ := rdFrame_keep q
  simp [hc, profZ, hlt]
  exact WkV.ofPure (HPre_set hp (Nat.le_refl _)) rfl

theorem ok24s {G : Nat → DV} (h : List Blk) (a b c d : Nat) (e f : Bool) (ha : a < B64) (hb : b < B64) (hc : c < B64) (hd : d < B64) (rest : List UInt8) (rev : Nat) (hr : rest.length < 100000000) :
    Ok Try.prog G 24 [.p (.string (txt (profW a b c d e f ++ rest))), .p (.int .u64 rev)] h (.tup [profD a b c d e f (profT a b c d e f), .p (.int .i64 rest.length), .p (.bool true)]) h := by
  have la := uv_length a ha
  have lb := uv_length b hb
  have lc := uv_length c hc
  have ld := uv_length d hd
  have hD : (profW a b c d e f ++ rest).length < 140737488355328 := by simp [profW, yn]; omega
  have hex := (ex_prof a b c d e f ha hb hc hd).out rest
  generalize profW a b c d e f ++ rest = D at hD hex
  refine Ok_by Try.func24 c24_ok r24_ok 30 rfl ?_
  simp [c24, r24]
  refine FF_by (ok60 _ D) ?_
  simp [rdBs]
  refine FF_byR (ok61 (h ++ rdFrame h.length (.cells 7 [profZ]) _ D) (rdNew (h.length + 1) D) D [] (h.length + 4) rev hD (rdFrame_s h (.cells 7 [profZ]) 6 _ D)) ?_
  intro v h' ho
  rw [show decs [dU, dU, dU, dB, dU, dB] D = some _ from hex] at ho
  obtain ⟨rfl, R', l', s, q⟩ := ho
  obtain ⟨hp, hc7, hrb, hlt⟩ := rdFrame_keep q
  have hx := s.x
  simp [hx]
  refine DF_by (ok62 h' (h.length + 4) a b c d e f ha hb hc hd hx) ?_
  simp
  refine DF_by (hrb ▸ ok63 h' R' rest l' s.s) ?_
  simp [hc7, profZ, hlt]
  exact WkV.ofPure (HPre_set hp (Nat.le_refl _)) rfl

theorem ok22 {G : Nat → DV} (h : List Blk) (a b c d : Nat) (e f : Bool) (t : List UInt8) : Ok Try.prog G 22 [profD a b c d e f t] h (.p (.bool (decide (t.length ≤ 2147483647)))) h := by
  refine Ok_by Try.func22 c22_ok r22_ok 6 rfl ?_
  simp [c22, r22, profD]
  refine CC_by (fun h1 => ?_) (fun h1 => ?_)
  · have h1 : ¬ t.length ≤ 2147483647 := by simp at h1; omega
    simp [h1]
  · have h1 : t.length ≤ 2147483647 := by simp at h1; omega
    simp [h1]
theorem ok23 {G : Nat → DV} (h : List Blk) (a b c d : Nat) (e f : Bool) (t : List UInt8) (ha : a < B64) (hb : b < B64) (hc : c < B64) (hd : d < B64) : Ok Try.prog G 23 [profD a b c d e f t] h (.p (.string (txt (profW a b c d e f)))) h := by
  have la := uv_length a ha
  have lb := uv_length b hb
  have lc := uv_length c hc
  have ld := uv_length d hd
  have le : (yn e).length = 1 := rfl
  have lf : (yn f).length = 1 := rfl
  refine Ok_by Try.func23 c23_ok r23_ok 25 rfl ?_
  simp [c23, r23, profD]
  refine DF_by (ok17 _ a ha) ?_
  simp
  refine DF_by (ok17 _ c hc) ?_
  simp
  refine ⟨by omega, ?_⟩
  refine DF_by (ok17 _ b hb) ?_
  simp
  refine ⟨by omega, ?_⟩
  refine DF_by (ok59 _ e) ?_
  simp
  refine ⟨by omega, ?_⟩
  refine DF_by (ok17 _ d hd) ?_
  simp
  refine ⟨by omega, ?_⟩
  refine DF_by (ok59 _ f) ?_
  simp
  refine ⟨by omega, ?_⟩
  simp [profW]
theorem profW_pos (a b c d : Nat) (e f : Bool) : 0 < (profW a b c d e f).length := by simp [profW, yn]; omega

theorem ok5 (a b c d : Nat) (e f : Bool) (t bh : List UInt8) (rev cut : Nat) (ha : a < B64) (hb : b < B64) (hc : c < B64) (hd : d < B64) (hcut : cut < 65536) (ht : t.length ≤ 9223372036854775807) (hbh : bh.length ≤ 140737488351232) :
    Ok Try.prog (fun _ => .any) 5 [profD a b c d e f t, .p (.int .u64 rev), .p (.string (txt bh)), .p (.int .u16 cut)] [] (.p (.bool true)) [] := by
  refine Ok_by Try.func5 c5_ok r5_ok 70 rfl ?_
  have la := uv_length a ha
  have lb := uv_length b hb
  have lc := uv_length c hc
  have ld := uv_length d hd
  have hW : (profW a b c d e f).length ≤ 42 := by simp [profW, yn]; omega
  have hWp := profW_pos a b c d e f
  have hm := Nat.mod_lt cut hWp
  have e1 : (cut : Int).tmod ((profW a b c d e f).length : Int) = ((cut % (profW a b c d e f).length : Nat) : Int) := by
    rw [Int.tmod_eq_emod_of_nonneg (by omega)]; simp
  generalize cut % (profW a b c d e f).length = M at hm e1
  have w16 : IntKind.i64.wrap (cut : Int) = cut := by simp [IntKind.wrap, IntKind.bits, IntKind.signed]; omega
  simp [c5, r5, profD]
  refine FF_by (ok22 _ a b c d e f t) ?_
  by_cases h1 : t.length ≤ 2147483647
  · by_cases h2 : bh.length ≤ 2147483647
    · have h2' : decide ((2147483647 : Int) < (bh.length : Int)) = false := by simp; omega
      simp [h1, h2']
      have hb1 : (bh.take (min bh.length 100)).length ≤ 100 := by simp
      generalize bh.take (min bh.length 100) = b1 at hb1
      refine FF_by (ok23 _ a b c d e f [] ha hb hc hd) ?_
      simp
      refine ⟨by omega, ?_⟩
      refine FF_by (ok24s _ a b c d e f ha hb hc hd b1 rev (by omega)) ?_
      simp [profD, w16, e1]
      refine ⟨fun h => by rw [h] at hWp; simp at hWp, by omega, ?_⟩
      have hcut2 : decs profDecs ((profW a b c d e f).take M) = none := (ex_prof a b c d e f ha hb hc hd).of_take hm
      refine FF_by (ok24e _ _ rev (by simp; omega) hcut2) ?_
      simp [profZ]
      refine FF_by (ok14 _) ?_
      simp
    · have h2' : decide ((2147483647 : Int) < (bh.length : Int)) = true := by simp; omega
      simp [h1, h2']
  · simp [h1]

theorem shaped_bool {d : DV} (s : Shaped .bool d) : ∃ b : Bool, d = .p (.bool b) := by
  cases s with
  | bool => exact ⟨_, rfl⟩
theorem shaped_str {d : DV} (s : Shaped .str d) : ∃ l : List UInt8, d = .p (.string (txt l)) ∧ l.length ≤ maxLen := by
  cases s with
  | @str s h => exact ⟨s.data.toList, by rw [← txt_of], by simpa using h⟩
def profSh : Sh := .st [(1, .int .u64), (1, .int .u64), (1, .int .u64), (1, .int .u64), (1, .bool), (1, .bool), (1, .str)]
theorem shaped_prof {d : DV} (s : Shaped profSh d) : ∃ a b c d' : Nat, ∃ e f : Bool, ∃ t : List UInt8, d = profD a b c d' e f t ∧ a < B64 ∧ b < B64 ∧ c < B64 ∧ d' < B64 ∧ t.length ≤ maxLen := by
  cases s with
  | st hl h hc =>
    rename_i ds
    match ds, hl, h with
    | [d1, d2, d3, d4, d5, d6, d7], _, h =>
      obtain ⟨a, h1, k1⟩ := shaped_u64 (h 0 (by simp) (by simp))
      obtain ⟨b, h2, k2⟩ := shaped_u64 (h 1 (by simp) (by simp))
      obtain ⟨c, h3, k3⟩ := shaped_u64 (h 2 (by simp) (by simp))
      obtain ⟨d', h4, k4⟩ := shaped_u64 (h 3 (by simp) (by simp))
      obtain ⟨e, h5⟩ := shaped_bool (h 4 (by simp) (by simp))
      obtain ⟨f, h6⟩ := shaped_bool (h 5 (by simp) (by simp))
      obtain ⟨t, h7, k7⟩ := shaped_str (h 6 (by simp) (by simp))
      simp only [List.getElem_cons_zero, List.getElem_cons_succ] at h1 h2 h3 h4 h5 h6 h7
      subst h1; subst h2; subst h3; subst h4; subst h5; subst h6; subst h7
      exact ⟨a, b, c, d', e, f, t, rfl, k1, k2, k3, k4, k7⟩
theorem wf_nat {k : IntKind} {p : Int} (hk : k.signed = false) (hp : (Lit.int k p).wf = true) : ∃ q : Nat, p = q ∧ q < 2 ^ k.bits := by
  have hp : k.min ≤ p ∧ p ≤ k.max := by simpa [Lit.wf] using hp
  cases k <;> simp [IntKind.signed, IntKind.min, IntKind.max, IntKind.bits] at hk hp ⊢ <;> exact ⟨p.toNat, by omega, by omega⟩
theorem protoProfile_walk (d : DV) (p : Int) (bh : ByteArray) (cut : Int) (sd : Shaped profSh d) (hp : (Lit.int IntKind.u64 p).wf = true) (hb : bh.size ≤ 140737488351232) (hc : (Lit.int IntKind.u16 cut).wf = true) :
    Ok Try.prog (fun _ => .any) 5 [d, .p (.int .u64 p), .p (.string bh), .p (.int .u16 cut)] [] (.p (.bool true)) [] := by
  obtain ⟨a, b, c, d', e, f, t, rfl, ha, hb', hc', hd, ht⟩ := shaped_prof sd
  obtain ⟨p, rfl, _⟩ := wf_nat rfl hp
  obtain ⟨cut, rfl, hcut⟩ := wf_nat rfl hc
  rw [txt_of bh]
  exact ok5 a b c d' e f t bh.data.toList p cut ha hb' hc' hd (by simpa [IntKind.bits] using hcut) (by simpa [maxLen_eq] using ht) (by simpa using hb)
end Go.Proofs.Ytbbafeocmchlnaa
