/- Settings (turned from another seat by mkpq.py) -/
import Derived.Test.YtdgnjngbheecnaaDoorQpB
set_option linter.unusedVariables false
set_option linter.unusedSimpArgs false
set_option maxRecDepth 100000
namespace Go.Proofs.YtdgnjngbheecnaaDoor
open Go Go.Den Go.Proofs

structure Sett where
  k : List UInt8
  kind : Int
  t : List UInt8
  n : Int
  imp : Bool
def setD (x : Sett) (c : Bool) : DV := .agg [.p (.string (txt x.k)), .p (.int .i64 x.kind), .p (.string (txt x.t)), .p (.int .i64 x.n), .p (.bool x.imp), .p (.bool c)]
def psets (l : List (Sett × Bool)) : List DV := l.map fun p => setD p.1 p.2
def sets (l : List Sett) : List DV := l.map fun p => setD p false
@[simp] theorem psets_length (l : List (Sett × Bool)) : (psets l).length = l.length := by simp [psets]
@[simp] theorem sets_length (l : List Sett) : (sets l).length = l.length := by simp [sets]
theorem psets_get {l : List (Sett × Bool)} {i : Nat} (h : i < l.length) : (psets l)[i]? = some (setD l[i].1 l[i].2) := by simp [psets, h]
theorem sets_get {l : List Sett} {i : Nat} (h : i < l.length) : (sets l)[i]? = some (setD l[i] false) := by simp [sets, h]
@[simp] theorem psets_getElem {l : List (Sett × Bool)} {i : Nat} (h : i < (psets l).length) : (psets l)[i] = setD (l[i]'(by simpa using h)).1 (l[i]'(by simpa using h)).2 := by simp [psets]
@[simp] theorem sets_getElem {l : List Sett} {i : Nat} (h : i < (sets l).length) : (sets l)[i] = setD (l[i]'(by simpa using h)) false := by simp [sets]
theorem sets_plain (l : List Sett) : plainL (sets l) := plainL.mapP fun x => rfl
theorem psets_plain (l : List (Sett × Bool)) : plainL (psets l) := plainL.mapP fun x => rfl
@[simp] theorem sets_WF {B : Nat → Prop} {sz : Nat} (l : List Sett) : WF B (.fz sz (sets l)) = True := eq_true (WF_plain (sets_plain l))
@[simp] theorem psets_WF {B : Nat → Prop} {sz : Nat} (l : List (Sett × Bool)) : WF B (.fz sz (psets l)) = True := eq_true (WF_plain (psets_plain l))
theorem sets_push (l : List Sett) (x : Sett) : sets (l ++ [x]) = sets l ++ [setD x false] := by simp [sets]

theorem i64_of {n : Int} (h : (Lit.int IntKind.i64 n).wf = true) : I64 n := by
  have h : IntKind.i64.min ≤ n ∧ n ≤ IntKind.i64.max := by simpa [Lit.wf] using h
  have h1 : IntKind.i64.min = -9223372036854775808 := rfl
  have h2 : IntKind.i64.max = 9223372036854775807 := rfl
  rw [h1, h2] at h
  exact h
theorem shaped_set {d : DV} (h : Shaped (.st [(1, .str), (1, .int .i64), (1, .str), (1, .int .i64), (1, .bool), (1, .bool)]) d) : ∃ (x : Sett) (c : Bool), d = setD x c ∧ I64 x.kind ∧ I64 x.n := by
  cases h with
  | @st _ ds hl h hc =>
    match ds, hl with
    | [a, b, c, e, f, g], _ =>
      have h0 := h 0 (by simp) (by simp)
      have h1 := h 1 (by simp) (by simp)
      have h2 := h 2 (by simp) (by simp)
      have h3 := h 3 (by simp) (by simp)
      have h4 := h 4 (by simp) (by simp)
      have h5 := h 5 (by simp) (by simp)
      cases h0 with
      | @str s hs => cases h1 with
        | @int _ k hk => cases h2 with
          | @str t ht => cases h3 with
            | @int _ n hn => cases h4 with
              | @bool p => cases h5 with
                | @bool q =>
                  refine ⟨⟨s.data.toList, k, t.data.toList, n, p⟩, q, ?_, i64_of hk, i64_of hn⟩
                  have e1 := txt_of s
                  have e2 := txt_of t
                  simp only [setD, ← e1, ← e2]
                  rfl
theorem shaped_sets {d : DV} (h : Shaped (.sl 6 (.st [(1, .str), (1, .int .i64), (1, .str), (1, .int .i64), (1, .bool), (1, .bool)])) d) : ∃ l : List (Sett × Bool), d = .fz 6 (psets l) ∧ l.length ≤ maxLen ∧ ∀ x, x ∈ l → I64 x.1.kind ∧ I64 x.1.n := by
  cases h with
  | @sl _ _ l hl h =>
    have : ∃ l' : List (Sett × Bool), l = psets l' ∧ ∀ x, x ∈ l' → I64 x.1.kind ∧ I64 x.1.n := by
      clear hl
      induction l with
      | nil => exact ⟨[], rfl, by simp⟩
      | cons d l ih =>
        obtain ⟨l', h1, h2⟩ := ih fun d hd => h d (by simp [hd])
        obtain ⟨x, c, rfl, h3⟩ := shaped_set (h d (by simp))
        exact ⟨(x, c) :: l', by simp [psets, h1], fun y hy => by
          rcases List.mem_cons.1 hy with rfl | hy
          · exact h3
          · exact h2 y hy⟩
    obtain ⟨l', rfl, h2⟩ := this
    exact ⟨l', rfl, by simpa using hl, h2⟩

def bstr (b : Bool) : List UInt8 := if b = true then [116, 114, 117, 101] else [102, 97, 108, 115, 101]
theorem bstr_length (b : Bool) : (bstr b).length ≤ 5 := by cases b <;> decide
theorem ok110 {G : Nat → DV} (h : List Blk) (b : Bool) : Ok Tryd.prog G 110 [.p (.bool b)] h (.p (.string (txt (bstr b)))) h := by
  refine Ok_by Tryd.func110 c110_ok r110_ok 3 rfl ?_
  cases b
  · simp [c110, r110]; exact .refl
  · simp [c110, r110]; exact .refl

theorem ok56 {G : Nat → DV} (h : List Blk) (n0 : Int) (hn0 : I64 n0) : Ok Tryd.prog G 56 [.p (.int .i64 n0)] h (.p (.string (txt (decI n0)))) h := by
  refine Ok_by Tryd.func56 c56_ok r56_ok 28 rfl ?_
  have E : ∀ n : Nat, n < 18446744073709551616 → (n : Int).tmod 10 = (n : Int) % 10 ∧ (n : Int).tdiv 10 = (n : Int) / 10 ∧ IntKind.u64.wrap ((n : Int) / 10) = (n : Int) / 10 ∧ IntKind.u64.wrap (48 + (n : Int) % 10) = 48 + (n : Int) % 10 ∧ IntKind.i32.wrap (48 + (n : Int) % 10) = 48 + (n : Int) % 10 := by
    intro n hn
    refine ⟨Int.tmod_eq_emod_of_nonneg (by omega), Int.tdiv_eq_ediv_of_nonneg (by omega), ?_, ?_, ?_⟩ <;> (simp [IntKind.wrap, IntKind.bits, IntKind.signed]; omega)
  have hN : n0.natAbs < 18446744073709551616 := by have := hn0.1; have := hn0.2; omega
  have hdl := dig_length n0.natAbs hN
  simp [c56, r56]
  refine CC_by (fun hz => ?_) (fun hz => ?_)
  · have hz : n0 = 0 := by simpa using hz
    subst hz
    simp
    have : decI 0 = [48] := by simp [decI]; rw [dig_lt (by decide)]; rfl
    rw [this]
    exact .refl
  · have hz : n0 ≠ 0 := by simpa using hz
    have h20 : n0.natAbs < 10 ^ 20 := by
      have : (18446744073709551616 : Nat) < 10 ^ 20 := by decide
      omega
    rcases Decidable.em (n0 < 0) with hs | hs
    all_goals
      first
        | simp [hz, hs, (neg64 hn0 hs).1]
        | simp [hz, hs, pos64 hn0 hs]
      refine VV_fam (fun x : Nat × List UInt8 => ⟨fr 29 [(0, .p (.int .i64 n0)), (3, .p (.string (txt x.2))), (4, .p (.int .u64 x.1))], h⟩)
        (fun x => x.1 < 18446744073709551616 ∧ ((x.2 = [] ∧ x.1 = n0.natAbs) ∨ (x.2 ≠ [] ∧ dig n0.natAbs = (if x.1 = 0 then [] else dig x.1) ++ x.2)) ∧ x.2.length ≤ 20 ∧ x.1 < 10 ^ (20 - x.2.length)) (fun x => x.1) (n0.natAbs, [])
        ⟨hN, .inl ⟨rfl, rfl⟩, by simp, h20⟩ (Wk.fits (by simp [hz, hs])) ?_
      rintro ⟨n, ds⟩ ⟨hn', hd, hlen, hlt⟩ B hb he hr
      simp only at hn' hd hlen hlt
      obtain ⟨e1, e2, e3, e4, e5⟩ := E n hn'
      simp
      refine CC_by (fun h1 => ?_) (fun h1 => ?_)
      · have h0 : 0 < n := by simpa using h1
        have hls : ds.length < 20 := by
          rcases Nat.lt_or_ge ds.length 20 with h1 | h1
          · exact h1
          · rw [show 20 - ds.length = 0 by omega] at hlt
            omega
        have hlt2 : n / 10 < 10 ^ (20 - (ds.length + 1)) := by
          have : 10 ^ (20 - ds.length) = 10 ^ (20 - (ds.length + 1)) * 10 := by rw [← Nat.pow_succ]; congr 1; omega
          omega
        have hd2 : dig n0.natAbs = (if n / 10 = 0 then [] else dig (n / 10)) ++ dg n :: ds := by
          rcases hd with ⟨rfl, rfl⟩ | ⟨_, hd⟩
          · exact dig_next _
          · rw [if_neg (by omega), dig_next n] at hd
            rw [hd]; simp
        simp [e1, e2, e3, e4, e5, utf8_digit]
        refine ⟨by omega, hb _ (n / 10, dg n :: ds) (Wk.fits (by simp)) ⟨by simp only; omega, .inr ⟨by simp, hd2⟩, by simp; omega, by simpa using hlt2⟩ (by simp only; omega)⟩
      · have h0 : n = 0 := by simp at h1; omega
        subst h0
        have hfin : ds = dig n0.natAbs := by
          rcases hd with ⟨_, h⟩ | ⟨_, h⟩
          · omega
          · simpa using h.symm
        simp
        refine he _ _ ?_
        simp [hs, hfin, decI]
        try omega

/-- A setting's value as a text. -/
def sText (x : Sett) : List UInt8 := if x.kind = 1 then decI x.n else if x.kind = 2 then bstr (x.n == 1) else x.t
theorem sText_length (x : Sett) (hn : I64 x.n) (ht : x.t.length ≤ 5000) : (sText x).length ≤ 5000 := by
  have := decI_length x.n hn
  have := bstr_length (x.n == 1)
  unfold sText; split
  · omega
  · split <;> omega
theorem ok41 {G : Nat → DV} (h : List Blk) (x : Sett) (c : Bool) (hn : I64 x.n) : Ok Tryd.prog G 41 [setD x c] h (.p (.string (txt (sText x)))) h := by
  refine Ok_by Tryd.func41 c41_ok r41_ok 16 rfl ?_
  simp [c41, r41, setD]
  refine CC_by (fun h1 => ?_) (fun h1 => ?_)
  · have h1 : x.kind = 1 := by simpa using h1
    simp [setD]
    refine FF_by (ok56 _ x.n hn) ?_
    simp [sText, h1]
  · have h1 : x.kind ≠ 1 := by simpa using h1
    simp
    refine CC_by (fun h2 => ?_) (fun h2 => ?_)
    · have h2 : x.kind = 2 := by simpa using h2
      simp [setD]
      refine CC_by (fun h3 => ?_) (fun h3 => ?_)
      · have h3 : x.n = 1 := by simpa using h3
        simp [sText, h1, h2, h3, bstr]
        exact WkV.ofPure (HPre.append _ _) rfl
      · have h3 : x.n ≠ 1 := by simpa using h3
        simp [sText, h1, h2, h3, bstr]
        exact WkV.ofPure (HPre.append _ _) rfl
    · have h2 : x.kind ≠ 2 := by simpa using h2
      simp [sText, h1, h2]

/-- A setting's value in the package. -/
def sVal (x : Sett) : DV := if x.kind = 0 then .iface 9 (.p (.string (txt x.t))) else if x.kind = 1 then .iface 3 (.p (.int .i64 x.n)) else .iface 4 (.p (.bool (x.n == 1)))
theorem ok98 {G : Nat → DV} (h : List Blk) (x : Sett) (hn : I64 x.n) (hk : 0 ≤ x.kind ∧ x.kind ≤ 2) : Ok Tryd.prog G 98 [sVal x] h (.p (.string (txt (sText x)))) h := by
  refine Ok_by Tryd.func98 c98_ok r98_ok 20 rfl ?_
  rcases (by omega : x.kind = 0 ∨ x.kind = 1 ∨ x.kind = 2) with h1 | h1 | h1
  · simp [c98, r98, sVal, h1, sText]
  · simp [c98, r98, sVal, h1, sText]
    refine FF_by (ok63 _ x.n hn) ?_
    simp
  · simp [c98, r98, sVal, h1, sText]
    refine FF_by (ok110 _ (x.n == 1)) ?_
    simp

end Go.Proofs.YtdgnjngbheecnaaDoor
