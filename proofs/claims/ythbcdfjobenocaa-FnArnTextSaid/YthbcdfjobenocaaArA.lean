/- ARNs: contracts of what reads them. -/
import Derived.Test.YthbcdfjobenocaaCod
set_option linter.unusedVariables false
set_option linter.unusedSimpArgs false
set_option maxRecDepth 100000
namespace Go.Proofs.Ythbcdfjobenocaa
open Go Go.Den Go.Proofs

/-- A text of these bytes. -/
def S (l : List UInt8) : ByteArray := ⟨l.toArray⟩
@[simp] theorem S_size (l : List UInt8) : (S l).size = l.length := by simp [S]
theorem S_inj {a b : List UInt8} : S a = S b ↔ a = b := by simp [S]
@[simp] theorem S_eq (a b : List UInt8) : (S a = S b) = (a = b) := propext S_inj
theorem S_of (s : ByteArray) : s = S s.data.toList := by cases s; simp [S]
@[simp] theorem S_eq_mk (a : List UInt8) (x : Array UInt8) : (S a = ByteArray.mk x) = (a = x.toList) := by
  simp only [S, eq_iff_iff]
  constructor
  · intro h
    have := congrArg (fun s : ByteArray => s.data.toList) h
    simpa using this
  · rintro rfl; simp
@[simp] theorem S_extract (l : List UInt8) (a b : Nat) : (S l).extract a b = S ((l.take b).drop a) := by
  have h : ∀ {x y : ByteArray}, x.data.toList = y.data.toList → x = y := fun {x y} h => by cases x; cases y; simp at h; rw [h]
  apply h
  simp [S, List.extract_eq_take_drop, List.drop_take]
@[simp] theorem S_append (a b : List UInt8) : S a ++ S b = S (a ++ b) := by
  have h : ∀ {x y : ByteArray}, x.data.toList = y.data.toList → x = y := fun {x y} h => by cases x; cases y; simp at h; rw [h]
  apply h
  simp [S]
theorem mk_S (x : Array UInt8) : ByteArray.mk x = S x.toList := by simp [S]

def idxOf (c : UInt8) : List UInt8 → Option Nat
  | [] => none
  | x :: l => if x = c then some 0 else (idxOf c l).map (· + 1)
/-- The parts between colons. -/
def splitC : List UInt8 → List (List UInt8)
  | [] => [[]]
  | c :: l => if c = 58 then [] :: splitC l else match splitC l with
    | h :: t => (c :: h) :: t
    | [] => [[c]]

theorem S_nil : S [] = ⟨#[]⟩ := rfl
@[simp] theorem mk_append_S (x : Array UInt8) (b : List UInt8) : ByteArray.mk x ++ S b = S (x.toList ++ b) := by rw [mk_S, S_append]
@[simp] theorem S_append_mk (a : List UInt8) (x : Array UInt8) : S a ++ ByteArray.mk x = S (a ++ x.toList) := by rw [mk_S, S_append]
@[simp] theorem S_data (l : List UInt8) : (S l).data = l.toArray := rfl

theorem idxOf_none : ∀ {l : List UInt8}, idxOf 58 l = none → splitC l = [l]
  | [], _ => rfl
  | x :: l, h => by
    simp only [idxOf] at h
    split at h
    · cases h
    · rename_i hx
      simp only [Option.map_eq_none_iff] at h
      simp [splitC, hx, idxOf_none h]
theorem idxOf_some : ∀ {l : List UInt8} {i : Nat}, idxOf 58 l = some i → i < l.length ∧ splitC l = l.take i :: splitC (l.drop (i + 1))
  | [], i, h => by cases h
  | x :: l, i, h => by
    simp only [idxOf] at h
    split at h
    · rename_i hx
      cases h
      simp [splitC, hx]
    · rename_i hx
      obtain ⟨j, hj, rfl⟩ := Option.map_eq_some_iff.1 h
      obtain ⟨h1, h2⟩ := idxOf_some hj
      refine ⟨by simpa using h1, ?_⟩
      simp [splitC, hx, h2]
theorem splitC_ne : ∀ l : List UInt8, splitC l ≠ []
  | [] => by simp [splitC]
  | x :: l => by
    simp only [splitC]
    split
    · simp
    · split <;> simp
theorem splitC_colon : ∀ l : List UInt8, splitC (l ++ [58]) = splitC l ++ [[]]
  | [] => by simp [splitC]
  | x :: l => by
    have ih := splitC_colon l
    simp only [List.cons_append, splitC, ih]
    split
    · simp
    · cases hs : splitC l with
      | nil => exact absurd hs (splitC_ne l)
      | cons a t => simp
theorem splitC_snoc {c : UInt8} (hc : c ≠ 58) : ∀ (l : List UInt8) (init : List (List UInt8)) (last : List UInt8), splitC l = init ++ [last] → splitC (l ++ [c]) = init ++ [last ++ [c]]
  | [], init, last, h => by
    cases init with
    | nil =>
      simp [splitC] at h
      subst h
      simp [splitC, hc]
    | cons i0 init => simp [splitC] at h
  | x :: l, init, last, h => by
    simp only [splitC] at h
    split at h
    · rename_i hx
      cases init with
      | nil => simp at h; exact absurd h.2 (splitC_ne l)
      | cons i0 init =>
        simp only [List.cons_append, List.cons.injEq] at h
        obtain ⟨rfl, h⟩ := h
        simp [splitC, hx, splitC_snoc hc l init last h]
    · rename_i hx
      cases hs : splitC l with
      | nil => exact absurd hs (splitC_ne l)
      | cons a t =>
        rw [hs] at h
        simp only at h
        cases init with
        | nil =>
          simp only [List.nil_append, List.cons.injEq] at h
          obtain ⟨rfl, rfl⟩ := h
          have := splitC_snoc hc l [] a (by simpa using hs)
          simp [splitC, hx, this]
        | cons i0 init =>
          simp only [List.cons_append, List.cons.injEq] at h
          obtain ⟨rfl, h⟩ := h
          have := splitC_snoc hc l (a :: init) last (by rw [hs, h]; simp)
          simp [splitC, hx, this]
theorem splitC_part : ∀ (l p : List UInt8), p ∈ splitC l → p.length ≤ l.length
  | [], p, h => by simp [splitC] at h; simp [h]
  | x :: l, p, h => by
    have ih := splitC_part l
    simp only [splitC] at h
    split at h
    · rcases List.mem_cons.1 h with rfl | h
      · simp
      · have := ih p h; simp; omega
    · split at h
      · rename_i a t hs
        rw [hs] at ih
        rcases List.mem_cons.1 h with rfl | h
        · have := ih a (by simp); simp; omega
        · have := ih p (by simp [h]); simp; omega
      · simp at h; simp [h]
theorem splitC_length : ∀ l : List UInt8, (splitC l).length ≤ l.length + 1
  | [] => by simp [splitC]
  | x :: l => by
    have ih := splitC_length l
    simp only [splitC]
    split
    · simp; omega
    · split
      · rename_i h t hs
        rw [hs] at ih
        simp at ih ⊢
        omega
      · simp

theorem ok62 {G : Nat → DV} (h : List Blk) (l : List UInt8) (hl : l.length ≤ 1000000) : Ok Try.prog G 62 [.p (.string (S l)), .p (.string ⟨#[58]⟩)] h (.p (.int .i64 (match idxOf 58 l with | some i => (i : Int) | none => -1))) h := by
  refine Ok_by Try.func62 c62_ok r62_ok 23 rfl ?_
  simp [c62, r62]
  refine VV_fam (fun i : Nat => ⟨fr 25 [(0, .p (.string (S l))), (1, .p (.string ⟨#[58]⟩)), (5, .p (.int .i64 i))], h⟩)
    (fun i => i ≤ l.length ∧ (match idxOf 58 l with | some i => (i : Int) | none => -1) = match idxOf 58 (l.drop i) with | some j => ((i + j : Nat) : Int) | none => -1) (l.length - ·) 0 (by simp) (Wk.fits (by simp)) ?_
  intro i hi B hb he hr
  obtain ⟨hi, hall⟩ := hi
  rw [hall] at he hr
  rcases Nat.lt_or_ge i l.length with hi' | hi'
  · have hadd : IntKind.i64.wrap ((i : Int) + 1) = ((i + 1 : Nat) : Int) := wrap_succ hi' (by omega)
    have hd : l.drop i = l[i] :: l.drop (i + 1) := List.drop_eq_getElem_cons hi'
    have e1 : i + 1 ≤ l.length := hi'
    have e2 : (l.take (i + 1)).drop i = [l[i]] := by rw [List.take_succ_eq_append_getElem hi', List.drop_append_of_le_length (by simp; omega)]; simp
    simp [hadd, e1, e2]
    refine CC_by (fun h3 => ?_) (fun h3 => ?_)
    · have hc : l[i] = 58 := by simpa using h3
      have hidx : idxOf 58 (l.drop i) = some 0 := by rw [hd]; simp [idxOf, hc]
      simp
      refine hr _ ?_
      simp [hidx]
    · have hc : ¬ l[i] = 58 := by simpa using h3
      simp [hadd]
      refine hb _ (i + 1) (Wk.fits (by simp)) ⟨hi', ?_⟩ (by omega)
      rw [hall, hd]
      simp only [idxOf, if_neg hc]
      cases idxOf 58 (l.drop (i + 1)) with
      | none => rfl
      | some j => simp only [Option.map_some]; congr 1; omega
  · obtain rfl : i = l.length := by omega
    have hadd : IntKind.i64.wrap ((l.length : Int) + 1) = ((l.length + 1 : Nat) : Int) := wrap_succ (n := 10000000) (by omega) (by omega)
    have e9 : ¬ l.length + 1 ≤ l.length := by omega
    simp [hadd, e9]
    refine he _ _ ?_
    simp [idxOf]

theorem ok52 {G : Nat → DV} (h : List Blk) (l : List UInt8) (hl : l.length ≤ 1000) : Ok Try.prog G 52 [.p (.string (S l)), .p (.string ⟨#[58]⟩)] h (.fz 1 (strs ((splitC l).map S))) h := by
  refine Ok_by Try.func52 c52_ok r52_ok 56 rfl ?_
  simp [c52, r52]
  refine VV_fam (fun x : List UInt8 × DV × List Blk => ⟨fr 58 [(0, .p (.string (S x.1))), (1, .p (.string ⟨#[58]⟩)), (5, x.2.1)], x.2.2⟩)
    (fun x => x.1.length ≤ l.length ∧ ∃ pre, splitC l = pre ++ splitC x.1 ∧ Own h 1 x.2.2 x.2.1 (strs (pre.map S))) (fun x => x.1.length) (l, .p (.slice none 0 0), h) ⟨by simp, [], by simp, by simpa using Own.nil⟩ (Wk.fits (by simp)) ?_
  rintro ⟨r, d, h'⟩ ⟨hr0, pre, hpre, ho⟩ B hb he hr
  simp only at hr0 hpre ho
  have hplen := splitC_length l
  rw [hpre] at hplen
  simp at hplen
  simp
  refine FF_by (ok62 _ r (by omega)) ?_
  cases hi : idxOf 58 r with
  | none =>
    have h1 := idxOf_none hi
    simp
    refine AA_lit1 ho (by simp; omega) ?_
    intro d2 h2 ho2 _ _
    simp
    refine hr _ ?_
    simp
    rw [hpre, h1]
    have : strs ((pre ++ [r]).map S) = strs (pre.map S) ++ [.p (.string (S r))] := by simp [strs]
    rw [this]
    exact ho2.wk (by rw [← this]; exact strs_plain)
  | some i =>
    obtain ⟨h1, h2⟩ := idxOf_some hi
    have hadd : IntKind.i64.wrap ((i : Int) + 1) = ((i + 1 : Nat) : Int) := wrap_succ h1 (by omega)
    have hi1 : i ≤ r.length := by omega
    have hi2 : i + 1 ≤ r.length := h1
    have hneg : ¬ ((i : Int) < 0) := by omega
    simp [hneg, hi1]
    refine AA_lit1 ho (by simp; omega) ?_
    intro d2 h2' ho2 _ _
    simp [hadd, hi2, h1]
    exact hb _ (r.drop (i + 1), d2, h2') (Wk.fits (by simp)) ⟨by simp; omega, pre ++ [r.take i], by rw [hpre, h2]; simp, by simpa [strs] using ho2⟩ (by simp; omega)

/-- An ARN's fields. -/
def arnD (a b c d e : List UInt8) : DV := .agg [.p (.string (S a)), .p (.string (S b)), .p (.string (S c)), .p (.string (S d)), .p (.string (S e))]
def errFmt : DV := .iface 65 (.p (.string ⟨#[105, 110, 118, 97, 108, 105, 100, 32, 65, 82, 78, 32, 102, 111, 114, 109, 97, 116, 44, 32, 109, 117, 115, 116, 32, 98, 101, 32, 39, 97, 114, 110, 58, 60, 112, 97, 114, 116, 105, 116, 105, 111, 110, 62, 58, 60, 115, 101, 114, 118, 105, 99, 101, 62, 58, 60, 114, 101, 103, 105, 111, 110, 62, 58, 60, 97, 99, 99, 111, 117, 110, 116, 73, 68, 62, 58, 60, 114, 101, 115, 111, 117, 114, 99, 101, 62, 39]⟩))
def errPre : DV := .iface 65 (.p (.string ⟨#[105, 110, 118, 97, 108, 105, 100, 32, 65, 82, 78, 32, 102, 111, 114, 109, 97, 116, 44, 32, 109, 117, 115, 116, 32, 115, 116, 97, 114, 116, 32, 119, 105, 116, 104, 32, 39, 97, 114, 110, 58, 39]⟩))

theorem ok53 {G : Nat → DV} (h : List Blk) (a b c d e : List UInt8) : Ok Try.prog G 53 [.p (.string (S a)), .p (.string (S b)), .p (.string (S c)), .p (.string (S d)), .p (.string (S e))] h (arnD a b c d e) h := by
  refine Ok_by Try.func53 c53_ok r53_ok 12 rfl ?_
  simp [c53, r53, arnD]
  refine WkV.junk ?_
  simp
theorem ok40 {G : Nat → DV} (h : List Blk) (a b c d e : List UInt8) : Ok Try.prog G 40 [arnD a b c d e] h (arnD a b c d e) h := by
  refine Ok_by Try.func40 c40_ok r40_ok 13 rfl ?_
  simp [c40, r40, arnD]
  refine WkV.junk ?_
  simp
theorem ok42 {G : Nat → DV} (h : List Blk) (a b c d e : List UInt8) : Ok Try.prog G 42 [arnD a b c d e] h (arnD a b c d e) h := by
  refine Ok_by Try.func42 c42_ok r42_ok 13 rfl ?_
  simp [c42, r42, arnD]
  refine FF_by (ok53 _ a b c d e) ?_
  simp [arnD]
  refine WkV.junk ?_
  simp
def arnT (a b c d e : List UInt8) : List UInt8 := [97, 114, 110, 58] ++ a ++ [58] ++ b ++ [58] ++ c ++ [58] ++ d ++ [58] ++ e
theorem ok43 {G : Nat → DV} (h : List Blk) (a b c d e : List UInt8) (hl : a.length + b.length + c.length + d.length + e.length ≤ 1000000) : Ok Try.prog G 43 [arnD a b c d e] h (.p (.string (S (arnT a b c d e)))) h := by
  refine Ok_by Try.func43 c43_ok r43_ok 21 rfl ?_
  simp [c43, r43, arnD]
  refine ⟨by omega, by omega, by omega, by omega, by omega, by omega, by omega, by omega, by omega, ?_⟩
  simp [arnT]
theorem ok23 {G : Nat → DV} (h : List Blk) (a b c d e : List UInt8) (hl : a.length + b.length + c.length + d.length + e.length ≤ 1000000) : Ok Try.prog G 23 [arnD a b c d e] h (.p (.string (S (arnT a b c d e)))) h := by
  refine Ok_by Try.func23 c23_ok r23_ok 21 rfl ?_
  simp [c23, r23, arnD]
  refine ⟨by omega, by omega, by omega, by omega, by omega, by omega, by omega, by omega, by omega, ?_⟩
  simp [arnT]

theorem ok39_fmt {G : Nat → DV} (h : List Blk) (l : List UInt8) (hl : l.length ≤ 1000) (hP : (splitC l).length ≠ 6) : Ok Try.prog G 39 [.p (.string (S l))] h (.tup [arnD [] [] [] [] [], errFmt]) h := by
  refine Ok_by Try.func39 c39_ok r39_ok 33 rfl ?_
  simp [c39, r39]
  refine FF_by (ok52 _ l hl) ?_
  have : (((splitC l).length : Int) != 6) = true := by simp; omega
  simp [this]
  refine WkV.junk ?_
  simp [errFmt, arnD]
theorem ok39_pre {G : Nat → DV} (h : List Blk) (l : List UInt8) (hl : l.length ≤ 1000) (x a b c d e : List UInt8) (hP : splitC l = [x, a, b, c, d, e]) (hx : x ≠ [97, 114, 110]) : Ok Try.prog G 39 [.p (.string (S l))] h (.tup [arnD [] [] [] [] [], errPre]) h := by
  refine Ok_by Try.func39 c39_ok r39_ok 33 rfl ?_
  simp [c39, r39]
  refine FF_by (ok52 _ l hl) ?_
  simp [hP, strs, hx]
  refine WkV.junk ?_
  simp [errPre, arnD]
theorem ok39_ok {G : Nat → DV} (h : List Blk) (l : List UInt8) (hl : l.length ≤ 1000) (a b c d e : List UInt8) (hP : splitC l = [[97, 114, 110], a, b, c, d, e]) : Ok Try.prog G 39 [.p (.string (S l))] h (.tup [arnD a b c d e, .p .nilIface]) h := by
  refine Ok_by Try.func39 c39_ok r39_ok 33 rfl ?_
  simp [c39, r39]
  refine FF_by (ok52 _ l hl) ?_
  simp [hP, strs]
  refine DF_by (ok53 _ a b c d e) ?_
  simp [arnD]
  refine WkV.junk ?_
  simp

theorem cmp65 : cmpOf Try.prog 65 = some .str := by kernel_rfl
theorem ok18_fmt {G : Nat → DV} (h : List Blk) (l : List UInt8) (hl : l.length ≤ 1000) (hP : (splitC l).length ≠ 6) : Ok Try.prog G 18 [.p (.string (S l))] h (.tup [arnD [] [] [] [] [], .p (.bool false), .p (.bool false)]) h := by
  refine Ok_by Try.func18 c18_ok r18_ok 18 rfl ?_
  simp [c18, r18]
  refine FF_by (ok39_fmt _ l hl hP) ?_
  simp [arnD, errFmt, cmp65]
  refine DF_by (ok40 _ [] [] [] [] []) ?_
  simp [arnD]
  refine WkV.junk ?_
  simp
theorem ok18_pre {G : Nat → DV} (h : List Blk) (l : List UInt8) (hl : l.length ≤ 1000) (x a b c d e : List UInt8) (hP : splitC l = [x, a, b, c, d, e]) (hx : x ≠ [97, 114, 110]) : Ok Try.prog G 18 [.p (.string (S l))] h (.tup [arnD [] [] [] [] [], .p (.bool false), .p (.bool true)]) h := by
  refine Ok_by Try.func18 c18_ok r18_ok 18 rfl ?_
  simp [c18, r18]
  refine FF_by (ok39_pre _ l hl x a b c d e hP hx) ?_
  simp [arnD, errPre, cmp65]
  refine DF_by (ok40 _ [] [] [] [] []) ?_
  simp [arnD]
  refine WkV.junk ?_
  simp
theorem ok18_ok {G : Nat → DV} (h : List Blk) (l : List UInt8) (hl : l.length ≤ 1000) (a b c d e : List UInt8) (hP : splitC l = [[97, 114, 110], a, b, c, d, e]) : Ok Try.prog G 18 [.p (.string (S l))] h (.tup [arnD a b c d e, .p (.bool true), .p (.bool false)]) h := by
  refine Ok_by Try.func18 c18_ok r18_ok 18 rfl ?_
  simp [c18, r18]
  refine FF_by (ok39_ok _ l hl a b c d e hP) ?_
  simp [arnD, cmp65]
  refine DF_by (ok40 _ a b c d e) ?_
  simp [arnD]
  refine WkV.junk ?_
  simp

theorem wrap_pred (n : Nat) (hn : n ≤ 1000000) : IntKind.i64.wrap (((n + 1 : Nat) : Int) - 1) = (n : Int) := by
  simp [IntKind.wrap, IntKind.bits, IntKind.signed]; omega

theorem ok19 {G : Nat → DV} (h : List Blk) (l : List UInt8) (hl : l.length ≤ 1000) : Ok Try.prog G 19 [.p (.string (S l))] h (.fz 1 (strs ((splitC l).map S))) h := by
  refine Ok_by Try.func19 c19_ok r19_ok 32 rfl ?_
  simp [c19, r19]
  refine VV_fam (fun x : Nat × DV × List Blk => ⟨fr 33 [(0, .p (.string (S l))), (3, x.2.1), (7, .p (.int .i64 l.length)), (8, .p (.int .i64 x.1))], x.2.2⟩)
    (fun x => x.1 ≤ l.length ∧ Own h 1 x.2.2 x.2.1 (strs ((splitC (l.take x.1)).map S))) (fun x => l.length - x.1) (0, .sl h.length 0 1 1, h ++ [.cells 1 [.p (.string ⟨#[]⟩)]])
    ⟨by simp, HPre.append _ _, .inr ⟨h.length, by simp [splitC], Nat.le_refl _, by simp [splitC, strs, S]⟩⟩ (Wk.fits (by simp)) ?_
  rintro ⟨i, d, h'⟩ ⟨hi, ho⟩ B hb he hr
  simp only at hi ho
  simp
  refine CC_by (fun h2 => ?_) (fun h2 => ?_)
  · have hi' : i < l.length := by simpa using h2
    have hadd : IntKind.i64.wrap ((i : Int) + 1) = ((i + 1 : Nat) : Int) := wrap_succ hi' (by omega)
    have hnext := List.take_succ_eq_append_getElem hi'
    have hplen := splitC_length (l.take i)
    simp at hplen
    simp [hi', byteD]
    refine CC_by (fun h3 => ?_) (fun h3 => ?_)
    · have hc : l[i] = 58 := by
        simp at h3
        exact UInt8.toNat_inj.1 (by simpa using (by omega : l[i].toNat = 58))
      simp
      refine AA_lit1 ho (by simp; omega) ?_
      intro d2 h2 ho2 _ _
      simp [hadd]
      refine hb _ (i + 1, d2, h2) (Wk.fits (by simp)) ⟨hi', ?_⟩ (by simp; omega)
      rw [hnext, hc, splitC_colon, List.map_append]
      simpa [strs, S] using ho2
    · have hc : l[i] ≠ 58 := fun hc => by rw [hc] at h3; simp at h3
      obtain ⟨init, last, hP⟩ : ∃ init last, splitC (l.take i) = init ++ [last] := ⟨_, _, (List.dropLast_concat_getLast (splitC_ne _)).symm⟩
      rw [hP] at ho hplen
      simp at hplen
      rcases ho with ⟨hp, ⟨_, hO⟩ | ⟨b, rfl, hbl, hbc⟩⟩
      · simp [strs] at hO
      have hw : IntKind.i64.wrap (((init.length + 1 : Nat) : Int) - 1) = (init.length : Int) := wrap_pred _ (by omega)
      simp at hw
      have e2 : (l.take (i + 1)).drop i = [l[i]] := by rw [hnext, List.drop_append_of_le_length (by simp; omega)]; simp
      have e1 : i + 1 ≤ l.length := hi'
      have e3 : (strs (init.map S ++ [S last])).set init.length (DV.p (Value.string (S (last ++ [l[i]])))) = strs ((init ++ [last ++ [l[i]]]).map S) := by simp [strs]
      have hll := splitC_part (l.take i) last (by rw [hP]; simp)
      simp at hll
      simp [hbc, hw, hadd, e1, e2, e3]
      refine ⟨by omega, ?_⟩
      refine hb _ (i + 1, .sl b 0 (init.length + 1) (init.length + 1), _) (Wk.fits (by simp)) ⟨hi', ?_⟩ (by simp; omega)
      have hblt : b < h'.length := (List.getElem?_eq_some_iff.1 hbc).1
      rw [hnext, splitC_snoc hc _ _ _ hP]
      exact ⟨HPre_set hp hbl, .inr ⟨b, by simp, hbl, by simp [hblt]⟩⟩
  · have : i = l.length := by simp at h2; omega
    subst this
    simp
    refine he _ _ ?_
    simp
    rw [List.take_length] at ho
    exact ho.wk strs_plain


theorem six {P : List (List UInt8)} (h : P.length = 6) : ∃ x a b c d e, P = [x, a, b, c, d, e] := by
  match P, h with
  | [x, a, b, c, d, e], _ => exact ⟨x, a, b, c, d, e, rfl⟩
/-- What comes ahead of the first colon. -/
theorem splitC_head : ∀ (p r : List UInt8), 58 ∉ p → splitC (p ++ 58 :: r) = p :: splitC r
  | [], r, _ => by simp [splitC]
  | x :: p, r, h => by
    have hx : x ≠ 58 := fun h' => h (by simp [h'])
    have ih := splitC_head p r (fun h' => h (by simp [h']))
    simp [splitC, hx, ih]
theorem splitC_first : ∀ (l x : List UInt8) (t : List (List UInt8)), splitC l = x :: t → x <+: l
  | [], x, t, h => by simp [splitC] at h; simp [← h.1]
  | c :: l, x, t, h => by
    simp only [splitC] at h
    split at h
    · simp only [List.cons.injEq] at h; rw [← h.1]; exact List.nil_prefix
    · cases hs : splitC l with
      | nil => exact absurd hs (splitC_ne l)
      | cons a t' =>
        rw [hs] at h
        simp only [List.cons.injEq] at h
        obtain ⟨rfl, _⟩ := h
        exact List.cons_prefix_cons.2 ⟨rfl, splitC_first l a t' hs⟩

theorem splitC_second : ∀ (l x y : List UInt8) (t : List (List UInt8)), splitC l = x :: y :: t → ∃ r, l = x ++ 58 :: r ∧ splitC r = y :: t
  | [], x, y, t, h => by simp [splitC] at h
  | c :: l, x, y, t, h => by
    simp only [splitC] at h
    split at h
    · rename_i hc
      simp only [List.cons.injEq] at h
      exact ⟨l, by rw [← h.1, hc]; rfl, h.2⟩
    · cases hs : splitC l with
      | nil => exact absurd hs (splitC_ne l)
      | cons a t' =>
        rw [hs] at h
        simp only [List.cons.injEq] at h
        obtain ⟨rfl, rfl⟩ := h
        obtain ⟨r, h1, h2⟩ := splitC_second l a y t hs
        exact ⟨r, by rw [h1]; rfl, h2⟩

theorem ok6 (s : ByteArray) (hs : s.size ≤ 140737488351232) : Ok Try.prog (fun _ => .any) 6 [.p (.string s)] [] (.p (.bool true)) [] := by
  refine Ok_by Try.func6 c6_ok r6_ok 98 rfl ?_
  obtain ⟨L, rfl⟩ : ∃ L, s = S L := ⟨_, S_of s⟩
  simp at hs
  simp [c6, r6]
  refine CC_by (fun h1 => by simp) (fun h1 => ?_)
  simp
  generalize hl : L.take (min L.length 60) = l
  have hl60 : l.length ≤ 60 := by rw [← hl]; simp
  have harn : splitC [97, 114, 110, 58, 97, 58, 98, 58, 99, 58, 100, 58, 101] = [[97, 114, 110], [97], [98], [99], [100], [101]] := by decide
  have hgood := fun h => ok18_ok (G := fun _ => .any) h _ (by decide) _ _ _ _ _ harn
  by_cases h6 : (splitC l).length = 6
  · obtain ⟨x, a, b, c, d, e, hP⟩ := six h6
    by_cases hx : x = [97, 114, 110]
    · subst hx
      refine FF_by (ok18_ok _ l (by omega) a b c d e hP) ?_
      simp [arnD]
      refine FF_by (hgood _) ?_
      simp [arnD]
      obtain ⟨r, hlr, _⟩ := splitC_second l _ _ _ hP
      have h4 : ¬ ((l.length : Int) < 4) := by rw [hlr]; simp; omega
      have h4' : 4 ≤ l.length := by omega
      have ht : l.take 4 = [97, 114, 110, 58] := by rw [hlr]; simp
      refine FF_by (ok19 _ l (by omega)) ?_
      simp [h4, h4', ht, hP, strs]
      omega
    · refine FF_by (ok18_pre _ l (by omega) x a b c d e hP hx) ?_
      simp [arnD]
      refine FF_by (hgood _) ?_
      simp [arnD]
      refine FF_by (ok19 _ l (by omega)) ?_
      have hno : ¬ l.take 4 = [97, 114, 110, 58] := by
        intro ht
        have hlr : l = [97, 114, 110] ++ 58 :: l.drop 4 := by
          have := List.take_append_drop 4 l
          rw [ht] at this
          rw [← this]; rfl
        rw [hlr, splitC_head _ _ (by decide)] at hP
        exact hx (by simpa using (List.cons.inj hP).1.symm)
      have hno' : l.length < 4 ∨ ¬ l.take 4 = [97, 114, 110, 58] := .inr hno
      cases h4 : decide ((l.length : Int) < 4) <;> cases h3 : decide ((3 : Int) ≤ l.length) <;> cases h7 : decide (l.take 3 = [97, 114, 110]) <;> simp [h4, h3, h7, hno, strs, hP] <;> simp at h4 h3 <;> omega
  · refine FF_by (ok18_fmt _ l (by omega) h6) ?_
    simp [arnD]
    refine FF_by (hgood _) ?_
    simp [arnD]
    refine FF_by (ok19 _ l (by omega)) ?_
    have h6' : (((splitC l).length : Int) != 6) = true := by simp; omega
    cases h4 : decide ((l.length : Int) < 4)
    · have g4 : (4 : Int) ≤ l.length := by simpa using h4
      cases h8 : decide (l.take 4 = [97, 114, 110, 58])
      · cases h3 : decide ((3 : Int) ≤ l.length) <;> cases h7 : decide (l.take 3 = [97, 114, 110]) <;> simp [h4, h3, h7, h8, h6', g4] <;> simp at h3 <;> omega
      · cases h9 : decide ((6 : Int) < (splitC l).length)
        · have h10 : decide (((splitC l).length : Int) < 6) = true := by simp at h9 ⊢; omega
          simp [h4, h8, h9, h10, g4]
        · simp [h4, h8, h9, g4]
    · cases h3 : decide ((3 : Int) ≤ l.length) <;> cases h7 : decide (l.take 3 = [97, 114, 110]) <;> simp [h4, h3, h7, h6'] <;> simp at h3 <;> omega

/-- The law's walk, as its row asks for it. -/
theorem arnRead_walk (s : ByteArray) (hs : s.size ≤ 140737488351232) : Ok Try.prog (fun _ => .any) 6 [.p (.string s)] [] (.p (.bool true)) [] := ok6 s hs

end Go.Proofs.Ythbcdfjobenocaa
