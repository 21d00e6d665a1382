/- Parameters (turned from another seat by mkpq.py) -/
import Derived.Test.YtdgnjngbheecnaaDoorQbA
set_option linter.unusedVariables false
set_option linter.unusedSimpArgs false
set_option maxRecDepth 100000
namespace Go.Proofs.YtdgnjngbheecnaaDoor
open Go Go.Den Go.Proofs



abbrev Par := List UInt8 × List UInt8
def parD (x : Par) : DV := .agg [.p (.string (txt x.1)), .p (.string (txt x.2))]
def pars (l : List Par) : List DV := l.map parD
@[simp] theorem pars_length (l : List Par) : (pars l).length = l.length := by simp [pars]
@[simp] theorem pars_getElem {l : List Par} {i : Nat} (h : i < (pars l).length) : (pars l)[i] = parD (l[i]'(by simpa using h)) := by simp [pars]
theorem pars_get {l : List Par} {i : Nat} (h : i < l.length) : (pars l)[i]? = some (parD l[i]) := by simp [pars, h]
theorem pars_plain (l : List Par) : plainL (pars l) := plainL.mapP fun x => rfl
@[simp] theorem pars_WF {B : Nat → Prop} {sz : Nat} (l : List Par) : WF B (.fz sz (pars l)) = True := eq_true (WF_plain (pars_plain l))
theorem pars_push (l : List Par) (x : Par) : pars (l ++ [x]) = pars l ++ [parD x] := by simp [pars]

theorem shaped_par {d : DV} (h : Shaped (.st [(1, .str), (1, .str)]) d) : ∃ x : Par, d = parD x ∧ x.1.length ≤ maxLen ∧ x.2.length ≤ maxLen := by
  cases h with
  | @st _ ds hl h hc =>
    match ds, hl with
    | [a, b], _ =>
      have h0 := h 0 (by simp) (by simp)
      have h1 := h 1 (by simp) (by simp)
      cases h0 with
      | @str s hs =>
        cases h1 with
        | @str t ht => 
          refine ⟨(s.data.toList, t.data.toList), ?_, by simpa using hs, by simpa using ht⟩
          have e1 := txt_of s
          have e2 := txt_of t
          simp only [parD, ← e1, ← e2]
          rfl
theorem shaped_pars {d : DV} (h : Shaped (.sl 2 (.st [(1, .str), (1, .str)])) d) : ∃ l : List Par, d = .fz 2 (pars l) ∧ l.length ≤ maxLen ∧ ∀ x, x ∈ l → x.1.length ≤ maxLen ∧ x.2.length ≤ maxLen := by
  cases h with
  | @sl _ _ l hl h =>
    have : ∃ l' : List Par, l = pars l' ∧ ∀ x, x ∈ l' → x.1.length ≤ maxLen ∧ x.2.length ≤ maxLen := by
      clear hl
      induction l with
      | nil => exact ⟨[], rfl, by simp⟩
      | cons d l ih =>
        obtain ⟨l', h1, h2⟩ := ih fun d hd => h d (by simp [hd])
        obtain ⟨x, rfl, h3⟩ := shaped_par (h d (by simp))
        exact ⟨x :: l', by simp [pars, h1], fun y hy => by
          rcases List.mem_cons.1 hy with rfl | hy
          · exact h3
          · exact h2 y hy⟩
    obtain ⟨l', rfl, h2⟩ := this
    exact ⟨l', rfl, by simpa using hl, h2⟩

/-! Sizes. -/
def fit2 (x : Par) : Bool := decide (x.1.length ≤ 2147483647) && decide (x.2.length ≤ 2147483647)
theorem ok48 {G : Nat → DV} (h : List Blk) (x : Par) : Ok Tryd.prog G 48 [parD x] h (.p (.bool (fit2 x))) h := by
  refine Ok_by Tryd.func48 c48_ok r48_ok 12 rfl ?_
  simp [c48, r48, parD]
  refine VV_fam (fun i : Nat => ⟨fr 13 [(0, parD x), (1, .ptr h.length 0 0 1), (5, parD x), (6, .p (.int .i64 i))], h ++ [.cells 2 [parD x]]⟩)
    (fun i => i ≤ 2 ∧ (1 ≤ i → x.1.length ≤ 2147483647) ∧ (2 ≤ i → x.2.length ≤ 2147483647)) (fun i => 2 - i) 0 ⟨by simp, by simp, by simp⟩ (Wk.fits (by simp [parD])) ?_
  rintro i ⟨h1, h2, h3⟩ B hb he hr
  simp [parD]
  refine CC_by (fun hc => ?_) (fun hc => ?_)
  · have hc : i < 2 := by simp at hc; omega
    obtain rfl | rfl : i = 0 ∨ i = 1 := by omega
    · simp
      refine CC_by (fun hd => ?_) (fun hd => ?_)
      · have hd : ¬ x.1.length ≤ 2147483647 := by simp at hd; omega
        simp
        refine hr _ ?_
        simp [fit2, hd]
      · have hd : x.1.length ≤ 2147483647 := by simp at hd; omega
        simp [show IntKind.i64.wrap 1 = 1 from by decide]
        exact hb _ 1 (Wk.fits (by simp [parD])) ⟨by simp, by simpa using hd, by simp⟩ (by simp)
    · simp
      refine CC_by (fun hd => ?_) (fun hd => ?_)
      · have hd : ¬ x.2.length ≤ 2147483647 := by simp at hd; omega
        simp
        refine hr _ ?_
        simp [fit2, hd]
      · have hd : x.2.length ≤ 2147483647 := by simp at hd; omega
        simp [show IntKind.i64.wrap (1 + 1) = 2 from by decide]
        exact hb _ 2 (Wk.fits (by simp [parD, show IntKind.i64.wrap 2 = 2 from by decide])) ⟨by simp, fun _ => h2 (by simp), fun _ => hd⟩ (by simp)
  · have hc : i = 2 := by simp at hc; omega
    subst hc
    simp
    refine he _ _ ?_
    have e1 := h2 (by simp)
    have e2 := h3 (by simp)
    simp [fit2, e1, e2]




theorem take_succ_at {α : Type} {l : List α} {i : Nat} (h : i < l.length) : l.take (i + 1) = l.take i ++ [l[i]] := by
  rw [List.take_add_one, List.getElem?_eq_getElem h]; rfl
/-- A sign of a text in quotes. -/
def escB (c : UInt8) : List UInt8 := if c.toNat = 39 ∨ c.toNat = 92 then [92, c] else [c]
def esc (l : List UInt8) : List UInt8 := l.flatMap escB
theorem esc_snoc (l : List UInt8) (c : UInt8) : esc (l ++ [c]) = esc l ++ escB c := by simp [esc]
theorem escB_length (c : UInt8) : (escB c).length ≤ 2 := by unfold escB; split <;> simp
theorem esc_length (l : List UInt8) : (esc l).length ≤ 2 * l.length := by
  induction l with
  | nil => simp [esc]
  | cons c l ih => have := escB_length c; simp [esc] at ih ⊢; omega
def quo (l : List UInt8) : List UInt8 := 39 :: (esc l ++ [39])
theorem quo_length (l : List UInt8) : (quo l).length ≤ 2 * l.length + 2 := by have := esc_length l; simp [quo]; omega
/-- A printable sign below 128. -/
def okc (c : UInt8) : Bool := decide (32 ≤ c.toNat) && decide (c.toNat < 127)

theorem ok109 {G : Nat → DV} (h : List Blk) (v : List UInt8) (hv : v.length ≤ 100000) (hg : v.all okc = true) : Ok Tryd.prog G 109 [.p (.string (txt v))] h (.p (.string (txt (esc v)))) h := by
  refine Ok_by Tryd.func109 c109_ok r109_ok 48 rfl ?_
  simp [c109, r109]
  refine VV_fam (fun x : Nat × DV × List Blk => ⟨fr 49 [(3, x.2.1), (0, .p (.string (txt v))), (6, .p (.string (txt v))), (7, .p (.int .i64 v.length)), (8, .p (.int .i64 x.1))], x.2.2⟩)
    (fun x => x.1 ≤ v.length ∧ Own h 1 x.2.2 x.2.1 (bts (esc (v.take x.1)))) (fun x => v.length - x.1) (0, .p (.slice none 0 0), h) ⟨Nat.zero_le _, Own.nil⟩ (Wk.fits (by simp)) ?_
  rintro ⟨i, d, h'⟩ ⟨hi, ho⟩ B hb he hr
  simp only at hi ho
  have hel := esc_length (v.take i)
  simp at hel
  simp
  refine CC_by (fun h1 => ?_) (fun h1 => ?_)
  · have h1 : i < v.length := by simpa using h1
    have hw : IntKind.i64.wrap ((i : Int) + 1) = ((i + 1 : Nat) : Int) := wrap_succ (n := v.length) h1 (by omega)
    have hgi : okc v[i] = true := List.all_eq_true.1 hg _ (List.getElem_mem _)
    have hn := take_succ_at h1
    simp [okc] at hgi
    have fin : ∀ d2 h2, Own h 1 h2 d2 (bts (esc (v.take i)) ++ bts (escB v[i])) → i + 1 ≤ v.length ∧ Own h 1 h2 d2 (bts (esc (v.take (i + 1)))) := by
      intro d2 h2 h3
      rw [hn, esc_snoc, ← bts_append]
      exact ⟨h1, h3⟩
    have eb : ∀ c : UInt8, c.toNat ≠ 39 → c.toNat ≠ 92 → escB c = [c] := fun c h1 h2 => if_neg (by rintro (h | h) <;> contradiction)
    have eq : ∀ c : UInt8, c.toNat = 39 ∨ c.toNat = 92 → escB c = [92, c] := fun c h1 => if_pos h1
    generalize hc : v[i] = c at *
    rcases Nat.decEq c.toNat 39 with n39 | c39
    · rcases Nat.decEq c.toNat 92 with n92 | c92
      · have e92 : ((c.toNat : Int) == 92) = false := beq_eq_false_iff_ne.2 (by omega)
        have e39 : ((c.toNat : Int) == 39) = false := beq_eq_false_iff_ne.2 (by omega)
        have e10 : ((c.toNat : Int) == 10) = false := beq_eq_false_iff_ne.2 (by omega)
        have e13 : ((c.toNat : Int) == 13) = false := beq_eq_false_iff_ne.2 (by omega)
        have e9 : ((c.toNat : Int) == 9) = false := beq_eq_false_iff_ne.2 (by omega)
        have e0 : ((c.toNat : Int) == 0) = false := beq_eq_false_iff_ne.2 (by omega)
        have f0 : ¬ c = 0 := by intro h; subst h; simp at e0
        simp [h1, hc, byteD, e92, e39, e10, e13, e9, e0, f0]
        refine AA_lit1 ho (by simp; omega) ?_
        intro d2 h2 o2 _ _
        simp [hw]
        refine hb _ (i + 1, d2, h2) (Wk.fits (by simp)) (fin d2 h2 ?_) (by simp; omega)
        rw [eb c n39 n92]; simpa [bts, byteD] using o2
      · simp [h1, hc, byteD, c92]
        refine AA_lits ho rfl (by simp; omega) ?_
        intro d2 h2 o2 _ _
        simp [hw]
        refine hb _ (i + 1, d2, h2) (Wk.fits (by simp)) (fin d2 h2 ?_) (by simp; omega)
        rw [eq c (.inr c92)]; simpa [bts, byteD, c92] using o2
    · simp [h1, hc, byteD, c39]
      refine AA_lits ho rfl (by simp; omega) ?_
      intro d2 h2 o2 _ _
      simp [hw]
      refine hb _ (i + 1, d2, h2) (Wk.fits (by simp)) (fin d2 h2 ?_) (by simp; omega)
      rw [eq c (.inl c39)]; simpa [bts, byteD, c39] using o2
  · have h1 : i = v.length := by simp at h1; omega
    subst h1
    rw [List.take_length] at ho
    simp
    refine he _ _ ?_
    simp [ho.bytes]
    exact WkV.ofPure ho.pre rfl

theorem ok97 {G : Nat → DV} (h : List Blk) (v : List UInt8) (hv : v.length ≤ 100000) (hg : v.all okc = true) : Ok Tryd.prog G 97 [.iface 9 (.p (.string (txt v)))] h (.tup [.p (.string (txt (quo v))), .p .nilIface]) h := by
  refine Ok_by Tryd.func97 c97_ok r97_ok 13 rfl ?_
  have := esc_length v
  simp [c97, r97]
  refine FF_by (ok109 _ v hv hg) ?_
  simp [quo]
  omega

def parW (x : Par) : List UInt8 := (uv x.1.length ++ x.1) ++ uv 2 ++ (uv (quo x.2).length ++ quo x.2)
theorem uv2 : uv 2 = [2] := by rw [uv_lt (by decide)]; rfl
theorem parW_length (x : Par) (h1 : x.1.length ≤ 5000) (h2 : x.2.length ≤ 5000) : (parW x).length ≤ 20000 := by
  have := quo_length x.2
  have a := uv_length x.1.length (by simp [B64]; omega)
  have b := uv_length (quo x.2).length (by simp [B64]; omega)
  simp [parW, uv2]; omega
/-- Put into the buffer, and no error. -/
def BufE (h : List Blk) (bb : Nat) (d : DV) (l : List UInt8) (v : DV) (h' : List Blk) : Prop := v = .p .nilIface ∧ ∃ d', BufS h' bb d' l ∧ BufK h h' bb d d'
/-- What the walk asks of a parameter. -/
structure Fine (x : Par) : Prop where
  a : x.1.length ≤ 5000
  b : x.2.length ≤ 5000
  c : x.2.all okc = true

theorem ok80 {G : Nat → DV} (h : List Blk) (bb pb : Nat) (d r : DV) (l : List UInt8) (x : Par) (hx : Fine x) (hl : l.length ≤ 1000000) (hs : BufS h bb d l) (hp : h[pb]? = some (.cells 2 [parD x])) (hne : pb ≠ bb) (hni : ¬ inBlk d pb) : OkR Tryd.prog G 80 [.ptr pb 0 0 1, .ptr bb 0 0 1, r] h (BufE h bb d (l ++ parW x)) := by
  refine OkR_by Tryd.func80 c80_ok r80_ok 29 rfl ?_
  have hxa := hx.a
  have hxb := hx.b
  have hq := quo_length x.2
  have hpl : pb < h.length := (List.getElem?_eq_some_iff.1 hp).1
  have hua := uv_length x.1.length (by simp [B64]; omega)
  have hu2 := uv_length 2 (by simp [B64])
  simp [c80, r80, hp, parD]
  refine FF_byR (ok49 _ bb d l x.1 (by omega) (by omega) hs) ?_
  rintro v h1 ⟨rfl, d1, k1, m1⟩
  have g1 := (m1.old pb hpl hne hni).trans hp
  simp
  refine FF_byR (ok66 _ bb d1 _ 2 (by simp [B64]) (by simp; omega) k1) ?_
  rintro v h2 ⟨rfl, d2, k2, m2⟩
  have g2 := ((m1.trans m2).old pb hpl hne hni).trans hp
  simp [g2, parD]
  refine FF_by (ok97 _ x.2 (by omega) hx.c) ?_
  simp
  refine FF_byR (ok49 _ bb d2 _ (quo x.2) (by omega) (by simp; omega) k2) ?_
  rintro v h3 ⟨rfl, d3, k3, m3⟩
  simp
  exact REr_by _ _ .refl ⟨rfl, d3, by simpa [parW] using k3, (m1.trans m2).trans m3⟩

def parsW (l : List Par) : List UInt8 := l.flatMap parW
theorem parsW_snoc (l : List Par) (x : Par) : parsW (l ++ [x]) = parsW l ++ parW x := by simp [parsW]
theorem parsW_length (l : List Par) (h : ∀ x, x ∈ l → Fine x) : (parsW l).length ≤ 20000 * l.length := by
  induction l with
  | nil => simp [parsW]
  | cons x l ih =>
    have h1 := ih fun y hy => h y (List.mem_cons_of_mem _ hy)
    have h2 := parW_length x (h x (by simp)).a (h x (by simp)).b
    simp [parsW] at h1 ⊢; omega

theorem ok32 {G : Nat → DV} (h : List Blk) (l : List Par) (hl : l.length ≤ 1000) : Ok Tryd.prog G 32 [.fz 2 (pars l)] h (.fz 2 (pars l)) h := by
  refine Ok_by Tryd.func32 c32_ok r32_ok 20 rfl ?_
  simp [c32, r32]
  refine VV_fam (fun x : Nat × DV × List Blk => ⟨fr 21 [(2, x.2.1), (5, .fz 2 (pars l)), (6, .p (.int .i64 l.length)), (7, .p (.int .i64 x.1))], x.2.2⟩)
    (fun x => x.1 ≤ l.length ∧ Own h 2 x.2.2 x.2.1 (pars (l.take x.1))) (fun x => l.length - x.1) (0, .p (.slice none 0 0), h) ⟨Nat.zero_le _, by simpa [pars] using Own.nil⟩ (Wk.fits (by simp)) ?_
  rintro ⟨i, d, h'⟩ ⟨hi, ho⟩ B hb he hr
  simp only at hi ho
  simp
  refine CC_by (fun h1 => ?_) (fun h1 => ?_)
  · have h1 : i < l.length := by simpa using h1
    have hw : IntKind.i64.wrap ((i : Int) + 1) = ((i + 1 : Nat) : Int) := wrap_succ (n := l.length) h1 (by omega)
    have hn := take_succ_at h1
    simp [h1, pars_get h1, parD]
    have ho1 : Own h 2 (h' ++ [.cells 2 [parD l[i]]]) d (pars (l.take i)) := ho.push
    rw [show ∀ X Y : Blk, h' ++ [X, Y] = (h' ++ [X]) ++ [Y] from by simp, show h'.length + 1 = (h' ++ [Blk.cells 2 [parD l[i]]]).length from by simp]
    refine AA_lit1 ho1 (by simp; omega) ?_
    intro d2 h2 o2 _ _
    simp [hw]
    refine hb _ (i + 1, d2, h2) (Wk.fits (by simp)) ⟨h1, ?_⟩ (by simp; omega)
    rw [hn, pars_push]; exact o2
  · have h1 : i = l.length := by simp at h1; omega
    subst h1
    rw [List.take_length] at ho
    simp
    refine he _ _ ?_
    simp
    exact ho.wk (pars_plain l)

theorem ok42 {G : Nat → DV} (h : List Blk) (v : List UInt8) (hv : v.length ≤ 100000) : Ok Tryd.prog G 42 [.p (.string (txt v))] h (.p (.string (txt (quo v)))) h := by
  refine Ok_by Tryd.func42 c42_ok r42_ok 34 rfl ?_
  simp [c42, r42]
  refine VV_fam (fun x : Nat × DV × List Blk => ⟨fr 35 [(3, x.2.1), (0, .p (.string (txt v))), (6, .p (.string (txt v))), (7, .p (.int .i64 v.length)), (8, .p (.int .i64 x.1))], x.2.2⟩)
    (fun x => x.1 ≤ v.length ∧ Own h 1 x.2.2 x.2.1 (bts (39 :: esc (v.take x.1)))) (fun x => v.length - x.1) (0, .sl h.length 0 1 1, h ++ [.cells 1 [.p (.int .u8 39)]]) ⟨Nat.zero_le _, by simp, .inr ⟨h.length, by simp [esc], Nat.le_refl _, by simp [esc, bts, byteD]⟩⟩ (Wk.fits (by simp)) ?_
  rintro ⟨i, d, h'⟩ ⟨hi, ho⟩ B hb he hr
  simp only at hi ho
  have hel := esc_length (v.take i)
  simp at hel
  simp
  refine CC_by (fun h1 => ?_) (fun h1 => ?_)
  · have h1 : i < v.length := by simpa using h1
    have hw : IntKind.i64.wrap ((i : Int) + 1) = ((i + 1 : Nat) : Int) := wrap_succ (n := v.length) h1 (by omega)
    have hn := take_succ_at h1
    have fin : ∀ d2 h2, Own h 1 h2 d2 (bts (39 :: esc (v.take i)) ++ bts (escB v[i])) → i + 1 ≤ v.length ∧ Own h 1 h2 d2 (bts (39 :: esc (v.take (i + 1)))) := by
      intro d2 h2 h3
      rw [hn, esc_snoc, ← List.cons_append, ← bts_append]
      exact ⟨h1, h3⟩
    have eb : ∀ c : UInt8, c.toNat ≠ 39 → c.toNat ≠ 92 → escB c = [c] := fun c h1 h2 => if_neg (by rintro (h | h) <;> contradiction)
    have eq : ∀ c : UInt8, c.toNat = 39 ∨ c.toNat = 92 → escB c = [92, c] := fun c h1 => if_pos h1
    generalize hc : v[i] = c at *
    have two : (c.toNat = 39 ∨ c.toNat = 92) → ∀ d2 h2, Own h 1 h2 d2 (bts (39 :: esc (v.take i)) ++ [.p (.int .u8 92)]) → ∀ d3 h3, Own h 1 h3 d3 (bts (39 :: esc (v.take i)) ++ [.p (.int .u8 92)] ++ [.p (.int .u8 c.toNat)]) → i + 1 ≤ v.length ∧ Own h 1 h3 d3 (bts (39 :: esc (v.take (i + 1)))) := by
      intro hcc d2 h2 _ d3 h3 h4
      refine fin d3 h3 ?_
      rw [eq c hcc]; simpa [bts, byteD] using h4
    rcases Nat.decEq c.toNat 39 with n39 | c39
    · rcases Nat.decEq c.toNat 92 with n92 | c92
      · have e92 : ((c.toNat : Int) == 92) = false := beq_eq_false_iff_ne.2 (by omega)
        have e39 : ((c.toNat : Int) == 39) = false := beq_eq_false_iff_ne.2 (by omega)
        simp [h1, hc, byteD, e92, e39]
        refine AA_lit1 ho (by simp; omega) ?_
        intro d2 h2 o2 _ _
        simp [hw]
        refine hb _ (i + 1, d2, h2) (Wk.fits (by simp)) (fin d2 h2 ?_) (by simp; omega)
        rw [eb c n39 n92]; simpa [bts, byteD] using o2
      · simp [h1, hc, byteD, c92]
        refine AA_lits ho rfl (by simp; omega) ?_
        intro d2 h2 o2 _ _
        simp [h1, hc, byteD, c92]
        refine AA_lits o2 rfl (by simp; omega) ?_
        intro d3 h3 o3 _ _
        simp [hw]
        refine hb _ (i + 1, d3, h3) (Wk.fits (by simp)) (two (.inr c92) d2 h2 o2 d3 h3 ?_) (by simp; omega)
        rw [c92]; exact o3
    · simp [h1, hc, byteD, c39]
      refine AA_lits ho rfl (by simp; omega) ?_
      intro d2 h2 o2 _ _
      simp [h1, hc, byteD, c39]
      refine AA_lits o2 rfl (by simp; omega) ?_
      intro d3 h3 o3 _ _
      simp [hw]
      refine hb _ (i + 1, d3, h3) (Wk.fits (by simp)) (two (.inl c39) d2 h2 o2 d3 h3 ?_) (by simp; omega)
      rw [c39]; exact o3
  · have h1 : i = v.length := by simp at h1; omega
    subst h1
    rw [List.take_length] at ho
    rw [List.take_length] at hel
    simp
    refine he _ _ ?_
    simp
    refine AA_lits ho rfl (by simp; omega) ?_
    intro d2 h2 o2 _ _
    have o2 : Own h 1 h2 d2 (bts (quo v)) := by simpa [quo, bts, byteD] using o2
    simp [o2.bytes]
    exact WkV.ofPure o2.pre rfl

theorem ok18 (h : List Blk) (l : List Par) (hx : ∀ x, x ∈ l → Fine x) (hl : l.length ≤ 10) : Ok Tryd.prog (fun _ => .any) 18 [.fz 2 (pars l)] h (.p (.string (txt (parsW l)))) h := by
  refine Ok_by Tryd.func18 c18_ok r18_ok 25 rfl ?_
  simp [c18, r18]
  refine VV_fam (fun x : Nat × List Blk => ⟨fr 26 [(3, .p (.string (txt (parsW (l.take x.1))))), (6, .fz 2 (pars l)), (7, .p (.int .i64 l.length)), (8, .p (.int .i64 x.1))], x.2⟩)
    (fun x => x.1 ≤ l.length ∧ HPre h x.2) (fun x => l.length - x.1) (0, h) ⟨Nat.zero_le _, HPre.refl h⟩ (Wk.fits (by simp [parsW])) ?_
  rintro ⟨i, h'⟩ ⟨hi, hp⟩ B hb he hr
  simp only at hi hp
  simp
  refine CC_by (fun h1 => ?_) (fun h1 => ?_)
  · have h1 : i < l.length := by simpa using h1
    have hw : IntKind.i64.wrap ((i : Int) + 1) = ((i + 1 : Nat) : Int) := wrap_succ (n := l.length) h1 (by omega)
    have hn := take_succ_at h1
    have hlen := parsW_length (l.take i) fun x hx' => hx x (List.mem_of_mem_take hx')
    simp at hlen
    have hf := hx _ (List.getElem_mem h1)
    have hxa := hf.a
    have hxb := hf.b
    have hq := quo_length l[i].2
    have hpl := parW_length l[i] hxa hxb
    simp [h1, pars_get h1, parD]
    refine DF_by (ok22 _ l[i].1 (by omega)) ?_
    simp
    refine DF_by (ok40 _ 2 (by simp [B64])) ?_
    simp
    refine ⟨by simp [parW] at hpl; omega, ?_⟩
    refine DF_by (ok42 _ l[i].2 (by omega)) ?_
    simp
    refine DF_by (ok22 _ (quo l[i].2) (by omega)) ?_
    have hpl' := hpl
    simp [parW] at hpl'
    simp [hw]
    refine ⟨by omega, by omega, ?_⟩
    have hnw : parsW (l.take (i + 1)) = parsW (l.take i) ++ (uv l[i].1.length ++ (l[i].1 ++ (uv 2 ++ (uv (quo l[i].2).length ++ quo l[i].2)))) := by
      rw [hn, parsW_snoc]; simp [parW]
    refine hb _ (i + 1, _) (Wk.fits ?_) ⟨h1, hp.trans (HPre.append _ _)⟩ (by simp only; omega)
    rw [← hnw]
    simp
  · have h1 : i = l.length := by simp at h1; omega
    subst h1
    simp
    refine he _ _ ?_
    simp
    exact WkV.ofPure hp rfl


end Go.Proofs.YtdgnjngbheecnaaDoor
