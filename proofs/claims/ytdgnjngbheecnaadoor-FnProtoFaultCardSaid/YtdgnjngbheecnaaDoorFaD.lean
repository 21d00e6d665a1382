/- Faults: their bytes; what is told of one. -/
import Derived.Test.YtdgnjngbheecnaaDoorFaA
import Derived.Test.YtdgnjngbheecnaaDoorFaC
set_option linter.unusedVariables false
set_option linter.unusedSimpArgs false
set_option maxRecDepth 100000
namespace Go.Proofs.YtdgnjngbheecnaaDoor
open Go Go.Den Go.Proofs

/-- So many bytes of a number, the lowest first. -/
def fx : Nat → Nat → List UInt8
  | 0, _ => []
  | k + 1, n => UInt8.ofNat n :: fx k (n / 256)
theorem fx_length : ∀ k n, (fx k n).length = k
  | 0, _ => rfl
  | k + 1, n => by simp [fx, fx_length k]
theorem fx4 (n : Nat) : fx 4 n = fix4 n := by
  simp [fx, fix4, Nat.div_div_eq_div_mul]
theorem ok21 {G : Nat → DV} (h : List Blk) (n0 : Nat) (hn : n0 < 4294967296) : Ok Tryd.prog G 21 [.p (.int .u64 n0), .p (.int .i64 4)] h (.p (.string (txt (fix4 n0)))) h := by
  refine Ok_by Tryd.func21 c21_ok r21_ok 17 rfl ?_
  simp [c21, r21]
  refine VV_fam (fun x : Nat × Nat × List UInt8 × DV × List Blk => ⟨fr 19 [(0, .p (.int .u64 x.1)), (5, x.2.2.2.1), (6, .p (.int .i64 4)), (7, .p (.int .i64 x.2.1))], x.2.2.2.2⟩)
    (fun x => x.2.1 ≤ 4 ∧ fx 4 n0 = x.2.2.1 ++ fx (4 - x.2.1) x.1 ∧ Own h 1 x.2.2.2.2 x.2.2.2.1 (bts x.2.2.1)) (fun x => 4 - x.2.1) (n0, 0, [], .p (.slice none 0 0), h)
    ⟨by simp, rfl, Own.nil⟩ (Wk.fits (by simp)) ?_
  rintro ⟨n, j, pre, d, h'⟩ ⟨hj, hu, ho⟩ B hb he hr
  simp only at hj hu ho
  have hl := congrArg List.length hu
  simp [fx_length] at hl
  simp
  refine CC_by (fun h1 => ?_) (fun h1 => ?_)
  · have h1 : j < 4 := by simp at h1; omega
    have hw : IntKind.i64.wrap ((j : Int) + 1) = ((j + 1 : Nat) : Int) := wrap_succ (n := 4) h1 (by omega)
    have hfx : fx (4 - j) n = UInt8.ofNat n :: fx (4 - (j + 1)) (n / 256) := by
      rw [show 4 - j = (4 - (j + 1)) + 1 by omega]; rfl
    simp [w8]
    refine AA_lit1 ho (by simp; omega) ?_
    intro d2 h2 ho2 _ _
    simp [shr8, hw]
    refine hb _ (n / 256, j + 1, pre ++ [UInt8.ofNat n], d2, h2) (Wk.fits (by simp)) ⟨by simp; omega, by rw [hu, hfx]; simp, ?_⟩ (by simp; omega)
    rw [byte_mod, bts_snoc] at ho2
    exact ho2
  · have h1 : j = 4 := by simp at h1; omega
    subst h1
    simp
    refine he _ _ ?_
    have hfin : pre = fix4 n0 := by rw [← fx4, hu]; simp [fx]
    rw [hfin] at ho
    simp [ho.bytes]
    exact WkV.ofPure ho.pre rfl

/-- A fault, as it is told. -/
structure Ft where
  c : Int
  n : List UInt8
  m : List UInt8
  t : List UInt8
  x : List UInt8
  e : DV
def Ft.d (f : Ft) : DV := .agg [.p (.int .i32 f.c), .p (.string (txt f.n)), .p (.string (txt f.m)), .p (.string (txt f.t)), .p (.string (txt f.x)), f.e]
/-- The message, as it is to be read. -/
def wantM (n m : List UInt8) : List UInt8 := if m.take (n.length + 1) = n ++ [58] then tight (m.drop (n.length + 1)) else m
def same (a b : Ft) : Bool := decide (a.c = b.c) && decide (a.n = b.n) && decide (a.t = b.t) && decide (a.m = wantM b.n b.m)
theorem ok10 {G : Nat → DV} (h : List Blk) (a b : Ft) (ha : a.e.cells.length = 1) (hb : b.e.cells.length = 1) (h1 : b.n.length ≤ 5000) (h2 : b.m.length ≤ 5000) : Ok Tryd.prog G 10 [a.d, b.d] h (.p (.bool (same a b))) h := by
  refine Ok_by Tryd.func10 c10_ok r10_ok 53 rfl ?_
  have q : (a.c == b.c) = decide (a.c = b.c) := by by_cases g : a.c = b.c <;> simp [g]
  have hsame : same a b = (decide (a.c = b.c) && decide (a.n = b.n) && decide (a.t = b.t) && decide (a.m = wantM b.n b.m)) := nd rfl
  by_cases hc : b.n.length + 1 ≤ b.m.length
  · simp [c10, r10, Ft.d, hc]
    refine ⟨by omega, ?_⟩
    refine CC_by (fun hp => ?_) (fun hp => ?_)
    · have hp : b.m.take (b.n.length + 1) = b.n ++ [58] := by simpa using hp
      have hwm : wantM b.n b.m = tight (b.m.drop (b.n.length + 1)) := by simp [wantM, hp]
      have hle : (b.n.length : Int) + 1 ≤ (b.m.length : Int) := by omega
      have hle3 : ¬ (b.n.length : Int) + 1 < 0 := by omega
      simp [hle, hle3]
      refine FF_by (ok20 _ _ (by simp; omega)) ?_
      rw [hwm] at hsame
      by_cases g1 : a.c = b.c
      · by_cases g2 : a.n = b.n
        · by_cases g3 : a.t = b.t
          · simp [q, g1, g2, g3, hsame]
          · simp [q, g1, g2, g3, hsame]
        · simp [q, g1, g2, hsame]
      · simp [q, g1, hsame]
    · have hp : ¬ b.m.take (b.n.length + 1) = b.n ++ [58] := by simpa using hp
      have hwm : wantM b.n b.m = b.m := by simp [wantM, hp]
      rw [hwm] at hsame
      by_cases g1 : a.c = b.c
      · by_cases g2 : a.n = b.n
        · by_cases g3 : a.t = b.t
          · simp [q, g1, g2, g3, hsame]
          · simp [q, g1, g2, g3, hsame]
        · simp [q, g1, g2, hsame]
      · simp [q, g1, hsame]
  · have hne : ¬ b.m.take (b.n.length + 1) = b.n ++ [58] := by
      intro e
      have := congrArg List.length e
      simp at this
      omega
    have hwm : wantM b.n b.m = b.m := by simp [wantM, hne]
    rw [hwm] at hsame
    simp [c10, r10, Ft.d, hc]
    refine ⟨by omega, ?_⟩
    by_cases g1 : a.c = b.c
    · by_cases g2 : a.n = b.n
      · by_cases g3 : a.t = b.t
        · simp [q, g1, g2, g3, hsame]
        · simp [q, g1, g2, g3, hsame]
      · simp [q, g1, g2, hsame]
    · simp [q, g1, hsame]

/-! The bytes of faults. -/
def long (s : List UInt8) : List UInt8 := uv s.length ++ s
def ftW (f : Ft) (more : Bool) : List UInt8 := fix4 (u32 f.c) ++ (long f.n ++ (long f.m ++ (long f.t ++ (yn more ++ []))))
def ftsW : List Ft → List UInt8
  | [] => []
  | f :: l => ftW f (!l.isEmpty) ++ ftsW l
def fts (l : List Ft) : List DV := l.map Ft.d
theorem fts_length (l : List Ft) : (fts l).length = l.length := by simp [fts]
theorem fts_get {l : List Ft} {i : Nat} (h : i < l.length) : (fts l)[i]? = some l[i].d := by simp [fts, h]
@[simp] theorem fts_getElem {l : List Ft} {i : Nat} (h : i < (fts l).length) : (fts l)[i] = (l[i]'(by simpa [fts] using h)).d := by simp [fts]
/-- A fault that is short. -/
structure Ft.ok (f : Ft) : Prop where
  c : I32 f.c
  n : f.n.length ≤ 5000
  m : f.m.length ≤ 5000
  t : f.t.length ≤ 5000
  e : f.e.cells.length = 1
theorem long_length (s : List UInt8) (h : s.length ≤ 5000) : (long s).length ≤ 5010 := by
  have := uv_length s.length (by simp [B64]; omega)
  simp [long]; omega
theorem ftW_length (f : Ft) (b : Bool) (h : f.ok) : (ftW f b).length ≤ 15040 := by
  have h1 := long_length f.n h.n
  have h2 := long_length f.m h.m
  have h3 := long_length f.t h.t
  simp [ftW, fix4, yn]; omega
theorem ftsW_length : ∀ (l : List Ft), (∀ f ∈ l, f.ok) → (ftsW l).length ≤ l.length * 15040
  | [], _ => by simp [ftsW]
  | f :: l, h => by
    have h1 := ftW_length f (!l.isEmpty) (h f (by simp))
    have h2 := ftsW_length l fun g hg => h g (by simp [hg])
    simp [ftsW]; omega
theorem ok22' {G : Nat → DV} (h : List Blk) (l : List UInt8) (hl : l.length ≤ 5000) : Ok Tryd.prog G 22 [.p (.string (txt l))] h (.p (.string (txt (long l)))) h := ok22 h l (by omega)
theorem u32_wrap (c : Int) (h : I32 c) : IntKind.u64.wrap (IntKind.u32.wrap c) = (u32 c : Int) := by
  obtain ⟨h1, h2⟩ := h
  simp [u32, IntKind.wrap, IntKind.bits, IntKind.signed]
  omega

theorem ok8 {G : Nat → DV} (h : List Blk) (l : List Ft) (hl : l.length ≤ 5) (hok : ∀ f ∈ l, f.ok) : Ok Tryd.prog G 8 [.fz 6 (fts l)] h (.p (.string (txt (ftsW l)))) h := by
  refine Ok_by Tryd.func8 c8_ok r8_ok 40 rfl ?_
  have hW := ftsW_length l hok
  simp [c8, r8, fts_length]
  refine VV_fam (fun x : Nat × List UInt8 × List Blk => ⟨fr 41 [(0, .fz 6 (fts l)), (3, .p (.string (txt x.2.1))), (6, .fz 6 (fts l)), (7, .p (.int .i64 l.length)), (8, .p (.int .i64 x.1))], x.2.2⟩)
    (fun x => x.1 ≤ l.length ∧ ftsW l = x.2.1 ++ ftsW (l.drop x.1) ∧ HPre h x.2.2) (fun x => l.length - x.1) (0, [], h) ⟨Nat.zero_le _, rfl, HPre.refl _⟩ (Wk.fits (by simp)) ?_
  rintro ⟨i, out, h'⟩ ⟨hi, hu, hp⟩ B hb he hr
  simp only at hi hu hp
  simp
  refine CC_by (fun h1 => ?_) (fun h1 => ?_)
  · have h1 : i < l.length := by simpa using h1
    have hw : IntKind.i64.wrap ((i : Int) + 1) = ((i + 1 : Nat) : Int) := wrap_succ (n := l.length) h1 (by omega)
    have hw2 : IntKind.i64.wrap ((l.length : Int) - 1) = ((l.length - 1 : Nat) : Int) := by simp [IntKind.wrap, IntKind.bits, IntKind.signed]; omega
    have hw3 : IntKind.i64.wrap (((fts l).length : Int) - 1) = ((l.length - 1 : Nat) : Int) := by rw [fts_length]; exact hw2
    have hok1 := hok l[i] (List.getElem_mem h1)
    have hdrop : l.drop i = l[i] :: l.drop (i + 1) := List.drop_eq_getElem_cons h1
    have hflag : (!(l.drop (i + 1)).isEmpty) = decide (i < l.length - 1) := by
      by_cases hx : i < l.length - 1
      · have : l.drop (i + 1) ≠ [] := by simp; omega
        simp [hx]; omega
      · have : l.drop (i + 1) = [] := by simp; omega
        simp [this, hx]
    rw [hdrop, ftsW, hflag] at hu
    have hL := congrArg List.length hu
    simp at hL
    have f1 := long_length _ hok1.n
    have f2 := long_length _ hok1.m
    have f3 := long_length _ hok1.t
    have hlen : (fix4 (u32 l[i].c)).length = 4 := rfl
    simp [h1, Ft.d, u32_wrap _ hok1.c, hw2, hw, fts_length]
    refine DF_by (ok21 _ _ (u32_lt _)) ?_
    simp
    refine DF_by (ok22' _ _ hok1.n) ?_
    simp
    refine ⟨by omega, ?_⟩
    refine DF_by (ok22' _ _ hok1.m) ?_
    simp
    refine ⟨by omega, ?_⟩
    refine DF_by (ok22' _ _ hok1.t) ?_
    simp
    refine ⟨by omega, ?_⟩
    refine DF_by (ok23 _ _) ?_
    have hyn : ∀ b, (yn b).length = 1 := fun b => rfl
    simp [hw3, hyn]
    refine ⟨by omega, by omega, ?_⟩
    refine hb _ (i + 1, out ++ ftW l[i] (decide (i < l.length - 1)), h' ++ [.cells 6 [l[i].d]]) (Wk.fits ?_) ⟨h1, by rw [hu]; simp, hp.trans (HPre.append _ _)⟩ (by simp; omega)
    simp [ftW, hw]
  · have h1 : i = l.length := by simp at h1; omega
    subst h1
    simp
    refine he _ _ ?_
    simp [ftsW] at hu
    simp [hu]
    exact WkV.ofPure hp rfl
end Go.Proofs.YtdgnjngbheecnaaDoor
