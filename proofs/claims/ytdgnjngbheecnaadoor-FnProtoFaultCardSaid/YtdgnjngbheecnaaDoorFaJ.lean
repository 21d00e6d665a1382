/- The law of faults. -/
import Derived.Test.YtdgnjngbheecnaaDoorFaI
import Derived.Test.YtdgnjngbheecnaaDoorBdA
set_option linter.unusedVariables false
set_option linter.unusedSimpArgs false
set_option maxRecDepth 100000
namespace Go.Proofs.YtdgnjngbheecnaaDoor
open Go Go.Den Go.Proofs

theorem wf_nums {B : Nat → Prop} {α : Type} (l : List α) (g : α → Value) : WF B (.fp (.agg (l.map fun n => .p (g n)))) := .fp (.agg fun j hj => by simp only [List.getElem_map]; exact .p)
theorem wf_acc {B : Nat → Prop} : WF B accD := by
  refine .agg fun j hj => ?_
  have : (accL.flatMap fun p => [DV.p (.int .u8 (p.1 : Int)), .p (.int .u8 (p.2 : Int))])[j] ∈ accL.flatMap fun p => [DV.p (.int .u8 (p.1 : Int)), .p (.int .u8 (p.2 : Int))] := List.getElem_mem hj
  obtain ⟨p, _, h2⟩ := List.mem_flatMap.1 this
  generalize (accL.flatMap fun p => [DV.p (.int .u8 (p.1 : Int)), .p (.int .u8 (p.2 : Int))])[j] = d at h2 ⊢
  simp at h2
  rcases h2 with rfl | rfl <;> exact .p
theorem gzT : GZ GT := by
  intro g
  unfold GT
  split
  · exact wf_nums _ _
  · split
    · exact .fp wf_acc
    · split
      · exact .fp (.agg fun j hj => absurd hj (by simp))
      · exact .any
theorem ok5 (h : List Blk) : Ok Tryd.prog GT 5 [] h (.p (.bool true)) h := Ok.eval gzT tab_ok 200 (by kernel_rfl) h

@[simp] theorem rdL_getElem {l : List Ft} {i : Nat} (h : i < (rdL l).length) : (rdL l)[i] = (rdF (l[i]'(by simpa [rdL_length] using h)) (.p (.slice none 0 0))).d := by simp [rdL, fts]
/-- What the law asks of a fault. -/
def goodF (bh : List UInt8) (f : Ft) : Prop := sumLen [f.n, f.m, f.t, bh] ≤ 5000 ∧ plainB f.m = true
theorem ok3 (l : List Ft) (bh : List UInt8) (cut : Nat) (hcut : cut < 65536) (hl : ∀ f ∈ l, I32 f.c ∧ f.n.length ≤ 140737488351232 ∧ f.m.length ≤ 140737488351232 ∧ f.t.length ≤ 140737488351232 ∧ f.e.cells.length = 1) (hbh : bh.length ≤ 140737488351232) :
    Ok Tryd.prog GT 3 [.fz 6 (fts l), .p (.string (txt bh)), .p (.int .u16 cut)] [] (.p (.bool true)) [] := by
  refine Ok_by Tryd.func3 c3_ok r3_ok 124 rfl ?_
  have w16 : IntKind.i64.wrap (cut : Int) = cut := by simp [IntKind.wrap, IntKind.bits, IntKind.signed]; omega
  by_cases h1 : l.length ≤ 2147483647
  case neg =>
    have h1' : decide ((2147483647 : Int) < (l.length : Int)) = true := by simp; omega
    simp [c3, r3, h1', fts_length]
  have h1' : decide ((2147483647 : Int) < (l.length : Int)) = false := by simp; omega
  by_cases h2 : bh.length ≤ 2147483647
  case neg =>
    have h2' : decide ((2147483647 : Int) < (bh.length : Int)) = true := by simp; omega
    simp [c3, r3, h1', h2', fts_length]
  have h2' : decide ((2147483647 : Int) < (bh.length : Int)) = false := by simp; omega
  by_cases h3 : l = []
  · subst h3
    simp [c3, r3, h2', fts_length]
    refine FF_by (ok5 _) ?_
    simp
  have hpos : 0 < l.length := List.length_pos_iff.2 h3
  have h3' : (((l.length : Nat) : Int) == 0) = false := by rw [beq_eq_false_iff_ne]; omega
  by_cases h5 : l.length ≤ 5
  case neg =>
    have h5' : decide ((5 : Int) < (l.length : Int)) = true := by simp; omega
    simp [c3, r3, h1', h2', h3', h5', fts_length]
    refine FF_by (ok5 _) ?_
    simp
  have h5' : decide ((5 : Int) < (l.length : Int)) = false := by simp; omega
  simp [c3, r3, h1', h2', h3', h5', fts_length]
  refine VV_fam (fun x : Nat × List Blk => ⟨fr 127 [(0, .fz 6 (fts l)), (1, .p (.string (txt bh))), (2, .p (.int .u16 cut)), (35, .fz 6 (fts l)), (36, .p (.int .i64 l.length)), (37, .p (.int .i64 x.1))], x.2⟩)
    (fun x => x.1 ≤ l.length ∧ ∀ f ∈ l.take x.1, goodF bh f) (fun x => l.length - x.1) (0, []) ⟨Nat.zero_le _, by simp⟩ (Wk.fits (by simp)) ?_
  rintro ⟨i, h⟩ ⟨hi, hg⟩ B hb he hr
  simp only at hi hg
  simp
  refine CC_by (fun hc => ?_) (fun hc => ?_)
  · have hc : i < l.length := by simpa using hc
    have hw : IntKind.i64.wrap ((i : Int) + 1) = ((i + 1 : Nat) : Int) := wrap_succ (n := l.length) hc (by omega)
    obtain ⟨g1, g2, g3, g4, g5⟩ := hl l[i] (List.getElem_mem hc)
    have htk : l.take (i + 1) = l.take i ++ [l[i]] := by rw [List.take_add_one, List.getElem?_eq_getElem hc]; rfl
    have hs6 := ok6 (G := GT) [] [l[i].n, l[i].m, l[i].t, bh] (by simp [sumLen]; omega) (by simp)
    have hfr := frzR_lit (h := h ++ [.cells 6 [l[i].d]]) (x := []) (sz := 1) (n := 4) (l := txts [l[i].n, l[i].m, l[i].t, bh]) rfl txts_plain
    simp [Ft.d, txts] at hfr
    simp [hc, Ft.d, hw, fts_length]
    refine FF_by (Ok.lend gzT hs6 (.cons hfr .nil) rfl) ?_
    by_cases hs : sumLen [l[i].n, l[i].m, l[i].t, bh] ≤ 5000
    · simp [hs]
      refine FF_by (ok7 _ l[i].m (by omega)) ?_
      cases hpm : plainB l[i].m with
      | true =>
        simp
        refine hb _ (i + 1, _) (Wk.fits (by simp [hw])) ⟨hc, ?_⟩ (by simp; omega)
        show ∀ f ∈ l.take (i + 1), goodF bh f
        rw [htk]
        intro f hf
        rcases List.mem_append.1 hf with hf | hf
        · exact hg f hf
        · rw [List.mem_singleton.1 hf]
          exact ⟨hs, hpm⟩
      | false =>
        simp
        refine FF_by (ok5 _) ?_
        simp
        refine hr _ ?_
        simp
    · simp [hs]
      refine FF_by (ok5 _) ?_
      simp
      refine hr _ ?_
      simp
  · have hc : i = l.length := by simp at hc; omega
    subst hc
    rw [List.take_length] at hg
    simp
    refine he _ _ ?_
    have hsl : ∀ f ∈ l, f.n.length + f.m.length + f.t.length + bh.length ≤ 5000 := fun f hf => by
      have := (hg f hf).1
      simp [sumLen] at this
      omega
    have hokp : ∀ f ∈ l, f.okp := fun f hf => by
      have h8 := hsl f hf
      obtain ⟨g1, _, _, _, g5⟩ := hl f hf
      exact ⟨⟨g1, by omega, by omega, by omega, g5⟩, (hg f hf).2⟩
    have h8 := fun H : List Blk => ok8 (G := GT) H l h5 fun f hf => (hokp f hf).ok
    have hWl := ftsW_length l fun f hf => (hokp f hf).ok
    obtain ⟨f, tl, rfl⟩ := List.exists_cons_of_ne_nil h3
    have hbl : bh.length ≤ 5000 := by have := hsl f (by simp); omega
    simp only [List.length_cons] at h5 hWl
    have htl : tl.length ≤ 4 := by omega
    have hWp : 0 < (ftsW (f :: tl)).length := by simp [ftsW, ftW, fix4]
    have k9 := fun H : List Blk => ok9 H (ftsW (f :: tl) ++ bh) f tl bh htl hokp (by simp; omega) (List.prefix_refl _)
    have e9 : (ftsW (f :: tl) ++ bh).length - (ftsW (f :: tl)).length = bh.length := by simp
    rw [if_pos (by simp), e9] at k9
    have hm := Nat.mod_lt cut hWp
    have e1 : (cut : Int).tmod ((ftsW (f :: tl)).length : Int) = ((cut % (ftsW (f :: tl)).length : Nat) : Int) := by
      rw [Int.tmod_eq_emod_of_nonneg (by omega)]; simp
    generalize hM : cut % (ftsW (f :: tl)).length = M at hm e1
    have k9e := fun H : List Blk => ok9 H ((ftsW (f :: tl)).take M) f tl [] htl hokp (by simp; omega) (by rw [List.append_nil]; exact List.take_prefix _ _)
    rw [if_neg (by simp; omega)] at k9e
    generalize hWW : ftsW (f :: tl) = WW at *
    simp
    refine FF_by (h8 _) ?_
    simp
    refine ⟨by omega, ?_⟩
    refine FF_by (k9 _) ?_
    simp [w16, e1, Ft.d, rdF]
    refine ⟨by intro e; simp [e] at hWp, by omega, ?_⟩
    refine FF_by (k9e _) ?_
    have s10 : ∀ (H : List Blk) (g : Ft) (e : DV), g ∈ f :: tl → e.cells.length = 1 → Ok Tryd.prog GT 10 [(rdF g e).d, g.d] H (.p (.bool true)) H := fun H g e hgm hc => by
      have hok := (hokp g hgm).ok
      have := ok10 (G := GT) H (rdF g e) g hc hok.e hok.n hok.m
      have hs : same (rdF g e) g = true := by simp [same, rdF]
      rwa [hs] at this
    have hnc : (nestF tl).cells.length = 1 := by unfold nestF; split <;> rfl
    simp [Ft.d, rdF, ftZ, fts]
    refine DF_by (s10 _ f (nestF tl) (by simp) hnc) ?_
    by_cases ht0 : tl = []
    · subst ht0
      have hw0 : ((0 : Int) != IntKind.i64.wrap 0) = false := by decide
      simp [nestF, hw0]
      refine VV_once fun B2 he2 hr2 => ?_
      simp
      refine he2 _ _ ?_
      simp
      refine FF_by (ok5 _) ?_
      simp
    · have hwl : IntKind.i64.wrap (tl.length : Int) = tl.length := by simp [IntKind.wrap, IntKind.bits, IntKind.signed]; omega
      simp [nestF, ht0, rdL_length, hwl]
      refine VV_fam (fun x : Nat × List Blk => ⟨fr 127 [(0, .fz 6 (fts (f :: tl))), (110, .fz 6 (rdL tl)), (111, .p (.int .i64 tl.length)), (112, .p (.int .i64 x.1))], x.2⟩)
        (fun x => x.1 ≤ tl.length) (fun x => tl.length - x.1) (0, _) (Nat.zero_le _) (Wk.fits (by simp [fts, Ft.d])) ?_
      rintro ⟨j, H⟩ hj B2 hb2 he2 hr2
      simp only at hj
      simp
      refine CC_by (fun hc => ?_) (fun hc => ?_)
      · have hc : j < tl.length := by simpa using hc
        have hw : IntKind.i64.wrap ((j : Int) + 1) = ((j + 1 : Nat) : Int) := wrap_succ (n := tl.length) hc (by omega)
        simp [hc, hw, rdL_length, fts_length, Ft.d, rdF]
        refine DF_by (s10 _ tl[j] (.p (.slice none 0 0)) (by simp) rfl) ?_
        simp
        exact hb2 _ (j + 1, _) (Wk.fits (by simp [hw])) hc (by simp; omega)
      · have hc : j = tl.length := by simp at hc; omega
        subst hc
        simp
        refine he2 _ _ ?_
        simp
        refine FF_by (ok5 _) ?_
        simp

/-! The law's arguments. -/
theorem shaped_i32 {d : DV} (s : Shaped (.int .i32) d) : ∃ c : Int, d = .p (.int .i32 c) ∧ I32 c := by
  cases s with
  | @int k n h =>
    have h : IntKind.i32.min ≤ n ∧ n ≤ IntKind.i32.max := by simpa [Lit.wf] using h
    have h1 : IntKind.i32.min = -2147483648 := rfl
    have h2 : IntKind.i32.max = 2147483647 := rfl
    exact ⟨n, rfl, by omega, by omega⟩
theorem shaped_txt {d : DV} (s : Shaped .str d) : ∃ t : List UInt8, d = .p (.string (txt t)) := by
  cases s with
  | @str s h => exact ⟨s.data.toList, by rw [← txt_of]⟩
theorem Bd.txt {N : Nat} {t : List UInt8} (h : Bd N (.p (.string (Go.Den.txt t)))) : t.length ≤ N := by
  cases h with
  | p h => simpa using h _ rfl
abbrev ftSh : Sh := .st [(1, .int .i32), (1, .str), (1, .str), (1, .str), (1, .str), (1, .opq)]
theorem shaped_ft {N : Nat} {d : DV} (s : Shaped ftSh d) (hb : Bd N d) : ∃ f : Ft, d = f.d ∧ I32 f.c ∧ f.n.length ≤ N ∧ f.m.length ≤ N ∧ f.t.length ≤ N ∧ f.e.cells.length = 1 := by
  cases s with
  | st hl h hc =>
    rename_i ds
    match ds, hl, h, hb with
    | [d1, d2, d3, d4, d5, d6], _, h, hb =>
      obtain ⟨c, h1, g1⟩ := shaped_i32 (h 0 (by simp) (by simp))
      obtain ⟨n, h2⟩ := shaped_txt (h 1 (by simp) (by simp))
      obtain ⟨m, h3⟩ := shaped_txt (h 2 (by simp) (by simp))
      obtain ⟨t, h4⟩ := shaped_txt (h 3 (by simp) (by simp))
      obtain ⟨x, h5⟩ := shaped_txt (h 4 (by simp) (by simp))
      have h6 := h 5 (by simp) (by simp)
      simp only [List.getElem_cons_zero, List.getElem_cons_succ] at h1 h2 h3 h4 h5 h6
      subst h1; subst h2; subst h3; subst h4; subst h5
      cases hb with
      | agg hb =>
        have g2 := (hb (.p (.string (txt n))) (by simp [DV.cells])).txt
        have g3 := (hb (.p (.string (txt m))) (by simp [DV.cells])).txt
        have g4 := (hb (.p (.string (txt t))) (by simp [DV.cells])).txt
        cases h6 with
        | opq => exact ⟨⟨c, n, m, t, x, _⟩, rfl, g1, g2, g3, g4, rfl⟩
theorem shaped_fts {N : Nat} : ∀ {l : List DV}, (∀ d ∈ l, Shaped ftSh d) → (∀ d ∈ l, Bd N d) → ∃ k : List Ft, l = fts k ∧ ∀ f ∈ k, I32 f.c ∧ f.n.length ≤ N ∧ f.m.length ≤ N ∧ f.t.length ≤ N ∧ f.e.cells.length = 1
  | [], _, _ => ⟨[], rfl, by simp⟩
  | d :: l, h, hb => by
    obtain ⟨f, e, hf⟩ := shaped_ft (h d (by simp)) (hb d (by simp))
    obtain ⟨k, rfl, hk⟩ := shaped_fts (l := l) (fun d hd => h d (by simp [hd])) (fun d hd => hb d (by simp [hd]))
    subst e
    refine ⟨f :: k, rfl, fun g hg => ?_⟩
    rcases List.mem_cons.1 hg with rfl | hg
    · exact hf
    · exact hk g hg
theorem wf_nat {k : IntKind} {p : Int} (hk : k.signed = false) (hp : (Lit.int k p).wf = true) : ∃ q : Nat, p = q ∧ q < 2 ^ k.bits := by
  have hp : k.min ≤ p ∧ p ≤ k.max := by simpa [Lit.wf] using hp
  cases k <;> simp [IntKind.signed, IntKind.min, IntKind.max, IntKind.bits] at hk hp ⊢ <;> exact ⟨p.toNat, by omega, by omega⟩
theorem fnProtoFault_walk (d : DV) (bh : ByteArray) (cut : Int) (sd : Shaped (.sl 6 ftSh) d) (bd : Bd 140737488351232 d) (hbh : bh.size ≤ 140737488351232) (hc : (Lit.int IntKind.u16 cut).wf = true) :
    Ok Tryd.prog GT 3 [d, .p (.string bh), .p (.int .u16 cut)] [] (.p (.bool true)) [] := by
  obtain ⟨cut, rfl, hcut⟩ := wf_nat rfl hc
  rw [txt_of bh]
  cases sd with
  | sl hl h =>
    cases bd with
    | fz hb =>
      obtain ⟨k, rfl, hk⟩ := shaped_fts h hb
      exact ok3 k _ cut (by simpa [IntKind.bits] using hcut) hk (by simpa using hbh)
end Go.Proofs.YtdgnjngbheecnaaDoor
