/- Faults: what is told of what has been read. -/
import Derived.Test.YtdgnjngbheecnaaDoorFaG
import Derived.Test.YtdgnjngbheecnaaDoorLibE
set_option linter.unusedVariables false
set_option linter.unusedSimpArgs false
set_option maxRecDepth 100000
namespace Go.Proofs.YtdgnjngbheecnaaDoor
open Go Go.Den Go.Proofs

def errT (c : Int) (m : List UInt8) : List UInt8 := [99, 111, 100, 101, 58, 32] ++ (decI c ++ ([44, 32, 109, 101, 115, 115, 97, 103, 101, 58, 32] ++ m))
def exV (c : Int) (n m t : List UInt8) (e : DV) (b : Bool) : DV := .agg [.p (.int .i32 c), .p (.string (txt n)), .p (.string ⟨#[]⟩), .p (.string (txt m)), .p (.string (txt t)), e, .p (.bool b)]
theorem I32.I64 {c : Int} (h : I32 c) : I64 c := by
  obtain ⟨h1, h2⟩ := h
  exact ⟨by omega, by omega⟩
theorem ok46 {G : Nat → DV} (h : List Blk) (k i x : Nat) (els : List DV) (c : Int) (n m t : List UInt8) (e : DV) (b : Bool) (hc : I32 c) (hm : m.length ≤ 5000) (hx : x = els.length) (hb : h[k]? = some (.cells 7 els)) (hi : els[i]? = some (exV c n m t e b)) :
    Ok Tryd.prog G 46 [.ptr k i 0 x] h (.p (.string (txt (errT c m)))) h := by
  refine Ok_by Tryd.func46 c46_ok r46_ok 15 rfl ?_
  have hw : IntKind.i64.wrap c = c := by
    obtain ⟨h1, h2⟩ := hc
    simp [IntKind.wrap, IntKind.bits, IntKind.signed]; omega
  have hlen := decI_length c hc.I64
  subst hx
  simp [c46, r46, hb, hi, exV, hw]
  refine DF_by (ok63 _ c hc.I64) ?_
  simp [hb, hi, exV]
  refine ⟨by omega, by omega, by omega, ?_⟩
  simp [errT]

/-- A fault, as it has been read. -/
def rdF (f : Ft) (e : DV) : Ft := ⟨f.c, f.n, wantM f.n f.m, f.t, errT f.c (wantM f.n f.m), e⟩
theorem want_length (n m : List UInt8) : (wantM n m).length ≤ m.length := by
  unfold wantM
  split
  · have := tight_length (m.drop (n.length + 1))
    simp at this; omega
  · exact Nat.le_refl _
/-- One with nothing behind it. -/
theorem ok26l {G : Nat → DV} (h : List Blk) (k i x : Nat) (els : List DV) (f : Ft) (b : Bool) (hf : f.ok) (hx : x = els.length) (hb : h[k]? = some (.cells 7 els)) (hi : els[i]? = some (.agg (exD f b))) :
    Ok Tryd.prog G 26 [.ptr k i 0 x] h (rdF f (.p (.slice none 0 0))).d h := by
  refine Ok_by Tryd.func26 c26_ok r26_ok 45 rfl ?_
  subst hx
  have hlt := (List.getElem?_eq_some_iff.1 hb).1
  have gp : ∀ {h'}, HPre h h' → h'[k]? = some (.cells 7 els) := fun hp => hp _ _ hb
  simp [c26, r26, hb, hi, exD, List.getElem?_append_left hlt]
  have hml := Nat.le_trans (want_length f.n f.m) hf.m
  refine DPC_by (fun h' hp => ok46 h' k i _ els f.c f.n _ f.t _ b hf.c hml rfl (hp _ _ (by rw [List.getElem?_append_left hlt]; exact hb)) hi) (fun h1 => ?_)
  simp [hb, hi, exD, List.getElem?_append_left hlt]
  refine VV_once fun B he hr => ?_
  simp
  refine he _ _ ?_
  simp
  exact WkV.ofPure (HPre.append _ _) rfl

theorem exs_get : ∀ (l : List Ft) (i : Nat) (h : i < l.length), ∃ b, (exs l)[i]? = some (.agg (exD l[i] b))
  | f :: l, 0, _ => ⟨_, rfl⟩
  | f :: l, i + 1, h => by
    obtain ⟨b, hb⟩ := exs_get l i (by simpa using h)
    exact ⟨b, by simpa [exs] using hb⟩
def rdL (l : List Ft) : List DV := fts (l.map fun f => rdF f (.p (.slice none 0 0)))
theorem rdL_length (l : List Ft) : (rdL l).length = l.length := by simp [rdL, fts]
theorem rdL_snoc (l : List Ft) (f : Ft) : rdL l ++ [(rdF f (.p (.slice none 0 0))).d] = rdL (l ++ [f]) := by simp [rdL, fts]
theorem rdL_plain (l : List Ft) : plainL (rdL l) := by
  intro d hd
  simp only [rdL, fts, List.map_map, List.mem_map] at hd
  obtain ⟨f, _, rfl⟩ := hd
  rfl
def nestF (tl : List Ft) : DV := if tl = [] then .p (.slice none 0 0) else .fz 6 (rdL tl)
theorem ok26 {G : Nat → DV} (h : List Blk) (xb b : Nat) (f : Ft) (tl : List Ft) (hok : ∀ g ∈ f :: tl, g.ok) (hl : tl.length ≤ 4) (hx : h[xb]? = some (.cells 7 [.agg (topD b (f :: tl))])) (hb : h[b]? = some (.cells 7 (exs (f :: tl)))) :
    Ok Tryd.prog G 26 [.ptr xb 0 0 1] h (rdF f (nestF tl)).d h := by
  have hf := hok f (by simp)
  by_cases hn : tl = []
  · subst hn
    exact ok26l h xb 0 1 _ f false hf rfl hx (by simp [topD, nestD, exD])
  · have hpos : 0 < tl.length := List.length_pos_iff.2 hn
    refine Ok_by Tryd.func26 c26_ok r26_ok 45 rfl ?_
    have hlt := (List.getElem?_eq_some_iff.1 hx).1
    have hltb := (List.getElem?_eq_some_iff.1 hb).1
    have hml := Nat.le_trans (want_length f.n f.m) hf.m
    have htop : topD b (f :: tl) = [.p (.int .i32 f.c), .p (.string (txt f.n)), .p (.string ⟨#[]⟩), .p (.string (txt (wantM f.n f.m))), .p (.string (txt f.t)), .sl b 1 tl.length (tl.length + 1), .p (.bool false)] := by
      simp [topD, nestD, hn]
    rw [htop] at hx
    simp [c26, r26, hx, List.getElem?_append_left hlt]
    refine DPC_by (fun h' hp => ok46 h' xb 0 _ _ f.c f.n _ f.t _ false hf.c hml rfl (hp _ _ (by rw [List.getElem?_append_left hlt]; exact hx)) rfl) (fun h1 => ?_)
    simp [hx, List.getElem?_append_left hlt]
    refine VV_fam (fun x : Nat × DV × List Blk => ⟨fr 46 [(0, .ptr xb 0 0 1), (2, .ptr h.length 0 0 1), (3, .ptr (h.length + 1) 0 0 1), (28, .p (.int .i64 tl.length)), (29, .p (.int .i64 x.1))], x.2.2⟩)
      (fun x => x.1 ≤ tl.length ∧ HPre (h ++ [.cells 6 [.agg [.p (.int .i32 0), .p (.string ⟨#[]⟩), .p (.string ⟨#[]⟩), .p (.string ⟨#[]⟩), .p (.string ⟨#[]⟩), .p (.slice none 0 0)]]]) x.2.2 ∧
        x.2.2[h.length + 1]? = some (.cells 6 [.agg [.p (.int .i32 f.c), .p (.string (txt f.n)), .p (.string (txt (wantM f.n f.m))), .p (.string (txt f.t)), .p (.string (txt (errT f.c (wantM f.n f.m)))), x.2.1]]) ∧ SlS 6 x.2.2 x.2.1 (rdL (tl.take x.1)) ∧ ∀ j, inBlk x.2.1 j → h.length + 1 < j)
      (fun x => tl.length - x.1) (0, .p (.slice none 0 0), _) ⟨Nat.zero_le _, ?_, ?_, .nil, fun j hj => hj.elim⟩ (Wk.fits (by simp)) ?_
    · simp
    · simp
    rintro ⟨i, d, h2⟩ ⟨hi, hp, h3, he3, hd3⟩ B hb' he hr
    simp only at hi hp h3 he3 hd3
    have hp0 : HPre h h2 := (HPre.append _ _).trans hp
    have hx2 := hp0 _ _ hx
    have hb2 := hp0 _ _ hb
    have h0 : h2[h.length]? = some (.cells 6 [.agg [.p (.int .i32 0), .p (.string ⟨#[]⟩), .p (.string ⟨#[]⟩), .p (.string ⟨#[]⟩), .p (.string ⟨#[]⟩), .p (.slice none 0 0)]]) := hp _ _ (by simp)
    have hl2 : h.length + 1 < h2.length := (List.getElem?_eq_some_iff.1 h3).1
    simp
    refine CC_by (fun hc => ?_) (fun hc => ?_)
    · have hc : i < tl.length := by simpa using hc
      have hw : IntKind.i64.wrap ((i : Int) + 1) = ((i + 1 : Nat) : Int) := wrap_succ (n := tl.length) hc (by omega)
      obtain ⟨fl, hfl⟩ := exs_get (f :: tl) (i + 1) (by simp; omega)
      have hg := hok tl[i] (by simp)
      simp [h3, hx2, hb2, hc, hw]
      refine ⟨by simp [exs_length], ?_⟩
      refine DF_by (ok26l h2 b (1 + i) (tl.length + 1) (exs (f :: tl)) tl[i] fl hg (by simp [exs_length]) hb2 (by rw [Nat.add_comm]; exact hfl)) ?_
      simp
      refine ⟨⟨rfl, rfl⟩, ?_⟩
      refine DA_slS (els := rdL (tl.take i)) (ys := [(rdF tl[i] (.p (.slice none 0 0))).d]) (he3.of fun j hj => List.getElem?_append_left (he3.lt hj)) (by simp [elemsOf]) (by simp [rdL_length]; omega) ?_
      intro d' h4 e4 k4
      have old : ∀ j, j < h2.length → ¬ inBlk d j → h4[j]? = h2[j]? := fun j hj hn => by
        rw [k4.old j (by simp; omega) hn, List.getElem?_append_left hj]
      have nd : ∀ j, j ≤ h.length + 1 → ¬ inBlk d j := fun j hj hd => by have := hd3 j hd; omega
      have g3 : h4[h.length + 1]? = _ := (old (h.length + 1) hl2 (nd _ (Nat.le_refl _))).trans h3
      have hd4 : ∀ j, inBlk d' j → h.length + 1 < j := fun j hj => by
        rcases k4.new j hj with h5 | h5
        · exact hd3 j h5
        · simp at h5; omega
      have hl4 := k4.len
      simp at hl4
      rw [rdL_snoc] at e4
      have htk : tl.take i ++ [tl[i]] = tl.take (i + 1) := by rw [List.take_add_one, List.getElem?_eq_getElem hc]; rfl
      rw [htk] at e4
      have hshape : d' = .p (.slice none 0 0) ∨ ∃ b n, d' = .sl b 0 n n := by
        rcases e4 with ⟨h5, _⟩ | ⟨b4, h5, _⟩
        · exact .inl h5
        · exact .inr ⟨_, _, h5⟩
      have fin : ∀ Y, Y = Blk.cells 6 [.agg [.p (.int .i32 f.c), .p (.string (txt f.n)), .p (.string (txt (wantM f.n f.m))), .p (.string (txt f.t)), .p (.string (txt (errT f.c (wantM f.n f.m)))), d']] →
          HPre (h ++ [.cells 6 [.agg [.p (.int .i32 0), .p (.string ⟨#[]⟩), .p (.string ⟨#[]⟩), .p (.string ⟨#[]⟩), .p (.string ⟨#[]⟩), .p (.slice none 0 0)]]]) (h4.set (h.length + 1) Y) ∧ (h4.set (h.length + 1) Y)[h.length + 1]? = some (.cells 6 [.agg [.p (.int .i32 f.c), .p (.string (txt f.n)), .p (.string (txt (wantM f.n f.m))), .p (.string (txt f.t)), .p (.string (txt (errT f.c (wantM f.n f.m)))), d']]) ∧ SlS 6 (h4.set (h.length + 1) Y) d' (rdL (tl.take (i + 1))) := by
        rintro Y rfl
        refine ⟨?_, ?_, ?_⟩
        · intro j k hk
          have hj := (List.getElem?_eq_some_iff.1 hk).1
          simp at hj
          rw [List.getElem?_set_ne (by omega), old j (by omega) (nd j (by omega))]
          exact hp j k hk
        · exact List.getElem?_set_self (by omega)
        · exact e4.of fun j hj => List.getElem?_set_ne (by have := hd4 j hj; omega)
      rcases hshape with h5 | ⟨b4, n4, h5⟩
      all_goals
        subst h5
        simp [g3]
        obtain ⟨f1, f2, f3⟩ := fin _ rfl
        exact hb' _ (i + 1, _, _) (Wk.fits (by simp [hw])) ⟨hc, f1, f2, f3, hd4⟩ (by simp; omega)
    · have hc : i = tl.length := by simp at hc; omega
      subst hc
      simp
      refine he _ _ ?_
      rw [List.take_length] at he3
      have gset : ∀ X, (h2.set h.length X)[h.length]? = some X := fun X => List.getElem?_set_self (by omega)
      simp [h3, h0, gset]
      rcases he3 with ⟨_, h00⟩ | ⟨b2, rfl, hb3⟩
      · have := congrArg List.length h00
        simp [rdL_length] at this
        exact absurd this hn
      · have hb4 := hd3 b2 rfl
        refine WkV.frz 2 (HPre_set hp0 (Nat.le_refl _)) ?_
        have key : ∀ X, Den.frz (h2.set h.length X) h.length 1 (.sl b2 0 (rdL tl).length (rdL tl).length) = some (.fz 6 (rdL tl)) := fun X => by
          rw [frz_sl (rdL_plain tl) (by rw [List.getElem?_set_ne (by omega)]; exact hb3) (by omega) rfl]
          simp
        rw [Den.frz]
        simp [pureV, pureV.pureL, omap, key, frz_p, rdF, Ft.d, nestF, hn]
end Go.Proofs.YtdgnjngbheecnaaDoor
