/- JSON: a list of texts. -/
import Derived.Test.YtppjcnaffphakaaGreatDoorJtD
set_option linter.unusedVariables false
set_option linter.unusedSimpArgs false
set_option maxRecDepth 100000
set_option maxHeartbeats 4000000
namespace Go.Proofs.YtppjcnaffphakaaGreatDoor
open Go Go.Den Go.Proofs

def c78L0 : DC :=
  (.block 1 (.seq (.rg [⟨(some 40), .mov (.t 0), none⟩,
         ⟨(some 41), .callr 65 [(.t 40)], none⟩,
         ⟨(some 39), .mov (.t 41), none⟩,
         ⟨(some 42), .ext (.t 39) 0, none⟩,
         ⟨(some 43), .ext (.t 39) 1, none⟩,
         ⟨(some 4), .alloc 5 (.agg [.p (.int .u8 0), .p (.bool false), .p (.string ⟨#[]⟩), .p (.slice none 0 0), .p (.slice none 0 0)]), none⟩,
         ⟨none, .store 5 (.t 4) (.t 42), none⟩,
         ⟨(some 5), .mov (.t 43), none⟩])
    (.seq (.seq (.rg [⟨(some 44), .mov (.t 5), none⟩,
         ⟨(some 45), .un .not (.t 44), none⟩])
    (.cond (.t 45) (.seq (.rg [⟨(some 46), .load true 5 (.t 2), none⟩,
           ⟨none, .store 5 (.t 2) (.t 46), none⟩,
           ⟨(some 3), .mov (.c (.p (.bool false))), none⟩])
    .ret)
    .skip))
    (.seq (.rg [⟨(some 47), .faddr false 3 1 (.t 2), none⟩,
         ⟨(some 48), .load false 1 (.t 47), none⟩,
         ⟨(some 49), .load true 5 (.t 4), none⟩,
         ⟨(some 50), .lit 5 [(.t 49)], none⟩,
         ⟨(some 51), .app 5 72 (.t 48) (.t 50), none⟩,
         ⟨(some 52), .faddr false 3 1 (.t 2), none⟩,
         ⟨none, .store 1 (.t 52) (.t 51), none⟩])
    (.seq (.rg [⟨(some 53), .mov (.t 0), none⟩,
         ⟨(some 54), .callr 66 [(.t 53)], none⟩])
    (.seq (.seq (.rg [⟨(some 55), .mov (.t 0), none⟩,
         ⟨(some 56), .callr 80 [(.t 55), (.c (.p (.string ⟨#[93]⟩)))], none⟩])
    (.cond (.t 56) (.seq (.rg [⟨(some 57), .mov (.t 0), none⟩,
           ⟨(some 58), .nilchk .ptr (.t 57), none⟩,
           ⟨(some 59), .faddr false 2 1 (.t 58), none⟩,
           ⟨(some 60), .load false 1 (.t 59), none⟩,
           ⟨(some 61), .bin .sub (.t 60) (.c (.p (.int .i64 1))), none⟩,
           ⟨(some 62), .nilchk .ptr (.t 57), none⟩,
           ⟨(some 63), .faddr false 2 1 (.t 62), none⟩,
           ⟨none, .store 1 (.t 63) (.t 61), none⟩])
    (.seq (.rg [⟨(some 64), .load true 5 (.t 2), none⟩,
           ⟨none, .store 5 (.t 2) (.t 64), none⟩,
           ⟨(some 3), .mov (.c (.p (.bool true))), none⟩])
    .ret))
    .skip))
    (.seq (.rg [⟨(some 65), .mov (.t 0), none⟩,
         ⟨(some 66), .callr 80 [(.t 65), (.c (.p (.string ⟨#[44]⟩)))], none⟩,
         ⟨(some 67), .un .not (.t 66), none⟩])
    (.cond (.t 67) (.seq (.rg [⟨(some 68), .load true 5 (.t 2), none⟩,
           ⟨none, .store 5 (.t 2) (.t 68), none⟩,
           ⟨(some 3), .mov (.c (.p (.bool false))), none⟩])
    .ret)
    .skip))))))))
theorem c78_cut : c78 =
  (.seq (.rg [⟨(some 2), .alloc 5 (.agg [.p (.int .u8 0), .p (.bool false), .p (.string ⟨#[]⟩), .p (.slice none 0 0), .p (.slice none 0 0)]), none⟩,
      ⟨(some 3), .mov (.c (.p (.bool false))), none⟩])
    (.seq (.rg [⟨(some 6), .faddr false 0 1 (.t 2), none⟩,
      ⟨none, .store 1 (.t 6) (.c (.p (.int .u8 91))), none⟩])
    (.seq (.rg [⟨(some 7), .mov (.t 0), none⟩,
      ⟨(some 8), .nilchk .ptr (.t 7), none⟩,
      ⟨(some 9), .faddr false 1 1 (.t 8), none⟩,
      ⟨(some 10), .load false 1 (.t 9), none⟩,
      ⟨(some 11), .bin .add (.t 10) (.c (.p (.int .i64 1))), none⟩,
      ⟨(some 12), .nilchk .ptr (.t 7), none⟩,
      ⟨(some 13), .faddr false 1 1 (.t 12), none⟩,
      ⟨none, .store 1 (.t 13) (.t 11), none⟩])
    (.seq (.seq (.rg [⟨(some 14), .mov (.t 0), none⟩,
      ⟨(some 15), .nilchk .ptr (.t 14), none⟩,
      ⟨(some 16), .faddr false 2 1 (.t 15), none⟩,
      ⟨(some 17), .load false 1 (.t 16), none⟩,
      ⟨(some 18), .bin .add (.t 17) (.c (.p (.int .i64 1))), none⟩,
      ⟨(some 19), .nilchk .ptr (.t 14), none⟩,
      ⟨(some 20), .faddr false 2 1 (.t 19), none⟩,
      ⟨none, .store 1 (.t 20) (.t 18), none⟩])
    (.seq (.rg [⟨(some 21), .mov (.t 0), none⟩,
      ⟨(some 22), .nilchk .ptr (.t 21), none⟩,
      ⟨(some 23), .faddr false 2 1 (.t 22), none⟩,
      ⟨(some 24), .load false 1 (.t 23), none⟩,
      ⟨(some 25), .bin .gtr (.t 24) (.c (.p (.int .i64 10000))), none⟩])
    (.cond (.t 25) (.seq (.rg [⟨(some 26), .load true 5 (.t 2), none⟩,
        ⟨none, .store 5 (.t 2) (.t 26), none⟩,
        ⟨(some 3), .mov (.c (.p (.bool false))), none⟩])
    .ret)
    .skip)))
    (.seq (.rg [⟨(some 27), .mov (.t 0), none⟩,
      ⟨(some 28), .callr 66 [(.t 27)], none⟩])
    (.seq (.seq (.rg [⟨(some 29), .mov (.t 0), none⟩,
      ⟨(some 30), .callr 80 [(.t 29), (.c (.p (.string ⟨#[93]⟩)))], none⟩])
    (.cond (.t 30) (.seq (.rg [⟨(some 31), .mov (.t 0), none⟩,
        ⟨(some 32), .nilchk .ptr (.t 31), none⟩,
        ⟨(some 33), .faddr false 2 1 (.t 32), none⟩,
        ⟨(some 34), .load false 1 (.t 33), none⟩,
        ⟨(some 35), .bin .sub (.t 34) (.c (.p (.int .i64 1))), none⟩,
        ⟨(some 36), .nilchk .ptr (.t 31), none⟩,
        ⟨(some 37), .faddr false 2 1 (.t 36), none⟩,
        ⟨none, .store 1 (.t 37) (.t 35), none⟩])
    (.seq (.rg [⟨(some 38), .load true 5 (.t 2), none⟩,
        ⟨none, .store 5 (.t 2) (.t 38), none⟩,
        ⟨(some 3), .mov (.c (.p (.bool true))), none⟩])
    .ret))
    .skip))
    (.block 0 (.loop c78L0)))))))) := rfl


theorem ValT.suffix {r x t : List UInt8} (h : ValT r (some (x, t))) : t <:+ r ∧ x.length + t.length < r.length := by
  rcases h with ⟨_, h⟩ | ⟨r2, h1, h2⟩
  · cases h
  · have h3 := h2.suffix x t rfl
    have h4 : r2 <:+ r := (List.suffix_cons 34 r2).trans (by rw [← h1]; exact List.drop_suffix _ _)
    exact ⟨h3.1.trans h4, Nat.lt_of_lt_of_le h3.2 h4.length_le⟩
/-- What the reader of elements makes of the bytes: texts and what follows the list. -/
inductive EL : List UInt8 → Option (List (List UInt8) × List UInt8) → Prop
  | bad (r : List UInt8) : ValT r none → EL r none
  | short (r x t : List UInt8) : ValT r (some (x, t)) → t.drop (nb t) = [] → EL r none
  | stop (r x t t2 : List UInt8) : ValT r (some (x, t)) → t.drop (nb t) = 93 :: t2 → EL r (some ([x], t2))
  | more (r x t t2 : List UInt8) (o : Option (List (List UInt8) × List UInt8)) : ValT r (some (x, t)) → t.drop (nb t) = 44 :: t2 → EL t2 o → EL r (o.map fun y => (x :: y.1, y.2))
theorem EL.parts {r : List UInt8} {o : Option (List (List UInt8) × List UInt8)} (h : EL r o) : (ValT r none ∧ o = none) ∨ ∃ x t, ValT r (some (x, t)) ∧ ((t.drop (nb t) = [] ∧ o = none) ∨ (∃ t2, t.drop (nb t) = 93 :: t2 ∧ o = some ([x], t2)) ∨ ∃ t2 o2, t.drop (nb t) = 44 :: t2 ∧ EL t2 o2 ∧ o = o2.map fun y => (x :: y.1, y.2)) := by
  cases h with
  | bad r h => exact .inl ⟨h, rfl⟩
  | short r x t h1 h2 => exact .inr ⟨x, t, h1, .inl ⟨h2, rfl⟩⟩
  | stop r x t t2 h1 h2 => exact .inr ⟨x, t, h1, .inr (.inl ⟨t2, h2, rfl⟩)⟩
  | more r x t t2 o h1 h2 h3 => exact .inr ⟨x, t, h1, .inr (.inr ⟨t2, o, h2, h3, rfl⟩)⟩
/-- The elements behind the opening bracket. -/
def ElT (r : List UInt8) (o : Option (List (List UInt8) × List UInt8)) : Prop :=
  (∃ t, r.drop (nb r) = 93 :: t ∧ o = some ([], t)) ∨ ((r.drop (nb r)).head? ≠ some 93 ∧ EL (r.drop (nb r)) o)

def kidsD (xs : List (Bool × List UInt8)) : List DV := xs.map fun y => .agg (txD y.1 y.2)
@[simp] theorem kidsD_length {xs : List (Bool × List UInt8)} : (kidsD xs).length = xs.length := by simp [kidsD]
theorem kidsD_plain {xs : List (Bool × List UInt8)} : plainL (kidsD xs) := plainL.mapP fun x => rfl
theorem kidsD_push {xs : List (Bool × List UInt8)} {b : Bool} {x : List UInt8} : kidsD xs ++ [.agg (txD b x)] = kidsD (xs ++ [(b, x)]) := by simp [kidsD]
def elK (d : DV) : List DV := [.p (.int .u8 91), .p (.bool false), .p (.string ⟨#[]⟩), d, .p (.slice none 0 0)]
def elV (xs : List (Bool × List UInt8)) : DV := .agg (elK (.fz 5 (kidsD xs)))
/-- What the reader of elements leaves. -/
def ElO (h : List Blk) (rb : Nat) (l : List UInt8) (o : Option (List (List UInt8) × List UInt8)) (v : DV) (h' : List Blk) : Prop :=
  match o with
  | some (xs, rest) => ∃ zs, zs.map Prod.snd = xs ∧ v = .tup [elV zs, .p (.bool true)] ∧ h' = h.set rb (rdB l (l.length - rest.length) 0)
  | none => ∃ zs p d, p ≤ l.length ∧ v = .tup [elV zs, .p (.bool false)] ∧ h' = h.set rb (rdB l p d)

theorem el_wk {h h2 : List Blk} {rb p q : Nat} {l : List UInt8} {dk : DV} {xs : List (Bool × List UInt8)} {V : Blk} {b : Bool} {t : List Blk} (hbl : rb < h.length) (ho : Own (h.set rb (rdB l p q) ++ [V]) 5 h2 dk (kidsD xs)) :
    WkV h (.tup [.agg (elK dk), .p (.bool b)]) (h2 ++ t) (.tup [elV xs, .p (.bool b)]) (h.set rb (rdB l p q)) := by
  have hp := ho.pre
  have hd : ∀ (b : Nat) (k : Blk), (h.set rb (rdB l p q))[b]? = some k → (h2 ++ t)[b]? = some k ∨ k = .dead := fun b k hb => .inl (get_pre (hp b k (get_pre hb _)) t)
  refine WkV.ofFrz (by simp) hd (fun hh => hh.set wf_rdB) fun hh => ?_
  have hf := (ho.push (x := t)).frzT hd (hh.set wf_rdB) (by simp) kidsD_plain
  exact .tup (.cons (.agg (.cons .p (.cons .p (.cons .p (.cons hf (.cons .p .nil)))))) (.cons .p .nil))

theorem ok78 {G : Nat → DV} (hG : GZ G) (h : List Blk) (rb a : Nat) (l r : List UInt8) (o : Option (List (List UInt8) × List UInt8)) (hb : h[rb]? = some (rdB l a 0)) (hr0 : l.drop (a + 1) = r) (ha : a < l.length) (hl : l.length ≤ 1000000000) (hE : ElT r o) :
    OkR Tryz.prog G 78 [.ptr rb 0 0 1] h (ElO h rb l o) := by
  refine OkR.wf fun hw => ?_
  refine OkR_by Tryz.func78 c78_ok r78_ok 68 rfl ?_
  have hbl : rb < h.length := (List.getElem?_eq_some_iff.1 hb).1
  have hgr : ∀ x t, (h.set rb x ++ t)[rb]? = some x := fun x t => get_pre (rd_set hb x) t
  have hgv : ∀ x t, (h.set rb x ++ t)[h.length]? = t[0]? := fun x t => by
    have := get_app0 (h := h.set rb x) (l := t)
    rwa [List.length_set] at this
  have hsv : ∀ x t y, (h.set rb x ++ t).set h.length y = h.set rb x ++ t.set 0 y := fun x t y => by
    have := set_app0 (h := h.set rb x) (l := t) (z := y)
    rwa [List.length_set] at this
  have hsa : ∀ t x, (h ++ t).set rb x = h.set rb x ++ t := fun t x => List.set_append_left _ _ hbl
  have hss : ∀ x y t, (h.set rb x ++ t).set rb y = h.set rb y ++ t := fun x y t => by rw [List.set_append_left _ _ (by simpa using hbl), set_set']
  obtain ⟨a1, ha1⟩ : ∃ a1, a1 = a + 1 := ⟨_, rfl⟩
  rw [← ha1] at hr0
  have w1 : IntKind.i64.wrap ((a : Int) + 1) = (a1 : Int) := by rw [ha1]; exact wrap_succ ha (by omega)
  generalize hR : ElO h rb l o = R
  rw [c78_cut]
  simp [r78, get_pre hb, rdB, hsa, hss, hgr, hgv, hsv, w1, show IntKind.i64.wrap 1 = 1 by decide]
  rw [show (Blk.cells 3 [DV.agg [DV.fz 1 (bts l), DV.p (.int .i64 a1), DV.p (.int .i64 1)]]) = rdB l a1 1 from rfl]
  refine FF_by (ok66 _ rb a1 1 l (hgr _ _) (by omega) (by omega)) ?_
  rw [hss, hr0]
  obtain ⟨p, hp⟩ : ∃ p, p = a1 + nb r := ⟨_, rfl⟩
  have hnl := nb_le r
  have hrl : r.length + a1 = l.length := by rw [← hr0]; simp; omega
  have hdp : l.drop p = r.drop (nb r) := by rw [← hr0, List.drop_drop, hr0, hp]
  rw [← hp]
  simp
  rw [ElT, ← hdp] at hE
  rcases hE with ⟨t, h93, rfl⟩ | ⟨h93, hE⟩
  · have h93' : (l.drop p).head? = some 93 := by rw [h93]; rfl
    refine FF_by (ok40y _ rb p 1 l 93 (hgr _ _) (by omega) (by omega) h93') ?_
    obtain ⟨hpl, _, _, ht⟩ := drop_cons h93
    rw [hss]
    simp [rdB, hss, hgr, hgv, hsv, show IntKind.i64.wrap 0 = 0 by decide]
    subst hR
    rw [show (Blk.cells 3 [DV.agg [DV.fz 1 (bts l), DV.p (.int .i64 ((p : Int) + 1)), DV.p (.int .i64 0)]]) = rdB l (p + 1) 0 from rfl]
    refine REr_by (.tup [elV [], .p (.bool true)]) (h.set rb (rdB l (p + 1) 0)) ?_ ?_
    · have := el_wk (dk := .p (.slice none 0 0)) (xs := []) (V := .cells 5 [.agg (elK (.p (.slice none 0 0)))]) (b := true) (t := []) (l := l) (p := p + 1) (q := 0) hbl Own.nil
      rw [List.append_nil] at this
      exact this
    · refine ⟨[], rfl, rfl, ?_⟩
      congr 2
      have := congrArg List.length ht
      simp at this
      omega
  · refine FF_by (ok40n _ rb p 1 l 93 (hgr _ _) (by omega) (by omega) h93) ?_
    simp
    clear w1 hgv hsv hsa
    have hgv : ∀ x t, (h.set rb x ++ t)[h.length]? = t[0]? := fun x t => by
      have := get_app0 (h := h.set rb x) (l := t)
      rwa [List.length_set] at this
    have hsv : ∀ x t y, (h.set rb x ++ t).set h.length y = h.set rb x ++ t.set 0 y := fun x t y => by
      have := set_app0 (h := h.set rb x) (l := t) (z := y)
      rwa [List.length_set] at this
    refine VV_fam (fun q : Nat × List Blk × DV × List (Bool × List UInt8) => ⟨fr 69 [(0, .ptr rb 0 0 1), (2, .ptr h.length 0 0 1), (3, .p (.bool false))], q.2.1⟩)
      (fun q => q.1 ≤ l.length ∧ Own (h.set rb (rdB l q.1 1) ++ [.cells 5 [.agg (elK q.2.2.1)]]) 5 q.2.1 q.2.2.1 (kidsD q.2.2.2) ∧ q.2.2.2.length ≤ q.1 ∧ ∃ o', EL (l.drop q.1) o' ∧ o = o'.map fun x => (q.2.2.2.map Prod.snd ++ x.1, x.2))
      (fun q => l.length - q.1) (p, _, .p (.slice none 0 0), []) ⟨by dsimp only; omega, Own.nil, by simp, o, hE, by cases o <;> simp⟩ (Wk.fits (by simp)) ?_
    clear h93 hdp hp hnl hrl hr0 hE
    rintro ⟨p, h2, dk, xs⟩ ⟨hpl, ho, hxl, o', hE, hO⟩ B hbk he hr
    simp only at hpl ho hxl hE hO
    have g1 : h2[rb]? = some (rdB l p 1) := ho.pre _ _ (hgr _ _)
    simp [c78L0]
    rcases hE.parts with ⟨hV, rfl⟩ | ⟨x, t, hV, hrest⟩
    · refine FF_byR (ok65 h2 rb p 1 l none g1 hpl (by omega) hV) ?_
      intro v h3 hv
      obtain ⟨kk, bb, q, hq, rfl, rfl⟩ := hv
      have ho2 := ho.setb (c := rb) (by simp; omega) (rdB l q 1)
      rw [hss] at ho2
      generalize h2.set rb (rdB l q 1) = h3 at ho2
      have g2 : h3[h.length]? = some (.cells 5 [.agg (elK dk)]) := ho2.pre _ _ (by rw [hgv]; rfl)
      have g3 : ∀ t, (h3 ++ t)[h.length]? = some (.cells 5 [.agg (elK dk)]) := fun t => get_pre g2 t
      have g4 : ∀ t, (h3 ++ t).set h.length (.cells 5 [.agg (elK dk)]) = h3 ++ t := fun t => rd_same (g3 t)
      simp only [elK] at g3 g4
      simp [g3, g4]
      refine hr _ ?_
      simp [g3]
      subst hR
      refine REr_by _ _ (el_wk (b := false) (t := [_]) hbl ho2) ?_
      rw [hO]
      exact ⟨xs, q, 1, hq, rfl, rfl⟩
    · refine FF_byR (ok65 h2 rb p 1 l _ g1 hpl (by omega) hV) ?_
      intro v h3 hv
      obtain ⟨bb, rfl, rfl⟩ := hv
      have hsx := hV.suffix
      rw [List.length_drop] at hsx
      have htq : l.drop (l.length - t.length) = t := (List.suffix_iff_eq_drop.1 (hsx.1.trans (List.drop_suffix _ _))).symm
      obtain ⟨q, hq⟩ : ∃ q, q = l.length - t.length := ⟨_, rfl⟩
      rw [← hq] at htq
      rw [← hq]
      have ho2 := ho.setb (c := rb) (by simp; omega) (rdB l q 1)
      rw [hss] at ho2
      generalize h2.set rb (rdB l q 1) = h3 at ho2
      have g2 : h3[h.length]? = some (.cells 5 [.agg (elK dk)]) := ho2.pre _ _ (by rw [hgv]; rfl)
      have g3 : ∀ t, (h3 ++ t)[h.length]? = some (.cells 5 [.agg (elK dk)]) := fun t => get_pre g2 t
      simp only [elK] at g3
      simp [g3, txD]
      refine AA_own (ho2.push (x := [_, _])) (ys := [.agg (txD bb x)]) (by simp [elemsOf]; rfl) (by simp; omega) ?_
      intro d' h4 ho4 hle4 hoth
      rw [kidsD_push] at ho4
      obtain ⟨b, rfl⟩ : ∃ b, d' = .sl b 0 (kidsD (xs ++ [(bb, x)])).length (kidsD (xs ++ [(bb, x)])).length := by
        rcases ho4.2 with ⟨_, hnil⟩ | ⟨b, hb, _⟩
        · simp [kidsD] at hnil
        · exact ⟨b, hb⟩
      generalize hm : (kidsD (xs ++ [(bb, x)])).length = m at ho4 ⊢
      have g5 : h4[h.length]? = some (.cells 5 [.agg (elK dk)]) := ho4.pre _ _ (by rw [hgv]; rfl)
      simp only [elK] at g5
      simp [g5]
      have ho5 := ho4.setb (c := h.length) (by simp) (.cells 5 [.agg (elK (.sl b 0 m m))])
      rw [hsv] at ho5
      simp only [List.set_cons_zero, elK] at ho5
      generalize h4.set h.length _ = h5 at ho5 ⊢
      have hq2 : q ≤ l.length := by omega
      refine FF_by (ok66 h5 rb q 1 l (ho5.pre _ _ (hgr _ _)) hq2 (by omega)) ?_
      rw [htq]
      obtain ⟨q2, hq3⟩ : ∃ q2, q2 = q + nb t := ⟨_, rfl⟩
      have hnl2 := nb_le t
      rw [← hq3]
      have hdq : l.drop q2 = t.drop (nb t) := by rw [hq3, ← List.drop_drop, htq]
      have hq2l : q2 ≤ l.length := by omega
      have ho6 := ho5.setb (c := rb) (by simp; omega) (rdB l q2 1)
      rw [hss] at ho6
      generalize h5.set rb (rdB l q2 1) = h6 at ho6 ⊢
      simp
      have g6 : h6[rb]? = some (rdB l q2 1) := ho6.pre _ _ (hgr _ _)
      have g7 : h6[h.length]? = some (.cells 5 [.agg (elK (.sl b 0 m m))]) := ho6.pre _ _ (by rw [hgv]; rfl)
      have g8 : h6.set h.length (.cells 5 [.agg (elK (.sl b 0 m m))]) = h6 := rd_same g7
      have g7' := g7
      simp only [elK] at g7' g8
      rw [← hdq] at hrest
      rcases hrest with ⟨hnil, rfl⟩ | ⟨t2, h93, rfl⟩ | ⟨t2, o2, h44, hE2, rfl⟩
      · refine FF_by (ok40n h6 rb q2 1 l 93 g6 (by omega) (by omega) (by rw [hnil]; simp)) ?_
        simp
        refine FF_by (ok40n h6 rb q2 1 l 44 g6 (by omega) (by omega) (by rw [hnil]; simp)) ?_
        simp [g7', g8]
        refine hr _ ?_
        simp [g7']
        subst hR
        have hw7 := el_wk (b := false) (t := []) hbl ho6
        rw [List.append_nil] at hw7
        refine REr_by _ _ hw7 ?_
        rw [hO]
        exact ⟨_, q2, 1, by omega, rfl, rfl⟩
      · refine FF_by (ok40y h6 rb q2 1 l 93 g6 (by omega) (by omega) (by rw [h93]; rfl)) ?_
        obtain ⟨hql, _, _, ht2⟩ := drop_cons h93
        have ho7 := ho6.setb (c := rb) (by simp; omega) (rdB l (q2 + 1) 1)
        rw [hss] at ho7
        have ho8 := ho7.setb (c := rb) (by simp; omega) (rdB l (q2 + 1) 0)
        rw [hss] at ho8
        rw [set_set'] at ho8
        have s1 : ∀ x y : Blk, (h6.set rb x).set rb y = h6.set rb y := fun x y => set_set'
        have s2 : ∀ x : Blk, (h6.set rb x)[rb]? = some x := fun x => rd_set g6 x
        have s3 : (h6.set rb (rdB l (q2 + 1) 0))[h.length]? = some (.cells 5 [.agg (elK (.sl b 0 m m))]) := ho8.pre _ _ (by rw [hgv]; rfl)
        have s4 := rd_same s3
        simp only [elK, rdB] at s3 s4
        simp at s3 s4
        simp [rdB, s1, s2, s3, s4, show IntKind.i64.wrap 0 = 0 by decide]
        refine hr _ ?_
        simp [s3]
        subst hR
        have hw7 := el_wk (b := true) (t := []) hbl ho8
        rw [List.append_nil] at hw7
        refine REr_by _ _ hw7 ?_
        rw [hO]
        refine ⟨_, by simp, rfl, ?_⟩
        congr 2
        dsimp only
        have := congrArg List.length ht2
        simp at this
        omega
      · refine FF_by (ok40n h6 rb q2 1 l 93 g6 (by omega) (by omega) (by rw [h44]; simp)) ?_
        simp
        refine FF_by (ok40y h6 rb q2 1 l 44 g6 (by omega) (by omega) (by rw [h44]; rfl)) ?_
        obtain ⟨hql, _, _, ht2⟩ := drop_cons h44
        have ho7 := ho6.setb (c := rb) (by simp; omega) (rdB l (q2 + 1) 1)
        rw [hss] at ho7
        simp
        refine hbk _ (q2 + 1, _, .sl b 0 m m, xs ++ [(bb, x)]) (Wk.fits (by simp)) ⟨by dsimp only; omega, ?_, by simp; omega, o2, ?_, ?_⟩ (by dsimp only; omega)
        · exact ho7
        · dsimp only; rw [ht2]; exact hE2
        · rw [hO]; cases o2 <;> simp
end Go.Proofs.YtppjcnaffphakaaGreatDoor
