/- JSON: the writer of a list of numbers. -/
import Derived.Test.YtppjcnaffphakaaGreatDoorDgB
import Derived.Test.YtppjcnaffphakaaGreatDoorSeA
set_option linter.unusedVariables false
set_option linter.unusedSimpArgs false
set_option maxRecDepth 100000
set_option maxHeartbeats 4000000
namespace Go.Proofs.YtppjcnaffphakaaGreatDoor
open Go Go.Den Go.Proofs

def c195L0 : DC :=
  (.seq (.rg [⟨(some 7), .bin .lss (.t 6) (.t 5), none⟩])
    (.seq (.cond (.t 7) .skip
    (.exit 0))
    (.seq (.block 1 (.seq (.rg [⟨(some 8), .iaddr 1 (.t 4) (.t 6), none⟩,
         ⟨(some 9), .load false 1 (.t 8), none⟩,
         ⟨(some 3), .mov (.t 9), none⟩])
    (.seq (.rg [⟨(some 10), .load false 1 (.t 1), none⟩,
         ⟨(some 11), .callr 196 [(.t 10)], none⟩])
    (.rg [⟨(some 12), .load false 1 (.t 1), none⟩,
         ⟨(some 13), .mov (.t 3), none⟩,
         ⟨(some 14), .callr 197 [(.t 12), (.t 13)], none⟩]))))
    (.rg [⟨(some 15), .bin .add (.t 6) (.c (.p (.int .i64 1))), none⟩,
        ⟨(some 6), .mov (.t 15), none⟩]))))
theorem c195_cut : c195 =
  (.seq (.rg [⟨(some 4), .load false 1 (.t 0), none⟩,
      ⟨(some 5), .lenl (.t 4), none⟩,
      ⟨(some 6), .mov (.c (.p (.int .i64 0))), none⟩])
    (.block 0 (.loop c195L0))) := rfl


theorem wset {h : List Blk} {b : Nat} {x y : Blk} : (h.set b x).set b y = h.set b y := by simp
theorem wget {h : List Blk} {b : Nat} (hb : b < h.length) (x : Blk) : (h.set b x)[b]? = some x := by simp [hb]
/-- The writer: its bytes, whether something stands there. -/
def wB (dk : DV) (b : Bool) : Blk := .cells 3 [.agg [.p (.bool false), dk, .p (.bool b)]]
def Wr (h0 : List Blk) (wb : Nat) (h : List Blk) (l : List UInt8) (b : Bool) : Prop := ∃ dk, Own (h0.set wb (wB dk b)) 1 h dk (bts l)
theorem Own.isl {h0 h : List Blk} {d : DV} {l : List UInt8} (ho : Own h0 1 h d (bts l)) (hne : l ≠ []) : ∃ b m, d = .sl b 0 m m := by
  rcases ho.2 with ⟨_, hnil⟩ | ⟨b, hb, _⟩
  · simp [bts] at hnil
    exact absurd hnil hne
  · exact ⟨b, _, hb⟩
theorem ok196 {G : Nat → DV} (h0 h : List Blk) (wb : Nat) (l : List UInt8) (b : Bool) (hwb : wb < h0.length) (hw : Wr h0 wb h l b) (hl : l.length ≤ 1000000) :
    OkR Tryz.prog G 196 [.ptr wb 0 0 1] h fun v h' => v = .tup [] ∧ Wr h0 wb h' (if b = true then l ++ [44] else l) true ∧ h.length ≤ h'.length := by
  obtain ⟨dk, ho⟩ := hw
  have g1 : h[wb]? = some (wB dk b) := ho.pre _ _ (wget hwb _)
  refine OkR_by Tryz.func196 c196_ok r196_ok 17 rfl ?_
  cases b with
  | false =>
    simp only [wB] at g1
    simp [c196, r196, g1]
    have ho2 := ho.setb (c := wb) (by simpa using hwb) (wB dk true)
    rw [wset] at ho2
    exact REr_by _ _ WkV.refl ⟨rfl, ⟨dk, ho2⟩, by simp⟩
  | true =>
    simp only [wB] at g1
    simp [c196, r196, g1]
    refine AA_own ho.push (ys := bts [44]) (by simp [elemsOf, bts, byteD]) (by simp; omega) ?_
    intro d2 h2 ho2 hle2 _
    rw [bts_append] at ho2
    have g2 : h2[wb]? = some (wB dk true) := ho2.pre _ _ (wget hwb _)
    obtain ⟨c, m, rfl⟩ := Own.isl ho2 (by simp)
    have ho3 := ho2.setb (c := wb) (by simpa using hwb) (wB (.sl c 0 m m) true)
    rw [wset] at ho3
    have g3 : ∀ x : Blk, (h2.set wb x)[wb]? = some x := fun x => wget (List.getElem?_eq_some_iff.1 g2).1 x
    simp only [wB] at g2
    simp [g2, g3]
    exact REr_by _ _ WkV.refl ⟨rfl, ⟨_, ho3⟩, by simp at hle2 ⊢; omega⟩
theorem ok197 {G : Nat → DV} (h0 h : List Blk) (wb : Nat) (l : List UInt8) (b : Bool) (n : Int) (hwb : wb < h0.length) (hw : Wr h0 wb h l b) (hl : l.length ≤ 1000000) (hn : I64 n) :
    OkR Tryz.prog G 197 [.ptr wb 0 0 1, .p (.int .i64 n)] h fun v h' => v = .tup [] ∧ Wr h0 wb h' (l ++ decI n) b ∧ h.length ≤ h'.length := by
  obtain ⟨dk, ho⟩ := hw
  have g1 : h[wb]? = some (wB dk b) := ho.pre _ _ (wget hwb _)
  refine OkR_by Tryz.func197 c197_ok r197_ok 11 rfl ?_
  simp only [wB] at g1
  simp [c197, r197, g1]
  refine FF_byR (ok199 _ h dk l n ho hn hl) ?_
  rintro d2 h2 ⟨ho2, hle2⟩
  have g2 : h2[wb]? = some (wB dk b) := ho2.pre _ _ (wget hwb _)
  have hdn : decI n ≠ [] := by
    rw [decI_eq]
    split
    · simp
    · exact dd_ne _
  obtain ⟨c, m, rfl⟩ := Own.isl ho2 (by simp [hdn])
  have ho3 := ho2.setb (c := wb) (by simpa using hwb) (wB (.sl c 0 m m) b)
  rw [wset] at ho3
  simp only [wB] at g2
  simp [g2]
  exact REr_by _ _ WkV.refl ⟨rfl, ⟨_, ho3⟩, by simp; omega⟩
/-- Numbers with commas between. -/
def jnI : List Int → List UInt8
  | [] => []
  | x :: l => decI x ++ (l.map fun y => 44 :: decI y).flatten
theorem jnI_push {l : List Int} {x : Int} : jnI (l ++ [x]) = (if l = [] then [] else jnI l ++ [44]) ++ decI x := by
  cases l with
  | nil => simp [jnI]
  | cons y l => simp [jnI]
theorem jnI_len : ∀ l : List Int, (∀ n, n ∈ l → I64 n) → (jnI l).length ≤ 22 * l.length
  | [], _ => by simp [jnI]
  | x :: l, h => by
    have h1 := decI_len x (h x (by simp))
    have h2 : ∀ l : List Int, (∀ n, n ∈ l → I64 n) → ((l.map fun y => 44 :: decI y).flatten).length ≤ 22 * l.length := by
      intro l
      induction l with
      | nil => simp
      | cons y l ih =>
        intro h
        have h3 := decI_len y (h y (by simp))
        have h4 := ih fun n hn => h n (by simp [hn])
        simp only [List.map_cons, List.flatten_cons, List.length_append, List.length_cons]
        omega
    have h3 := h2 l fun n hn => h n (by simp [hn])
    simp only [jnI, List.length_append, List.length_cons]
    omega
theorem ok195 {G : Nat → DV} (h0 h : List Blk) (wb lb pb : Nat) (l : List UInt8) (ns : List Int) (hwb : wb < h0.length) (hlw : lb ≠ wb) (hpw : pb ≠ wb) (hlb : h0[lb]? = some (.cells 1 [.fz 1 (ints ns)])) (hpb : h0[pb]? = some (.cells 1 [.ptr wb 0 0 1]))
    (hw : Wr h0 wb h l false) (hl : l.length ≤ 1000) (hn : ∀ n, n ∈ ns → I64 n) (hN : ns.length ≤ 1000) :
    OkR Tryz.prog G 195 [.ptr lb 0 0 1, .ptr pb 0 0 1] h fun v h' => v = .tup [] ∧ Wr h0 wb h' (l ++ jnI ns) (decide (ns ≠ [])) ∧ h.length ≤ h'.length := by
  have gl : ∀ h' l b, Wr h0 wb h' l b → h'[lb]? = some (.cells 1 [.fz 1 (ints ns)]) := fun h' l b ⟨dk, ho⟩ => ho.pre _ _ (by rw [List.getElem?_set_ne (Ne.symm hlw)]; exact hlb)
  have gp : ∀ h' l b, Wr h0 wb h' l b → h'[pb]? = some (.cells 1 [.ptr wb 0 0 1]) := fun h' l b ⟨dk, ho⟩ => ho.pre _ _ (by rw [List.getElem?_set_ne (Ne.symm hpw)]; exact hpb)
  refine OkR_by Tryz.func195 c195_ok r195_ok 14 rfl ?_
  generalize hR : (fun (v : DV) (h' : List Blk) => v = .tup [] ∧ Wr h0 wb h' (l ++ jnI ns) (decide (ns ≠ [])) ∧ h.length ≤ h'.length) = R
  have gl0 := gl _ _ _ hw
  rw [c195_cut]
  simp [r195, gl0]
  refine VV_fam (fun q : Nat × List Blk => ⟨fr 16 [(1, .ptr pb 0 0 1), (4, .fz 1 (ints ns)), (5, .p (.int .i64 ns.length)), (6, .p (.int .i64 q.1))], q.2⟩)
    (fun q => q.1 ≤ ns.length ∧ Wr h0 wb q.2 (l ++ jnI (ns.take q.1)) (decide (ns.take q.1 ≠ [])) ∧ h.length ≤ q.2.length) (fun q => ns.length - q.1) (0, h) ⟨by simp, by simpa [jnI] using hw, Nat.le_refl _⟩ (Wk.fits (by simp)) ?_
  rintro ⟨i, h2⟩ ⟨hi, hw2, hle⟩ B hbk he hr
  simp only at hi hw2 hle
  by_cases hlt : i < ns.length
  · have e5 : (ints ns)[i]?.getD .any = .p (.int .i64 ns[i]) := ints_get hlt
    have e4 : IntKind.i64.wrap ((i : Int) + 1) = ((i + 1 : Nat) : Int) := wrap_succ hlt (by omega)
    have hltI : (i : Int) < (ns.length : Int) := by omega
    have hjl := jnI_len (ns.take i) fun n hn' => hn n (List.mem_of_mem_take hn')
    rw [List.length_take] at hjl
    have gp2 := gp _ _ _ hw2
    simp [c195L0, hlt, hltI, e5, gp2]
    refine FF_byR (ok196 h0 h2 wb _ _ hwb hw2 (by simp only [List.length_append]; omega)) ?_
    rintro v h3 ⟨rfl, hw3, hl3⟩
    have gp3 := gp _ _ _ hw3
    simp [gp3]
    refine FF_byR (ok197 h0 h3 wb _ _ ns[i] hwb hw3 (by split <;> simp only [List.length_append, List.length_cons, List.length_nil] <;> omega) (hn _ (List.getElem_mem hlt))) ?_
    rintro v h4 ⟨rfl, hw4, hl4⟩
    have ef : (if decide (ns.take i ≠ []) = true then l ++ jnI (ns.take i) ++ [44] else l ++ jnI (ns.take i)) ++ decI ns[i] = l ++ jnI (ns.take (i + 1)) := by
      rw [List.take_succ_eq_append_getElem hlt, jnI_push]
      by_cases hz : ns.take i = []
      · rw [if_neg (by simp [hz]), if_pos hz, hz]; simp [jnI]
      · rw [if_pos (by simp [hz]), if_neg hz]; simp
    rw [ef] at hw4
    have eb : decide (ns.take (i + 1) ≠ []) = true := by simp; intro hh; rw [hh] at hlt; simp at hlt
    simp [e4]
    refine hbk _ (i + 1, h4) ?_ ⟨hlt, by dsimp only; rw [eb]; exact hw4, by dsimp only; omega⟩ (by dsimp only; omega)
    exact Wk.fits (by simp)
  · have : i = ns.length := by omega
    subst this
    simp [c195L0]
    refine he _ _ ?_
    simp
    subst hR
    rw [List.take_length] at hw2
    exact REr_by _ _ WkV.refl ⟨rfl, hw2, hle⟩
theorem ok198 {G : Nat → DV} (h0 h : List Blk) (wb lb pb : Nat) (l : List UInt8) (b : Bool) (ns : List Int) (hwb : wb < h0.length) (hlw : lb ≠ wb) (hpw : pb ≠ wb) (hlb : h0[lb]? = some (.cells 1 [.fz 1 (ints ns)])) (hpb : h0[pb]? = some (.cells 1 [.ptr wb 0 0 1]))
    (hw : Wr h0 wb h l b) (hl : l.length ≤ 900) (hn : ∀ n, n ∈ ns → I64 n) (hN : ns.length ≤ 1000) :
    OkR Tryz.prog G 198 [.ptr wb 0 0 1, .p (.int .u8 91), .p (.int .u8 93), .fn (.func 195) [] [.ptr lb 0 0 1, .ptr pb 0 0 1]] h fun v h' => v = .tup [] ∧ Wr h0 wb h' (l ++ 91 :: jnI ns ++ [93]) true ∧ h.length ≤ h'.length := by
  obtain ⟨dk, ho⟩ := hw
  have g1 : h[wb]? = some (wB dk b) := ho.pre _ _ (wget hwb _)
  refine OkR_by Tryz.func198 c198_ok r198_ok 32 rfl ?_
  generalize hR : (fun (v : DV) (h' : List Blk) => v = .tup [] ∧ Wr h0 wb h' (l ++ 91 :: jnI ns ++ [93]) true ∧ h.length ≤ h'.length) = R
  simp only [wB] at g1
  simp [c198, r198, g1]
  refine AA_own ho.push (ys := bts [91]) (by simp [elemsOf, bts, byteD]) (by simp; omega) ?_
  intro d2 h2 ho2 hle2 _
  rw [bts_append] at ho2
  have g2 : h2[wb]? = some (wB dk b) := ho2.pre _ _ (wget hwb _)
  obtain ⟨c, m, rfl⟩ := Own.isl ho2 (by simp)
  have ho3 := ho2.setb (c := wb) (by simpa using hwb) (wB (.sl c 0 m m) false)
  rw [wset] at ho3
  have g3 : ∀ x : Blk, (h2.set wb x)[wb]? = some x := fun x => wget (List.getElem?_eq_some_iff.1 g2).1 x
  simp only [wB] at g2
  simp [g2, g3]
  refine CV_by (by kernel_rfl) ?_
  simp
  have hjl := jnI_len ns hn
  refine FF_byR (ok195 h0 _ wb lb pb _ ns hwb hlw hpw hlb hpb ⟨_, ho3⟩ (by simp; omega) hn hN) ?_
  rintro v h4 ⟨rfl, ⟨dk4, ho4⟩, hl4⟩
  have g4 : h4[wb]? = some (wB dk4 (decide (ns ≠ []))) := ho4.pre _ _ (wget hwb _)
  simp only [wB] at g4
  simp [g4]
  refine AA_own ho4.push (ys := bts [93]) (by simp [elemsOf, bts, byteD]) (by simp; omega) ?_
  intro d5 h5 ho5 hle5 _
  rw [bts_append] at ho5
  have g5 : h5[wb]? = some (wB dk4 (decide (ns ≠ []))) := ho5.pre _ _ (wget hwb _)
  obtain ⟨c5, m5, rfl⟩ := Own.isl ho5 (by simp)
  have ho6 := ho5.setb (c := wb) (by simpa using hwb) (wB (.sl c5 0 m5 m5) true)
  rw [wset] at ho6
  have g6 : ∀ x : Blk, (h5.set wb x)[wb]? = some x := fun x => wget (List.getElem?_eq_some_iff.1 g5).1 x
  simp only [wB] at g5
  simp at g5
  simp [g5, g6]
  subst hR
  have e : l ++ [91] ++ jnI ns ++ [93] = l ++ 91 :: jnI ns ++ [93] := by simp
  rw [e] at ho6
  exact REr_by _ _ WkV.refl ⟨rfl, ⟨.sl c5 0 m5 m5, ho6⟩, by simp at hl4 hle2 hle5 ⊢; omega⟩
theorem ok194 {G : Nat → DV} (h0 h : List Blk) (wb lb pb : Nat) (l : List UInt8) (b : Bool) (ns : List Int) (hwb : wb < h0.length) (hlw : lb ≠ wb) (hpw : pb ≠ wb) (hlb : h0[lb]? = some (.cells 1 [.fz 1 (ints ns)])) (hpb : h0[pb]? = some (.cells 1 [.ptr wb 0 0 1]))
    (hw : Wr h0 wb h l b) (hl : l.length ≤ 900) (hn : ∀ n, n ∈ ns → I64 n) (hN : ns.length ≤ 1000) :
    OkR Tryz.prog G 194 [.ptr wb 0 0 1, .fn (.func 195) [] [.ptr lb 0 0 1, .ptr pb 0 0 1]] h fun v h' => v = .tup [] ∧ Wr h0 wb h' (l ++ 91 :: jnI ns ++ [93]) true ∧ h.length ≤ h'.length := by
  refine OkR_by Tryz.func194 c194_ok r194_ok 5 rfl ?_
  simp [c194, r194]
  have c := ok198 (G := G) h0 h wb lb pb l b ns hwb hlw hpw hlb hpb hw hl hn hN
  simp at c
  refine FF_byR c ?_
  rintro v h1 ⟨rfl, hw1, hl1⟩
  simp
  exact REr_by _ _ WkV.refl ⟨rfl, hw1, hl1⟩
/-- A list of numbers, put by itself. -/
theorem ok193 {G : Nat → DV} (h : List Blk) (wb : Nat) (ns : List Int) (hwb : h[wb]? = some (wB (.p (.slice none 0 0)) false)) (hn : ∀ n, n ∈ ns → I64 n) (hN : ns.length ≤ 1000) :
    OkR Tryz.prog G 193 [.fz 1 (ints ns), .ptr wb 0 0 1] h fun v h' => v = .tup [] ∧ Wr h wb h' (91 :: jnI ns ++ [93]) true ∧ h.length ≤ h'.length := by
  refine OkR_by Tryz.func193 c193_ok r193_ok 5 rfl ?_
  have hlt : wb < h.length := (List.getElem?_eq_some_iff.1 hwb).1
  simp [c193, r193]
  have c := ok194 (G := G) (h ++ [.cells 1 [.fz 1 (ints ns)], .cells 1 [.ptr wb 0 0 1]]) (h ++ [.cells 1 [.fz 1 (ints ns)], .cells 1 [.ptr wb 0 0 1]]) wb h.length (h.length + 1) [] false ns (by simp; omega) (by omega) (by omega) (by simp) (by simp)
    ⟨.p (.slice none 0 0), by
      have e : (h ++ [Blk.cells 1 [.fz 1 (ints ns)], .cells 1 [.ptr wb 0 0 1]]).set wb (wB (.p (.slice none 0 0)) false) = h ++ [.cells 1 [.fz 1 (ints ns)], .cells 1 [.ptr wb 0 0 1]] := by
        rw [List.set_append_left _ _ hlt]
        obtain ⟨h1, h2⟩ := List.getElem?_eq_some_iff.1 hwb
        rw [← h2, List.set_getElem_self h1]
      rw [e]
      exact Own.nil⟩ (by simp) hn hN
  simp at c
  refine FF_byR c ?_
  rintro v h1 ⟨rfl, ⟨dk, ho⟩, hl1⟩
  simp
  rw [List.set_append_left _ _ hlt] at ho
  exact REr_by _ _ WkV.refl ⟨rfl, ⟨dk, by simpa using ho.base (HPre.append _ _)⟩, by omega⟩
end Go.Proofs.YtppjcnaffphakaaGreatDoor
