/- The library: contracts of functions over denoted values (X). -/
import Derived.Test.YtbbafeocmchlnaaDenXe
set_option linter.unusedVariables false
set_option linter.unusedSimpArgs false
set_option linter.unusedSectionVars false
set_option linter.unnecessarySimpa false
namespace Go.Den
open Go

/-- The block of a slice. -/
def inBlk (d : DV) (i : Nat) : Prop := match d with
  | .sl b _ _ _ => i = b
  | _ => False
/-- A slice of these elements that owns its block, or nil. -/
def SlS (sz : Nat) (h : List Blk) (d : DV) (els : List DV) : Prop :=
  (d = .p (.slice none 0 0) ∧ els = []) ∨ ∃ b, d = .sl b 0 els.length els.length ∧ h[b]? = some (.cells sz els)
theorem SlS.nil {sz : Nat} {h : List Blk} : SlS sz h (.p (.slice none 0 0)) [] := .inl ⟨rfl, rfl⟩
/-- What an append to d keeps, of which d' came. -/
structure Keep (h h' : List Blk) (d d' : DV) : Prop where
  len : h.length ≤ h'.length
  old : ∀ i, i < h.length → ¬ inBlk d i → h'[i]? = h[i]?
  new : ∀ i, inBlk d' i → inBlk d i ∨ h.length ≤ i
theorem vc_slS {P : Program} {G : Nat → DV} {ev : Opd → DV} {sz bytes : Nat} {dx dy : DV} {x y : Opd} {h : List Blk} {K : DV → List Blk → Prop} {els ys : List DV} (hx : ev x = dx) (hy' : ev y = dy) (ho : SlS sz h dx els) (hy : elemsOf h sz dy = some ys) (hb : (els.length + ys.length) * bytes ≤ 140737488355328)
    (hK : ∀ d' h', SlS sz h' d' (els ++ ys) → Keep h h' dx d' → K d' h') : vcO P G (.app sz bytes x y) ev h K := by
  simp only [vcO, hx, hy', hy]
  rcases ho with ⟨rfl, rfl⟩ | ⟨b, rfl, h1⟩
  · simp only [List.nil_append] at hK
    refine ⟨by simpa using hb, fun h2 => ?_, fun h2 => ?_⟩
    · subst h2
      exact hK _ _ .nil ⟨Nat.le_refl _, fun i h1 h2 => rfl, fun i h => .inl h⟩
    · refine hK _ _ (.inr ⟨h.length, rfl, by simp⟩) ⟨by simp, fun i h1 h2 => by rw [List.getElem?_append_left h1], fun i h => .inr ?_⟩
      simp only [inBlk] at h
      omega
  · have hlt : b < h.length := (List.getElem?_eq_some_iff.1 h1).1
    simp only [h1]
    refine ⟨trivial, trivial, hb, trivial, Nat.le_refl _, .inl trivial, ?_⟩
    refine hK _ _ (.inr ⟨b, by simp, by simp [hlt]⟩) ⟨by simp, fun i h2 h3 => ?_, fun i h => .inl h⟩
    have h4 : b ≠ i := fun h => h3 h.symm
    rw [List.getElem?_set_ne h4]
section
variable {P : Program} {G : Nat → DV} {n : List Blk} {sz bytes : Nat} {dx dy : DV} {dst : Option Nat} {t : List DV} {h : List Blk} {st : List Fr} {Q : DX → St → Prop} {els ys : List DV}
theorem AA_slS {l : List DOper} (ho : SlS sz h dx els) (hy : elemsOf h sz dy = some ys) (hb : (els.length + ys.length) * bytes ≤ 140737488355328)
    (hK : ∀ d' h', SlS sz h' d' (els ++ ys) → Keep h h' dx d' → KK P G n dst l t st Q d' h') : AA P G n sz bytes dx dy dst l t h st Q := ⟨vc_slS rfl rfl ho hy hb hK⟩
theorem DA_slS {fr : List Nat} {l : List DDOp} {Hs : List (List Blk)} (ho : SlS sz h dx els) (hy : elemsOf h sz dy = some ys) (hb : (els.length + ys.length) * bytes ≤ 140737488355328)
    (hK : ∀ d' h', SlS sz h' d' (els ++ ys) → Keep h h' dx d' → DH P G n dst fr l t Hs h st Q d' h') : DA P G n sz bytes dx dy dst fr l t Hs h st Q := ⟨vc_slS rfl rfl ho hy hb hK⟩
end

theorem SlS.elems {sz : Nat} {h : List Blk} {d : DV} {els : List DV} (ho : SlS sz h d els) : elemsOf h sz d = some els := by
  rcases ho with ⟨rfl, rfl⟩ | ⟨b, rfl, h3⟩
  · rfl
  · simp [elemsOf, h3]
theorem SlS.slice {sz : Nat} {h : List Blk} {d : DV} {els : List DV} (ho : SlS sz h d els) : sliceOf h sz d = some els := by
  rcases ho with ⟨rfl, rfl⟩ | ⟨b, rfl, h3⟩
  · rfl
  · simp [sliceOf, elemsOf, h3]
theorem SlS.blk {sz : Nat} {h : List Blk} {d : DV} {els : List DV} (ho : SlS sz h d els) {i : Nat} (hi : inBlk d i) : h[i]? = some (.cells sz els) := by
  rcases ho with ⟨rfl, rfl⟩ | ⟨b, rfl, h3⟩
  · exact hi.elim
  · cases hi; exact h3
theorem SlS.lt {sz : Nat} {h : List Blk} {d : DV} {els : List DV} (ho : SlS sz h d els) {i : Nat} (hi : inBlk d i) : i < h.length := (List.getElem?_eq_some_iff.1 (ho.blk hi)).1
theorem SlS.of {sz : Nat} {h h' : List Blk} {d : DV} {els : List DV} (ho : SlS sz h d els) (he : ∀ i, inBlk d i → h'[i]? = h[i]?) : SlS sz h' d els := by
  rcases ho with h1 | ⟨b, rfl, h3⟩
  · exact .inl h1
  · exact .inr ⟨b, rfl, by rw [he b rfl, h3]⟩

/-- The buffer in block bb (a structure with one field, a slice) holds these bytes. -/
structure BufS (h : List Blk) (bb : Nat) (d : DV) (l : List UInt8) : Prop where
  at_ : h[bb]? = some (.cells 1 [.agg [d]])
  sl : SlS 1 h d (bts l)
  ne : ¬ inBlk d bb
theorem BufS.lt {h : List Blk} {bb : Nat} {d : DV} {l : List UInt8} (hs : BufS h bb d l) : bb < h.length := (List.getElem?_eq_some_iff.1 hs.at_).1
/-- What a change of the buffer keeps. -/
structure BufK (h h' : List Blk) (bb : Nat) (d d' : DV) : Prop where
  len : h.length ≤ h'.length
  old : ∀ i, i < h.length → i ≠ bb → ¬ inBlk d i → h'[i]? = h[i]?
  new : ∀ i, inBlk d' i → inBlk d i ∨ h.length ≤ i
theorem BufK.refl {h : List Blk} {bb : Nat} {d : DV} : BufK h h bb d d := ⟨Nat.le_refl _, fun _ _ _ _ => rfl, fun _ h => .inl h⟩
theorem BufK.trans {h1 h2 h3 : List Blk} {bb : Nat} {d1 d2 d3 : DV} (a : BufK h1 h2 bb d1 d2) (b : BufK h2 h3 bb d2 d3) : BufK h1 h3 bb d1 d3 := by
  refine ⟨Nat.le_trans a.len b.len, fun i h1 h2 h3 => ?_, fun i h => ?_⟩
  · rw [b.old i (Nat.lt_of_lt_of_le h1 a.len) h2 fun h => ?_, a.old i h1 h2 h3]
    rcases a.new i h with h | h
    · exact h3 h
    · omega
  · rcases b.new i h with h | h
    · exact a.new i h
    · exact .inr (Nat.le_trans a.len h)
/-- Blocks that are laid in front. -/
theorem BufK.pre {h x h' : List Blk} {bb : Nat} {d d' : DV} (a : BufK (h ++ x) h' bb d d') : BufK h h' bb d d' := by
  refine ⟨Nat.le_trans (by simp) a.len, fun i h1 h2 h3 => ?_, fun i h => ?_⟩
  · rw [a.old i (by simp; omega) h2 h3, List.getElem?_append_left h1]
  · rcases a.new i h with h | h
    · exact .inl h
    · exact .inr (Nat.le_trans (by simp) h)
theorem BufS.push {h x : List Blk} {bb : Nat} {d : DV} {l : List UInt8} (hs : BufS h bb d l) : BufS (h ++ x) bb d l :=
  ⟨by rw [List.getElem?_append_left hs.lt]; exact hs.at_, hs.sl.of fun i hi => List.getElem?_append_left (hs.sl.lt hi), hs.ne⟩
/-- Appended, and stored. -/
theorem BufS.store {h h' : List Blk} {bb : Nat} {d d' : DV} {l u : List UInt8} (hs : BufS h bb d l) (h1 : SlS 1 h' d' (bts l ++ bts u)) (h2 : Keep h h' d d') : BufS (h'.set bb (.cells 1 [.agg [d']])) bb d' (l ++ u) ∧ BufK h (h'.set bb (.cells 1 [.agg [d']])) bb d d' := by
  have hne : ¬ inBlk d' bb := fun h => by
    rcases h2.new bb h with h | h
    · exact hs.ne h
    · have := hs.lt; omega
  have hlt : bb < h'.length := Nat.lt_of_lt_of_le hs.lt h2.len
  refine ⟨⟨by simp [hlt], ?_, hne⟩, by simpa using h2.len, fun i h3 h4 h5 => ?_, h2.new⟩
  · have : bts (l ++ u) = bts l ++ bts u := by simp [bts]
    rw [this]
    refine h1.of fun i hi => ?_
    rw [List.getElem?_set_ne]
    rintro rfl
    exact hne hi
  · rw [List.getElem?_set_ne (Ne.symm h4)]
    exact h2.old i h3 h5
/-- What a function that puts these bytes into the buffer leaves. -/
def BufP (h : List Blk) (bb : Nat) (d : DV) (l : List UInt8) (v : DV) (h' : List Blk) : Prop := v = .tup [] ∧ ∃ d', BufS h' bb d' l ∧ BufK h h' bb d d'

/-- The bytes of an array's beginning. -/
theorem elems_sa {h x : List Blk} {z : Nat} {u : List UInt8} {r : List DV} {c : Nat} : elemsOf (h ++ .cells z [.agg (bts u ++ r)] :: x) 1 (.sa false 1 h.length 0 0 u.length c 1) = some (bts u) := by
  simp [elemsOf, sub]
  apply List.ext_getElem
  · simp
  · intro i h1 h2
    simp at h1 h2
    simp [h2, List.getElem?_append]

end Go.Den
