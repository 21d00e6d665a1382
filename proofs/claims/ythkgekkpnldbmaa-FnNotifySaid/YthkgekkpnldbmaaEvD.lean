/- The law FnEventsEqual: the plain law, and the walk. -/
import Derived.Test.YthkgekkpnldbmaaEvC
set_option linter.unusedVariables false
set_option linter.unusedSimpArgs false
set_option maxRecDepth 100000
namespace Go.Proofs.Ythkgekkpnldbmaa
open Go Go.Den Go.Proofs


theorem bl_irrefl : ∀ a : List UInt8, Op.bytesLess a a = false
  | [] => rfl
  | x :: a => by simp [Op.bytesLess, bl_irrefl a]
theorem bl_trans : ∀ a b c : List UInt8, Op.bytesLess a b = true → Op.bytesLess b c = true → Op.bytesLess a c = true
  | _, _, [], _, h => by simp [Op.bytesLess] at h
  | _, [], _ :: _, h, _ => by simp [Op.bytesLess] at h
  | [], _ :: _, _ :: _, _, _ => rfl
  | x :: a, y :: b, z :: c, h, h' => by
    simp only [Op.bytesLess, Bool.or_eq_true, decide_eq_true_eq, Bool.and_eq_true, beq_iff_eq] at h h' ⊢
    rcases h with h | ⟨rfl, h⟩
    · rcases h' with h' | ⟨rfl, h'⟩
      · exact .inl (UInt8.lt_trans h h')
      · exact .inl h
    · rcases h' with h' | ⟨rfl, h'⟩
      · exact .inl h'
      · exact .inr ⟨rfl, bl_trans a b c h h'⟩
theorem bl_total : ∀ a b : List UInt8, Op.bytesLess a b = false → a ≠ b → Op.bytesLess b a = true
  | [], [], _, h => absurd rfl h
  | [], _ :: _, h, _ => by simp [Op.bytesLess] at h
  | _ :: _, [], _, _ => rfl
  | x :: a, y :: b, h, hne => by
    simp only [Op.bytesLess, Bool.or_eq_false_iff, decide_eq_false_iff_not, Bool.and_eq_false_iff, beq_eq_false_iff_ne] at h
    simp only [Op.bytesLess, Bool.or_eq_true, decide_eq_true_eq, Bool.and_eq_true, beq_iff_eq]
    by_cases hxy : x = y
    · subst hxy
      refine .inr ⟨rfl, bl_total a b (h.2.resolve_left (fun h => h rfl)) fun h => hne (by rw [h])⟩
    · left
      have h1 := h.1
      rw [UInt8.not_lt] at h1
      exact UInt8.lt_of_le_of_ne h1 fun h => hxy h.symm
theorem less_irrefl (a : ByteArray) : less a a = false := bl_irrefl _
theorem less_trans {a b c : ByteArray} (h : less a b = true) (h' : less b c = true) : less a c = true := bl_trans _ _ _ h h'
theorem less_total {a b : ByteArray} (h : less a b = false) (hne : a ≠ b) : less b a = true := bl_total _ _ h fun h => hne (by
  cases a; cases b; simp at h; rw [h])

theorem mem_insT {s x : ByteArray} : ∀ {l : List ByteArray}, x ∈ insT s l ↔ x = s ∨ x ∈ l
  | [] => by simp [insT]
  | y :: l => by
    simp only [insT]
    split
    · simp only [List.mem_cons, mem_insT]
      constructor <;> (rintro (h | h | h) <;> simp [h])
    · split
      · rename_i h; subst h; simp
      · simp
theorem mem_setOf {x : ByteArray} {L : List ByteArray} : x ∈ setOf L ↔ x ∈ L := by
  have : ∀ (L out : List ByteArray), x ∈ L.foldl (fun out s => insT s out) out ↔ x ∈ out ∨ x ∈ L := by
    intro L
    induction L with
    | nil => intro out; simp
    | cons s L ih =>
      intro out
      rw [List.foldl_cons, ih, mem_insT, List.mem_cons]
      constructor
      · rintro ((h | h) | h)
        · exact .inr (.inl h)
        · exact .inl h
        · exact .inr (.inr h)
      · rintro (h | h | h)
        · exact .inl (.inr h)
        · exact .inl (.inl h)
        · exact .inr h
  have := this L []
  simpa [setOf] using this
def asc (l : List ByteArray) : Prop := l.Pairwise fun a b => less a b = true
theorem asc_insT {s : ByteArray} : ∀ {l : List ByteArray}, asc l → asc (insT s l)
  | [], _ => by simp [asc, insT]
  | y :: l, h => by
    have hy := List.pairwise_cons.1 h
    simp only [insT]
    split
    · rename_i h1
      refine List.pairwise_cons.2 ⟨fun x hx => ?_, asc_insT hy.2⟩
      rcases mem_insT.1 hx with rfl | hx
      · exact h1
      · exact hy.1 x hx
    · split
      · exact h
      · rename_i h1 h2
        have h3 : less s y = true := less_total (by simpa using h1) h2
        refine List.pairwise_cons.2 ⟨fun x hx => ?_, h⟩
        rcases List.mem_cons.1 hx with rfl | hx
        · exact h3
        · exact less_trans h3 (hy.1 x hx)
theorem asc_setOf (L : List ByteArray) : asc (setOf L) := by
  have : ∀ (L out : List ByteArray), asc out → asc (L.foldl (fun out s => insT s out) out) := by
    intro L
    induction L with
    | nil => intro out h; exact h
    | cons s L ih => intro out h; exact ih _ (asc_insT h)
  exact this L [] List.Pairwise.nil
theorem asc_ext : ∀ {a b : List ByteArray}, asc a → asc b → (∀ x, x ∈ a ↔ x ∈ b) → a = b
  | [], [], _, _, _ => rfl
  | [], y :: b, _, _, h => by have := (h y).2 (by simp); simp at this
  | x :: a, [], _, _, h => by have := (h x).1 (by simp); simp at this
  | x :: a, y :: b, ha, hb, h => by
    have ha' := List.pairwise_cons.1 ha
    have hb' := List.pairwise_cons.1 hb
    have hxy : x = y := by
      rcases List.mem_cons.1 ((h x).1 (by simp)) with h1 | h1
      · exact h1
      · rcases List.mem_cons.1 ((h y).2 (by simp)) with h2 | h2
        · exact h2.symm
        · have h3 := less_trans (hb'.1 x h1) (ha'.1 y h2)
          rw [less_irrefl] at h3
          cases h3
    subst hxy
    have hnot : ∀ {l : List ByteArray}, (∀ z, z ∈ l → less x z = true) → x ∉ l := fun hl hx => by have := hl x hx; rw [less_irrefl] at this; cases this
    rw [asc_ext ha'.2 hb'.2 fun z => ?_]
    have hz := h z
    simp only [List.mem_cons] at hz
    constructor
    · intro hza
      rcases hz.1 (.inr hza) with rfl | h1
      · exact absurd hza (hnot ha'.1)
      · exact h1
    · intro hzb
      rcases hz.2 (.inr hzb) with rfl | h1
      · exact absurd hzb (hnot hb'.1)
      · exact h1
theorem setOf_eq {a b : List ByteArray} : setOf a = setOf b ↔ ∀ x, x ∈ a ↔ x ∈ b :=
  ⟨fun h x => by rw [← mem_setOf, h, mem_setOf], fun h => asc_ext (asc_setOf a) (asc_setOf b) fun x => by rw [mem_setOf, mem_setOf]; exact h x⟩

theorem nodup_addNew {ks : List ByteArray} {s : ByteArray} (h : ks.Nodup) : (addNew ks s).Nodup := by
  unfold addNew
  split
  · exact h
  · rename_i hs
    refine List.nodup_append.2 ⟨h, by simp, fun x hx y hy => ?_⟩
    simp at hy
    subst hy
    rintro rfl
    apply hs
    simp [setHas]
    exact hx
theorem nodup_foldl : ∀ (L out : List ByteArray), out.Nodup → (L.foldl addNew out).Nodup
  | [], out, h => h
  | s :: L, out, h => nodup_foldl L _ (nodup_addNew h)
/-- What has no more than a list of different ones has, has the same. -/
theorem sub_back {x : ByteArray} : ∀ {a b : List ByteArray}, a.Nodup → (∀ z, z ∈ a → z ∈ b) → b.length ≤ a.length → x ∈ b → x ∈ a
  | [], b, _, _, hl, hx => by
    have : b = [] := List.eq_nil_of_length_eq_zero (by simpa using hl)
    subst this
    exact hx
  | y :: a, b, hn, hs, hl, hx => by
    have hn' := List.nodup_cons.1 hn
    by_cases hxy : x = y
    · simp [hxy]
    · have hlt : (b.filter fun z => decide (z ≠ y)).length < b.length := List.length_filter_lt_length_iff_exists.2 ⟨y, hs y (by simp), by simp⟩
      have := sub_back (x := x) (a := a) (b := b.filter fun z => decide (z ≠ y)) hn'.2 (fun z hz => by
        have h1 := hs z (by simp [hz])
        have h2 : z ≠ y := fun h => hn'.1 (h ▸ hz)
        simp [h1, h2]) (by simp only [List.length_cons] at hl; omega) (by simp [hx, hxy])
      simp [this]
theorem len_of_sub : ∀ {a b : List ByteArray}, a.Nodup → (∀ z, z ∈ a → z ∈ b) → a.length ≤ b.length
  | [], b, _, _ => by simp
  | y :: a, b, hn, hs => by
    have hn' := List.nodup_cons.1 hn
    have hlt : (b.filter fun z => decide (z ≠ y)).length < b.length := List.length_filter_lt_length_iff_exists.2 ⟨y, hs y (by simp), by simp⟩
    have := len_of_sub (a := a) (b := b.filter fun z => decide (z ≠ y)) hn'.2 (fun z hz => by
      have h1 := hs z (by simp [hz])
      have h2 : z ≠ y := fun h => hn'.1 (h ▸ hz)
      simp [h1, h2])
    simp only [List.length_cons]
    omega
theorem evEq_spec {a b : List ByteArray} (ha : a.Nodup) (hb : b.Nodup) : evEq a b = decide (setOf a = setOf b) := by
  rw [Bool.eq_iff_iff]
  simp only [decide_eq_true_eq, setOf_eq, evEq, Bool.and_eq_true, List.all_eq_true, setHas, List.any_eq_true]
  constructor
  · rintro ⟨h1, h2⟩ x
    have hs : ∀ z, z ∈ a → z ∈ b := fun z hz => by obtain ⟨y, hy, rfl⟩ := h2 z hz; exact hy
    exact ⟨hs x, sub_back ha hs (by omega)⟩
  · intro h
    refine ⟨?_, fun x hx => ⟨x, (h x).1 hx, rfl⟩⟩
    have h1 := len_of_sub ha fun z hz => (h z).1 hz
    have h2 := len_of_sub hb fun z hz => (h z).2 hz
    omega

theorem ntEvents_nodup (l : List ByteArray) : (ntEvents l).Nodup := nodup_foldl _ _ (by simp)
theorem ntEvents_length (l : List ByteArray) : (ntEvents l).length ≤ 4 := by
  have := addNew_length ((setPlain l).take (min l.length 4))
  simp at this
  rw [ntEvents]
  omega


end Go.Proofs.Ythkgekkpnldbmaa
