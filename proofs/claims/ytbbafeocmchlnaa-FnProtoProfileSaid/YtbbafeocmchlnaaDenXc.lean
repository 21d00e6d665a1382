/- The library: contracts of functions over denoted values (X). -/
import Derived.Test.YtbbafeocmchlnaaDenXa
import Derived.WideShapes
import Derived.Test.YtbbafeocmchlnaaDenXb
set_option linter.unusedVariables false
set_option linter.unusedSimpArgs false
set_option linter.unusedSectionVars false
set_option linter.unnecessarySimpa false
namespace Go.Den
open Go

/-- Append of one, or of some, to a slice that the call made for itself. -/
theorem AA_lits {P : Program} {G : Nat → DV} {n h1 : List Blk} {sz bytes : Nat} {dx : DV} {vs : List DV} {m : Nat} {dst : Option Nat} {l : List DOper} {t : List DV} {h : List Blk} {st : List Fr} {Q : DX → St → Prop} {els : List DV} (ho : Own h1 sz h dx els) (hm : m = vs.length) (hb : (els.length + m) * bytes ≤ 140737488355328)
    (hK : ∀ d' h', Own h1 sz h' d' (els ++ vs) → h.length < h'.length → (∀ d2 sz2 els2, Own h1 sz2 h d2 els2 → apart dx d2 → Own h1 sz2 h' d2 els2 ∧ apart d' d2) → KK P G n dst l t st Q d' h') : AA P G n sz bytes dx (.sl h.length 0 m m) dst l t (h ++ [.cells sz vs]) st Q := by
  subst hm
  refine AA_own ho.push (ys := vs) (by simp [elemsOf]) hb fun d' h' h2 h3 h4 => hK d' h' h2 (by simp at h3; omega) fun d2 sz2 els2 hd ha => h4 d2 sz2 els2 hd.push ha
theorem AA_lit1 {P : Program} {G : Nat → DV} {n h1 : List Blk} {sz bytes : Nat} {dx v : DV} {dst : Option Nat} {l : List DOper} {t : List DV} {h : List Blk} {st : List Fr} {Q : DX → St → Prop} {els : List DV} (ho : Own h1 sz h dx els) (hb : (els.length + 1) * bytes ≤ 140737488355328)
    (hK : ∀ d' h', Own h1 sz h' d' (els ++ [v]) → h.length < h'.length → (∀ d2 sz2 els2, Own h1 sz2 h d2 els2 → apart dx d2 → Own h1 sz2 h' d2 els2 ∧ apart d' d2) → KK P G n dst l t st Q d' h') : AA P G n sz bytes dx (.sl h.length 0 1 1) dst l t (h ++ [.cells sz [v]]) st Q := AA_lits ho rfl hb hK
theorem DA_lits {P : Program} {G : Nat → DV} {n h1 : List Blk} {sz bytes : Nat} {dx : DV} {vs : List DV} {m : Nat} {dst : Option Nat} {fr : List Nat} {l : List DDOp} {t : List DV} {Hs : List (List Blk)} {h : List Blk} {st : List Fr} {Q : DX → St → Prop} {els : List DV} (ho : Own h1 sz h dx els) (hm : m = vs.length) (hb : (els.length + m) * bytes ≤ 140737488355328)
    (hK : ∀ d' h', Own h1 sz h' d' (els ++ vs) → h.length < h'.length → (∀ d2 sz2 els2, Own h1 sz2 h d2 els2 → apart dx d2 → Own h1 sz2 h' d2 els2 ∧ apart d' d2) → DH P G n dst fr l t Hs (h ++ [.cells sz vs]) st Q d' h') : DA P G n sz bytes dx (.sl h.length 0 m m) dst fr l t Hs (h ++ [.cells sz vs]) st Q := by
  subst hm
  refine DA_own ho.push (ys := vs) (by simp [elemsOf]) hb fun d' h' h2 h3 h4 => hK d' h' h2 (by simp at h3; omega) fun d2 sz2 els2 hd ha => h4 d2 sz2 els2 hd.push ha
theorem DA_lit1 {P : Program} {G : Nat → DV} {n h1 : List Blk} {sz bytes : Nat} {dx v : DV} {dst : Option Nat} {fr : List Nat} {l : List DDOp} {t : List DV} {Hs : List (List Blk)} {h : List Blk} {st : List Fr} {Q : DX → St → Prop} {els : List DV} (ho : Own h1 sz h dx els) (hb : (els.length + 1) * bytes ≤ 140737488355328)
    (hK : ∀ d' h', Own h1 sz h' d' (els ++ [v]) → h.length < h'.length → (∀ d2 sz2 els2, Own h1 sz2 h d2 els2 → apart dx d2 → Own h1 sz2 h' d2 els2 ∧ apart d' d2) → DH P G n dst fr l t Hs (h ++ [.cells sz [v]]) st Q d' h') : DA P G n sz bytes dx (.sl h.length 0 1 1) dst fr l t Hs (h ++ [.cells sz [v]]) st Q := DA_lits ho rfl hb hK

@[simp] theorem set_app0 {h l : List Blk} {z : Blk} : (h ++ l).set h.length z = h ++ l.set 0 z := by rw [List.set_append_right _ _ (Nat.le_refl _), Nat.sub_self]
@[simp] theorem set_app {h l : List Blk} {k : Nat} {z : Blk} : (h ++ l).set (h.length + k) z = h ++ l.set k z := by rw [List.set_append_right _ _ (by omega), Nat.add_sub_cancel_left]
@[simp] theorem get_app0 {h l : List Blk} : (h ++ l)[h.length]? = l[0]? := by rw [List.getElem?_append_right (Nat.le_refl _), Nat.sub_self]
@[simp] theorem get_app {h l : List Blk} {k : Nat} : (h ++ l)[h.length + k]? = l[k]? := by rw [List.getElem?_append_right (by omega), Nat.add_sub_cancel_left]
theorem get_pre {h : List Blk} {b : Nat} {k : Blk} (hb : h[b]? = some k) (l : List Blk) : (h ++ l)[b]? = some k := HPre.append h l b k hb

@[simp] theorem size_mk (a : Array UInt8) : (ByteArray.mk a).size = a.size := rfl

/-- A frame of n slots, some of them told. -/
@[simp] def fr (n : Nat) (l : List (Nat × DV)) : List DV := l.foldl (fun t p => sS t p.1 p.2) (List.replicate n .any)

/-- Texts. -/
def strs (l : List ByteArray) : List DV := l.map fun s => .p (.string s)
@[simp] theorem strs_length {l : List ByteArray} : (strs l).length = l.length := by simp [strs]
@[simp] theorem strs_nil : strs [] = [] := rfl
theorem strs_append {a b : List ByteArray} : strs a ++ strs b = strs (a ++ b) := by simp [strs]
theorem strs_one {s : ByteArray} : [DV.p (.string s)] = strs [s] := rfl
theorem strs_push {a : List ByteArray} {s : ByteArray} : strs a ++ [DV.p (.string s)] = strs (a ++ [s]) := by simp [strs]
@[simp] theorem strs_getElem {l : List ByteArray} {i : Nat} (h : i < (strs l).length) : (strs l)[i] = .p (.string (l[i]'(by simpa using h))) := by simp [strs]
theorem strs_get {l : List ByteArray} {i : Nat} (h : i < l.length) : (strs l)[i]?.getD .any = .p (.string l[i]) := by simp [strs, h]
theorem strs_getD {l : List ByteArray} {i : Nat} (h : i < l.length) : (strs l).getD i .any = .p (.string l[i]) := by simp [strs, h]
@[simp] theorem strs_take {l : List ByteArray} {n : Nat} : (strs l).take n = strs (l.take n) := by simp [strs]
@[simp] theorem strs_drop {l : List ByteArray} {n : Nat} : (strs l).drop n = strs (l.drop n) := by simp [strs]
@[simp] theorem strs_plain {l : List ByteArray} : plainL (strs l) := plainL.map
@[simp] theorem strs_eq_nil {l : List ByteArray} : strs l = [] ↔ l = [] := by simp [strs]

@[simp] theorem WF_strs {B : Nat → Prop} {sz : Nat} {l : List ByteArray} : WF B (.fz sz (strs l)) = True := eq_true (WF_plain strs_plain)

/-- Bytes. -/
def bts (l : List UInt8) : List DV := l.map byteD
theorem bytesD_eq (s : ByteArray) : bytesD s = bts s.data.toList := rfl
@[simp] theorem bts_length {l : List UInt8} : (bts l).length = l.length := by simp [bts]
@[simp] theorem bts_nil : bts [] = [] := rfl
theorem bts_append {a b : List UInt8} : bts a ++ bts b = bts (a ++ b) := by simp [bts]
theorem bts_push {a : List UInt8} {s : UInt8} : bts a ++ [byteD s] = bts (a ++ [s]) := by simp [bts]
@[simp] theorem bts_getElem {l : List UInt8} {i : Nat} (h : i < (bts l).length) : (bts l)[i] = .p (.int .u8 ((l[i]'(by simpa using h)).toNat)) := by simp [bts, byteD]
theorem bts_get {l : List UInt8} {i : Nat} (h : i < l.length) : (bts l)[i]?.getD .any = .p (.int .u8 (l[i].toNat)) := by simp [bts, h, byteD]
theorem bts_getD {l : List UInt8} {i : Nat} (h : i < l.length) : (bts l).getD i .any = .p (.int .u8 (l[i].toNat)) := by simp [bts, h, byteD]
@[simp] theorem bts_take {l : List UInt8} {n : Nat} : (bts l).take n = bts (l.take n) := by simp [bts]
@[simp] theorem bts_drop {l : List UInt8} {n : Nat} : (bts l).drop n = bts (l.drop n) := by simp [bts]
@[simp] theorem bts_plain {l : List UInt8} : plainL (bts l) := plainL.map (f := fun b : UInt8 => Value.int .u8 b.toNat)
@[simp] theorem strOf_bts (l : List UInt8) : strOf (bts l) = ⟨l.toArray⟩ := by
  simp only [strOf, bts, List.map_map]
  congr 2
  rw [show toByte ∘ byteD = id by funext b; simp [byteD, toByte]]
  simp
theorem isByte_bts {l : List UInt8} : ∀ d, d ∈ bts l → isByte d = true := by
  intro d hd
  obtain ⟨b, _, rfl⟩ := List.mem_map.1 hd
  have := b.toNat_lt
  simp [byteD, isByte]
  omega
@[simp] theorem isByte_all {l : List UInt8} : (∀ d, d ∈ bts l → isByte d = true) = True := eq_true isByte_bts
@[simp] theorem bytesD_is (s : ByteArray) : bytesD s = bts s.data.toList := rfl
theorem Own.bytes {h1 h : List Blk} {d : DV} {l : List UInt8} (ho : Own h1 1 h d (bts l)) : sliceOf h 1 d = some (bts l) := ho.slice

/-- The next index. -/
theorem wrap_succ {i n : Nat} (h : i < n) (hn : n ≤ 9223372036854775807) : IntKind.i64.wrap ((i : Int) + 1) = ((i + 1 : Nat) : Int) := by
  simp [IntKind.wrap, IntKind.bits, IntKind.signed]; omega
theorem maxLen_eq : maxLen = 9223372036854775807 := rfl

theorem Shaped.bytes {d : DV} (h : Shaped (.sl 1 (.int .u8)) d) : ∃ l : List UInt8, d = .fz 1 (bts l) ∧ l.length ≤ maxLen := by
  cases h with
  | @sl _ _ l hl h =>
    have : ∃ l' : List UInt8, l = bts l' := by
      clear hl
      induction l with
      | nil => exact ⟨[], rfl⟩
      | cons d l ih =>
        obtain ⟨l', h1⟩ := ih fun d hd => h d (by simp [hd])
        have h3 := h d (by simp)
        cases h3 with
        | @int _ n hw =>
          have hb : IntKind.u8.min ≤ n ∧ n ≤ IntKind.u8.max := by simpa [Lit.wf] using hw
          have e1 : IntKind.u8.min = 0 := rfl
          have e2 : IntKind.u8.max = 255 := rfl
          rw [e1, e2] at hb
          refine ⟨UInt8.ofNat n.toNat :: l', ?_⟩
          rw [h1]
          have : ((UInt8.ofNat n.toNat).toNat : Int) = n := by simp; omega
          simp only [bts, byteD, List.map_cons, this]
    obtain ⟨l', rfl⟩ := this
    exact ⟨l', rfl, by simpa using hl⟩

theorem Shaped.strs {d : DV} (h : Shaped (.sl 1 .str) d) : ∃ l : List ByteArray, d = .fz 1 (Den.strs l) ∧ l.length ≤ maxLen ∧ ∀ s, s ∈ l → s.size ≤ maxLen := by
  cases h with
  | @sl _ _ l hl h =>
    have : ∃ l' : List ByteArray, l = Den.strs l' ∧ ∀ s, s ∈ l' → s.size ≤ maxLen := by
      clear hl
      induction l with
      | nil => exact ⟨[], rfl, by simp⟩
      | cons d l ih =>
        obtain ⟨l', h1, h2⟩ := ih fun d hd => h d (by simp [hd])
        have h3 := h d (by simp)
        cases h3 with
        | @str s hs => exact ⟨s :: l', by simp [Den.strs, h1], by simpa using ⟨hs, h2⟩⟩
    obtain ⟨l', rfl, h2⟩ := this
    exact ⟨l', rfl, by simpa using hl, h2⟩

@[simp] theorem toNat_succ (n : Nat) : ((n : Int) + 1).toNat = n + 1 := by omega
@[simp] theorem nonneg_succ (n : Nat) : (0 ≤ (n : Int) + 1) = True := by simp; omega
@[simp] theorem succ_lt_cast (n m : Nat) : ((n : Int) + 1 < (m : Int)) = (n + 1 < m) := by simp; omega
@[simp] theorem succ_le_cast (n m : Nat) : ((n : Int) + 1 ≤ (m : Int)) = (n + 1 ≤ m) := by simp; omega
@[simp] theorem le_succ_self (n : Nat) : ((n : Int) ≤ (n : Int) + 1) = True := by simp; omega
@[simp] theorem lt_succ_self (n : Nat) : ((n : Int) < (n : Int) + 1) = True := by simp; omega
@[simp] theorem min_le_l {a b : Nat} : (min a b ≤ a) = True := eq_true (Nat.min_le_left a b)
@[simp] theorem min_le_r {a b : Nat} : (min a b ≤ b) = True := eq_true (Nat.min_le_right a b)
@[simp] theorem imin_lit {n k : Nat} : (if (no_index (@OfNat.ofNat Int k _)) < (n : Int) then (no_index (@OfNat.ofNat Int k _)) else (n : Int)) = ((min n (@OfNat.ofNat Nat k _) : Nat) : Int) := by
  have : (@OfNat.ofNat Int k _) = ((@OfNat.ofNat Nat k _ : Nat) : Int) := rfl
  rw [this]
  split <;> omega
@[simp] theorem imax_lit {n k : Nat} : (if (n : Int) < (no_index (@OfNat.ofNat Int k _)) then (no_index (@OfNat.ofNat Int k _)) else (n : Int)) = ((max n (@OfNat.ofNat Nat k _) : Nat) : Int) := by
  have : (@OfNat.ofNat Int k _) = ((@OfNat.ofNat Nat k _ : Nat) : Int) := rfl
  rw [this]
  split <;> omega
@[simp] theorem iminNN {n k : Nat} : (if (k : Int) < (n : Int) then (k : Int) else (n : Int)) = ((min n k : Nat) : Int) := by split <;> omega
@[simp] theorem imaxNN {n k : Nat} : (if (n : Int) < (k : Int) then (k : Int) else (n : Int)) = ((max n k : Nat) : Int) := by split <;> omega

/-- A law's argument, opened. -/
theorem open_arg {H : Type} {enc : TypeId × Value → H} {P : Program} {w : World} {r : Reach} {b0 base : Nat} {spare : Nat → Bool} {held : Bool} {t : TypeId} {v : Value} {d : DataW H} {ps : List MemPlace} {m : Nat} {sh : Sh} (hsh : shOf P m t = some sh) (hval : Value.okWide P w r b0 t v)
    (hd : DataW.Trod enc P w base spare held t v d ps) : ∃ e, Shaped sh e ∧ VR (env0 w) e v := by
  obtain ⟨fuel, hf⟩ := hd
  obtain ⟨e, u, h1, h2, h3, _, _⟩ := open_sh m t sh fuel _ _ hsh hf
  refine ⟨e, h1, ?_⟩
  suffices h : u = v by rw [← h]; exact h2
  have one : ∀ {x y : Value}, x.oneCell' = true → y.oneCell' = true → x.cells.toList = y.cells.toList → x = y := by
    intro x y hx hy hxy
    rw [one_cells hx, one_cells hy] at hxy
    simpa using hxy
  cases m with
  | zero => cases hsh
  | succ m =>
    simp only [shOf] at hsh
    split at hsh
    · rename_i k hu
      cases hsh
      obtain ⟨n, rfl⟩ := Go.WideShapes.okWide_int hu hval
      cases h1 with
      | int => obtain ⟨rfl, g⟩ := vr_p h2; exact one g rfl h3
    · rename_i hu
      cases hsh
      obtain ⟨n, rfl⟩ := Go.WideShapes.okWide_bool hu hval
      cases h1 with
      | bool => obtain ⟨rfl, g⟩ := vr_p h2; exact one g rfl h3
    · rename_i hu
      cases hsh
      obtain ⟨n, rfl⟩ := Go.WideShapes.okWide_string hu hval
      cases h1 with
      | str => obtain ⟨rfl, g⟩ := vr_p h2; exact one g rfl h3
    · rename_i el hu
      split at hsh
      · obtain ⟨she, _, rfl⟩ := Option.map_eq_some_iff.1 hsh
        obtain ⟨a, len, cap, rfl⟩ := Go.WideShapes.okWide_slice hu hval
        cases h1 with
        | sl => obtain ⟨a', c', rfl, _⟩ := vr_fz_n h2; exact one rfl rfl h3
      · cases hsh
    · rename_i fs hu
      split at hsh
      · obtain ⟨parts, _, rfl⟩ := Option.map_eq_some_iff.1 hsh
        obtain ⟨cs, rfl, _⟩ := Go.WideShapes.okWide_struct hu hval
        cases h1 with
        | st =>
          obtain ⟨vs, rfl, _⟩ := vr_agg h2
          simp only [Value.cells] at h3
          rw [Array.toList_inj.1 h3]
      · cases hsh
    · cases hsh

end Go.Den
