/- The library: contracts of functions over denoted values (X). -/
import Derived.Test.YtbbafeocmchlnaaDenXf
set_option linter.unusedVariables false
set_option linter.unusedSimpArgs false
set_option linter.unusedSectionVars false
set_option linter.unnecessarySimpa false
namespace Go.Den
open Go

theorem Wk.fitsE {G : Nat → DV} {h0 h h' : List Blk} {t t' : List DV} (he : h = h') (hf : Den.fits t t' true) : Wk G h0 ⟨t, h⟩ ⟨t', h'⟩ := he ▸ Wk.fits hf

/-! Numbers. -/
theorem ofInt_nat (w n : Nat) : BitVec.ofInt w (n : Int) = BitVec.ofNat w n := by
  apply BitVec.eq_of_toNat_eq
  simp
theorem wrap_u {k : IntKind} (hk : k.signed = false) (n : Nat) (hn : n < 2 ^ k.bits) : k.wrap (n : Int) = n := by
  unfold IntKind.wrap
  cases k <;> simp [IntKind.signed, IntKind.bits] at hk hn ⊢ <;> omega
theorem ior_nat {k : IntKind} (hk : k.signed = false) {a b : Nat} (ha : a < 2 ^ k.bits) (hb : b < 2 ^ k.bits) : ior k a b = ((a ||| b : Nat) : Int) := by
  unfold ior
  rw [ofInt_nat, ofInt_nat, BitVec.toNat_or, BitVec.toNat_ofNat, BitVec.toNat_ofNat, Nat.mod_eq_of_lt ha, Nat.mod_eq_of_lt hb]
  exact wrap_u hk _ (Nat.or_lt_two_pow ha hb)
theorem iand_nat {k : IntKind} (hk : k.signed = false) {a b : Nat} (ha : a < 2 ^ k.bits) (hb : b < 2 ^ k.bits) : iand k a b = ((a &&& b : Nat) : Int) := by
  unfold iand
  rw [ofInt_nat, ofInt_nat, BitVec.toNat_and, BitVec.toNat_ofNat, BitVec.toNat_ofNat, Nat.mod_eq_of_lt ha, Nat.mod_eq_of_lt hb]
  exact wrap_u hk _ (Nat.and_lt_two_pow _ hb)
theorem ixor_nat {k : IntKind} (hk : k.signed = false) {a b : Nat} (ha : a < 2 ^ k.bits) (hb : b < 2 ^ k.bits) : ixor k a b = ((a ^^^ b : Nat) : Int) := by
  unfold ixor
  rw [ofInt_nat, ofInt_nat, BitVec.toNat_xor, BitVec.toNat_ofNat, BitVec.toNat_ofNat, Nat.mod_eq_of_lt ha, Nat.mod_eq_of_lt hb]
  exact wrap_u hk _ (Nat.xor_lt_two_pow ha hb)
theorem ishl_nat {k : IntKind} (hk : k.signed = false) {a b : Nat} (h : a * 2 ^ b < 2 ^ k.bits) (hb : b ≤ k.bits) : ishl k a b = ((a * 2 ^ b : Nat) : Int) := by
  unfold ishl
  have : min (b : Int).toNat k.bits = b := by simp; omega
  rw [this]
  have e : ((a : Int) * 2 ^ b) = ((a * 2 ^ b : Nat) : Int) := by simp
  rw [e]
  exact wrap_u hk _ h
theorem ishr_nat {k : IntKind} {a b : Nat} (hb : b ≤ k.bits) : ishr k a b = ((a / 2 ^ b : Nat) : Int) := by
  unfold ishr
  have : min (b : Int).toNat k.bits = b := by simp; omega
  rw [this, Int.fdiv_eq_ediv_of_nonneg _ (by exact Int.le_of_lt (Int.pow_pos (by decide)))]
  simp
/-- Bits that don't meet. -/
theorem or_add {a b i : Nat} (h : a < 2 ^ i) : a ||| b * 2 ^ i = a + b * 2 ^ i := by
  rw [Nat.or_comm, Nat.mul_comm, ← Nat.two_pow_add_eq_or_of_lt h, Nat.add_comm]

/-- The block of a slice of an array. -/
def inSa (d : DV) (i : Nat) : Prop := match d with
  | .sa _ _ b _ _ _ _ _ => i = b
  | _ => False
/-- A slice of bytes whose capacity stays, or nil; its first bytes. -/
def CapS (h : List Blk) (f : DV) (l : List UInt8) : Prop :=
  (f = .p (.slice none 0 0) ∧ l = []) ∨ ∃ b rest, f = .sa false 1 b 0 0 l.length (l.length + rest.length) 1 ∧ h[b]? = some (.cells (l.length + rest.length) [.agg (bts (l ++ rest))])
theorem CapS.of {h h' : List Blk} {f : DV} {l : List UInt8} (hs : CapS h f l) (he : ∀ i, inSa f i → h'[i]? = h[i]?) : CapS h' f l := by
  rcases hs with h1 | ⟨b, rest, rfl, h3⟩
  · exact .inl h1
  · exact .inr ⟨b, rest, rfl, by rw [he b rfl, h3]⟩
theorem CapS.lt {h : List Blk} {f : DV} {l : List UInt8} (hs : CapS h f l) {i : Nat} (hi : inSa f i) : i < h.length := by
  rcases hs with ⟨rfl, _⟩ | ⟨b, rest, rfl, h3⟩
  · exact hi.elim
  · cases hi; exact (List.getElem?_eq_some_iff.1 h3).1

/-- Bytes that nobody writes: a part of a block, or nil. -/
def DataS (h : List Blk) (d : DV) (r : List UInt8) : Prop :=
  (d = .p (.slice none 0 0) ∧ r = []) ∨ ∃ b i D, d = .sl b i r.length D.length ∧ h[b]? = some (.cells 1 (bts D)) ∧ r = D.drop i
theorem DataS.of {h h' : List Blk} {d : DV} {r : List UInt8} (hs : DataS h d r) (he : ∀ i, inBlk d i → h'[i]? = h[i]?) : DataS h' d r := by
  rcases hs with h1 | ⟨b, i, D, rfl, h3, h4⟩
  · exact .inl h1
  · exact .inr ⟨b, i, D, rfl, by rw [he b rfl, h3], h4⟩
theorem DataS.lt {h : List Blk} {d : DV} {r : List UInt8} (hs : DataS h d r) {i : Nat} (hi : inBlk d i) : i < h.length := by
  rcases hs with ⟨rfl, _⟩ | ⟨b, j, D, rfl, h3, h4⟩
  · exact hi.elim
  · cases hi; exact (List.getElem?_eq_some_iff.1 h3).1

/-- A reader: its block, its buffer's, its data, its buffer's slice. -/
structure Rd where
  rb : Nat
  bb : Nat
  d : DV
  f : DV
/-- The blocks that it writes. -/
def Rd.own (R : Rd) (i : Nat) : Prop := i = R.rb ∨ i = R.bb ∨ inSa R.f i
structure RdS (h : List Blk) (R : Rd) (r l : List UInt8) : Prop where
  rb : h[R.rb]? = some (.cells 2 [.agg [R.d, .ptr R.bb 0 0 1]])
  bb : h[R.bb]? = some (.cells 1 [.agg [R.f]])
  d : DataS h R.d r
  f : CapS h R.f l
  ne : R.rb ≠ R.bb
  fr : ¬ inSa R.f R.rb
  fb : ¬ inSa R.f R.bb
  dn : ∀ i, inBlk R.d i → ¬ R.own i
structure RdK (h h' : List Blk) (R R' : Rd) : Prop where
  len : h.length ≤ h'.length
  old : ∀ i, i < h.length → ¬ R.own i → h'[i]? = h[i]?
  rb : R'.rb = R.rb
  bb : R'.bb = R.bb
  new : ∀ i, inSa R'.f i → inSa R.f i ∨ h.length ≤ i
  dsub : ∀ i, inBlk R'.d i → inBlk R.d i
theorem RdK.refl {h : List Blk} {R : Rd} : RdK h h R R := ⟨Nat.le_refl _, fun _ _ _ => rfl, rfl, rfl, fun _ h => .inl h, fun _ h => h⟩
theorem RdK.own {h h' : List Blk} {R R' : Rd} (a : RdK h h' R R') {i : Nat} (hi : i < h.length) (hn : ¬ R.own i) : ¬ R'.own i := by
  rintro (h1 | h1 | h1)
  · exact hn (.inl (h1.trans a.rb))
  · exact hn (.inr (.inl (h1.trans a.bb)))
  · rcases a.new i h1 with h2 | h2
    · exact hn (.inr (.inr h2))
    · omega
theorem RdK.trans {h1 h2 h3 : List Blk} {R1 R2 R3 : Rd} (a : RdK h1 h2 R1 R2) (b : RdK h2 h3 R2 R3) : RdK h1 h3 R1 R3 := by
  refine ⟨Nat.le_trans a.len b.len, fun i hi hn => ?_, b.rb.trans a.rb, b.bb.trans a.bb, fun i h => ?_, fun i h => a.dsub i (b.dsub i h)⟩
  · rw [b.old i (Nat.lt_of_lt_of_le hi a.len) (a.own hi hn), a.old i hi hn]
  · rcases b.new i h with h | h
    · exact a.new i h
    · exact .inr (Nat.le_trans a.len h)
theorem RdK.get {h h' : List Blk} {R R' : Rd} (a : RdK h h' R R') {i : Nat} {k : Blk} (hk : h[i]? = some k) (hn : ¬ R.own i) : h'[i]? = some k := by
  rw [a.old i (List.getElem?_eq_some_iff.1 hk).1 hn, hk]
theorem RdS.rlt {h : List Blk} {R : Rd} {r l : List UInt8} (s : RdS h R r l) : R.rb < h.length := (List.getElem?_eq_some_iff.1 s.rb).1
theorem RdS.blt {h : List Blk} {R : Rd} {r l : List UInt8} (s : RdS h R r l) : R.bb < h.length := (List.getElem?_eq_some_iff.1 s.bb).1
/-- Blocks that are laid behind it. -/
theorem RdS.push {h x : List Blk} {R : Rd} {r l : List UInt8} (s : RdS h R r l) : RdS (h ++ x) R r l :=
  ⟨by rw [List.getElem?_append_left s.rlt]; exact s.rb, by rw [List.getElem?_append_left s.blt]; exact s.bb, s.d.of fun i hi => List.getElem?_append_left (s.d.lt hi), s.f.of fun i hi => List.getElem?_append_left (s.f.lt hi), s.ne, s.fr, s.fb, s.dn⟩
theorem RdK.push {h x : List Blk} {R : Rd} : RdK h (h ++ x) R R := ⟨by simp, fun i hi _ => List.getElem?_append_left hi, rfl, rfl, fun _ h => .inl h, fun _ h => h⟩
/-- Other blocks are written. -/
theorem RdS.set {h : List Blk} {R : Rd} {r l : List UInt8} (s : RdS h R r l) {b : Nat} {k : Blk} (hn : ¬ R.own b) (hd : ¬ inBlk R.d b) : RdS (h.set b k) R r l := by
  have g : ∀ i, i ≠ b → (h.set b k)[i]? = h[i]? := fun i hi => List.getElem?_set_ne (Ne.symm hi)
  refine ⟨by rw [g _ fun h => hn (.inl h.symm)]; exact s.rb, by rw [g _ fun h => hn (.inr (.inl h.symm))]; exact s.bb, s.d.of fun i hi => g i fun h => hd (h ▸ hi), s.f.of fun i hi => g i fun h => hn (.inr (.inr (h ▸ hi))), s.ne, s.fr, s.fb, s.dn⟩
/-- A reader that was made since: what stood there stands there still. -/
theorem RdK.pre {h0 h h' : List Blk} {R R' : Rd} (a : RdK h h' R R') (hp : HPre h0 h) (hn : ∀ i, i < h0.length → ¬ R.own i) : HPre h0 h' := by
  intro b k hk
  have hlt := (List.getElem?_eq_some_iff.1 hk).1
  exact a.get (hp b k hk) (hn b hlt)
end Go.Den
namespace Go.Den
open Go
/-- What a reader keeps, but for one block. -/
structure RdX (xb : Nat) (h h' : List Blk) (R R' : Rd) : Prop where
  len : h.length ≤ h'.length
  old : ∀ i, i < h.length → i ≠ xb → ¬ R.own i → h'[i]? = h[i]?
  rb : R'.rb = R.rb
  bb : R'.bb = R.bb
  new : ∀ i, inSa R'.f i → inSa R.f i ∨ h.length ≤ i
  dsub : ∀ i, inBlk R'.d i → inBlk R.d i
theorem RdX.refl {xb : Nat} {h : List Blk} {R : Rd} : RdX xb h h R R := ⟨Nat.le_refl _, fun _ _ _ _ => rfl, rfl, rfl, fun _ h => .inl h, fun _ h => h⟩
theorem RdX.own {xb : Nat} {h h' : List Blk} {R R' : Rd} (a : RdX xb h h' R R') {i : Nat} (hi : i < h.length) (hn : ¬ R.own i) : ¬ R'.own i := by
  rintro (h1 | h1 | h1)
  · exact hn (.inl (h1.trans a.rb))
  · exact hn (.inr (.inl (h1.trans a.bb)))
  · rcases a.new i h1 with h2 | h2
    · exact hn (.inr (.inr h2))
    · omega
theorem RdX.trans {xb : Nat} {h1 h2 h3 : List Blk} {R1 R2 R3 : Rd} (a : RdX xb h1 h2 R1 R2) (b : RdX xb h2 h3 R2 R3) : RdX xb h1 h3 R1 R3 := by
  refine ⟨Nat.le_trans a.len b.len, fun i hi hx hn => ?_, b.rb.trans a.rb, b.bb.trans a.bb, fun i h => ?_, fun i h => a.dsub i (b.dsub i h)⟩
  · rw [b.old i (Nat.lt_of_lt_of_le hi a.len) hx (a.own hi hn), a.old i hi hx hn]
  · rcases b.new i h with h | h
    · exact a.new i h
    · exact .inr (Nat.le_trans a.len h)
theorem RdK.toX {xb : Nat} {h h' : List Blk} {R R' : Rd} (a : RdK h h' R R') : RdX xb h h' R R' := ⟨a.len, fun i hi _ hn => a.old i hi hn, a.rb, a.bb, a.new, a.dsub⟩
theorem RdX.set {xb : Nat} {h h' : List Blk} {R R' : Rd} (a : RdX xb h h' R R') {k : Blk} : RdX xb h (h'.set xb k) R R' :=
  ⟨by simpa using a.len, fun i hi hx hn => by rw [List.getElem?_set_ne (Ne.symm hx)]; exact a.old i hi hx hn, a.rb, a.bb, a.new, a.dsub⟩
theorem RdX.pre {xb : Nat} {h0 h h' : List Blk} {R R' : Rd} (a : RdX xb h h' R R') (hp : HPre h0 h) (hn : ∀ i, i < h0.length → ¬ R.own i) (hx : h0.length ≤ xb) : HPre h0 h' := by
  intro b k hk
  have hlt := (List.getElem?_eq_some_iff.1 hk).1
  rw [a.old b (List.getElem?_eq_some_iff.1 (hp b k hk)).1 (by omega) (hn b hlt)]
  exact hp b k hk
/-- A reader, and a block that is none of its own. -/
structure RdSX (xb : Nat) (x : Blk) (h : List Blk) (R : Rd) (r l : List UInt8) : Prop where
  s : RdS h R r l
  x : h[xb]? = some x
  n : ¬ R.own xb
  d : ¬ inBlk R.d xb
theorem RdSX.lt {xb : Nat} {x : Blk} {h : List Blk} {R : Rd} {r l : List UInt8} (s : RdSX xb x h R r l) : xb < h.length := (List.getElem?_eq_some_iff.1 s.x).1
theorem RdSX.set {xb : Nat} {x x' : Blk} {h : List Blk} {R : Rd} {r l : List UInt8} (s : RdSX xb x h R r l) : RdSX xb x' (h.set xb x') R r l :=
  ⟨s.s.set s.n s.d, by simp [s.lt], s.n, s.d⟩
theorem RdSX.next {xb : Nat} {x : Blk} {h h' : List Blk} {R R' : Rd} {r l r' l' : List UInt8} (s : RdSX xb x h R r l) (s' : RdS h' R' r' l') (k : RdK h h' R R') : RdSX xb x h' R' r' l' :=
  ⟨s', k.get s.x s.n, k.own s.lt s.n, fun h => s.d (k.dsub _ h)⟩
end Go.Den
