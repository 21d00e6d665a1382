/- The reader (turned from another seat by mkpe.py) -/
import Derived.Test.YtdgnjngbheecnaaDoorCodA
import Derived.Test.YtdgnjngbheecnaaDoorLibE
set_option linter.unusedVariables false
set_option linter.unusedSimpArgs false
set_option maxRecDepth 100000
namespace Go.Proofs.YtdgnjngbheecnaaDoor
open Go Go.Den Go.Proofs



theorem ok108 {G : Nat → DV} (h : List Blk) (s : ByteArray) : Ok Tryd.prog G 108 [.p (.string s)] h (.iface 170 (.ptr h.length 0 0 1)) (h ++ [.cells 2 [.agg [.p (.string s), .p .nilIface]]]) := by
  refine Ok_by Tryd.func108 c108_ok r108_ok 6 rfl ?_
  simp [c108, r108]
  exact .refl
theorem ok90 {G : Nat → DV} (h : List Blk) (s : ByteArray) (d : DV) : Ok Tryd.prog G 90 [.p (.string s), d] h (.iface 170 (.ptr h.length 0 0 1)) (h ++ [.cells 2 [.agg [.p (.string s), .p .nilIface]]]) := by
  refine Ok_by Tryd.func90 c90_ok r90_ok 5 rfl ?_
  simp [c90, r90]
  refine FF_by (ok108 h s) ?_
  simp
  exact .refl
theorem ok84 {G : Nat → DV} (h : List Blk) (s : ByteArray) (t : TypeId) (x : DV) : Ok Tryd.prog G 84 [.iface t x, .p (.string s)] h (.iface 170 (.ptr h.length 0 0 1)) (h ++ [.cells 2 [.agg [.p (.string s), .iface t x]]]) := by
  refine Ok_by Tryd.func84 c84_ok r84_ok 8 rfl ?_
  simp [c84, r84]
  exact .refl

/-- An error, and the reader is a reader still. -/
def RdErr (h : List Blk) (R : Rd) (v : DV) (h' : List Blk) : Prop := (∃ x, v = .iface 170 x) ∧ ∃ R' r' l', RdS h' R' r' l' ∧ RdK h h' R R'

theorem ok114 {G : Nat → DV} (h : List Blk) (R : Rd) (r l : List UInt8) (s : RdS h R r l) : OkR Tryd.prog G 114 [.ptr R.rb 0 0 1] h (RdErr h R) := by
  refine OkR_by Tryd.func114 c114_ok r114_ok 6 rfl ?_
  simp [c114, r114, s.rb]
  refine FF_by (ok108 _ _) ?_
  simp
  refine REr_by _ _ .refl ⟨⟨_, rfl⟩, ⟨R.rb, R.bb, .p (.slice none 0 0), R.f⟩, [], l, ?_, ?_⟩
  · have hlt := s.rlt
    have hne : R.bb ≠ R.rb := Ne.symm s.ne
    have hlb := s.blt
    refine RdS.push ⟨by simp [hlt], by rw [List.getElem?_set_ne s.ne]; exact s.bb, .inl ⟨rfl, rfl⟩, s.f.of fun i hi => List.getElem?_set_ne fun h => s.fr (by rw [h]; exact hi), s.ne, s.fr, s.fb, fun i hi => hi.elim⟩
  · refine ⟨by simp, fun i hi hn => ?_, rfl, rfl, fun _ h => .inl h, fun _ h => h.elim⟩
    rw [List.getElem?_append_left (by simpa using hi), List.getElem?_set_ne fun h => hn (.inl h.symm)]

theorem rep_bts (n : Nat) : bts (List.replicate n 0) = List.replicate n (DV.p (.int .u8 0)) := by simp [bts, byteD]

def EnsP (h : List Blk) (R : Rd) (r : List UInt8) (n : Nat) (v : DV) (h' : List Blk) : Prop := v = .tup [] ∧ ∃ R' l', l'.length = n ∧ RdS h' R' r l' ∧ RdK h h' R R' ∧ R'.d = R.d
theorem ok115 {G : Nat → DV} (h : List Blk) (R : Rd) (r l : List UInt8) (n : Nat) (hn : n ≤ 140737488355328) (s : RdS h R r l) : OkR Tryd.prog G 115 [.ptr R.bb 0 0 1, .p (.int .i64 n)] h (EnsP h R r n) := by
  refine OkR_by Tryd.func115 c115_ok r115_ok 23 rfl ?_
  have hlt := s.rlt
  have hne : R.bb ≠ R.rb := Ne.symm s.ne
  have hlb := s.blt
  -- a new slice
  have fresh : ∀ (h' : List Blk), h' = (h ++ [Blk.cells n [.agg (bts (List.replicate n 0))]]).set R.bb (.cells 1 [.agg [.sa false 1 h.length 0 0 n n 1]]) → ∃ R' l', l'.length = n ∧ RdS h' R' r l' ∧ RdK h h' R R' ∧ R'.d = R.d := by
    rintro h' rfl
    refine ⟨⟨R.rb, R.bb, R.d, .sa false 1 h.length 0 0 n n 1⟩, List.replicate n 0, by simp, ⟨?_, ?_, ?_, ?_, s.ne, ?_, ?_, ?_⟩, ?_, rfl⟩
    · rw [List.getElem?_set_ne hne, List.getElem?_append_left hlt]; exact s.rb
    · rw [List.getElem?_set_self (by simp; omega)]
    · exact s.d.of fun i hi => by
        rw [List.getElem?_set_ne fun h => s.dn i hi (.inr (.inl h.symm)), List.getElem?_append_left (s.d.lt hi)]
    · refine .inr ⟨h.length, [], by simp, ?_⟩
      rw [List.getElem?_set_ne (by omega)]
      simp
    · simp only [inSa]; omega
    · simp only [inSa]; omega
    · intro i hi ho
      have := s.d.lt hi
      rcases ho with h1 | h1 | h1
      · exact s.dn i hi (.inl h1)
      · exact s.dn i hi (.inr (.inl h1))
      · simp only [inSa] at h1; omega
    · refine ⟨by simp, fun i hi hn => ?_, rfl, rfl, fun i h => .inr ?_, fun _ h => h⟩
      · rw [List.getElem?_set_ne fun h => hn (.inr (.inl h.symm)), List.getElem?_append_left hi]
      · simp only [inSa] at h; omega
  have hf := s.f
  rcases hf with ⟨hf, rfl⟩ | ⟨b, rest, hf, hb⟩
  · simp [c115, r115, s.bb, hf]
    refine CC_by (fun h1 => ?_) (fun h1 => ?_)
    · simp
      refine MK_sa (.inr rfl) (by omega) (by omega) (by simp; omega) ?_
      simp [s.bb, List.getElem?_append_left hlb]
      refine REr_by _ _ .refl ⟨rfl, fresh _ ?_⟩
      rw [rep_bts]
    · have h0 : n = 0 := by simp at h1; omega
      subst h0
      simp [s.bb, hf]
      refine REr_by _ _ .refl ⟨rfl, R, [], rfl, ?_, ?_, rfl⟩
      · have : h.set R.bb (.cells 1 [.agg [.p (.slice none 0 0)]]) = h := set_same (by rw [s.bb, hf])
        rw [this]; exact s
      · have : h.set R.bb (.cells 1 [.agg [.p (.slice none 0 0)]]) = h := set_same (by rw [s.bb, hf])
        rw [this]; exact .refl
  · simp [c115, r115, s.bb, hf]
    refine CC_by (fun h1 => ?_) (fun h1 => ?_)
    · simp
      refine MK_sa (.inr rfl) (by omega) (by omega) (by simp; omega) ?_
      simp [s.bb, List.getElem?_append_left hlb]
      refine REr_by _ _ .refl ⟨rfl, fresh _ ?_⟩
      rw [rep_bts]
    · have h1 : n ≤ l.length + rest.length := by simp at h1; omega
      have hbn : b ≠ R.bb := fun h => s.fb (by rw [hf]; exact h.symm)
      have hbr : b ≠ R.rb := fun h => s.fr (by rw [hf]; exact h.symm)
      simp [s.bb, hf, hb]
      refine ⟨by omega, ?_⟩
      refine REr_by _ _ .refl ⟨rfl, ⟨R.rb, R.bb, R.d, .sa false 1 b 0 0 n (l.length + rest.length) 1⟩, (l ++ rest).take n, by simp; omega, ⟨?_, ?_, ?_, ?_, s.ne, ?_, ?_, ?_⟩, ?_, rfl⟩
      · rw [List.getElem?_set_ne hne]; exact s.rb
      · simp [hlb]
      · exact s.d.of fun i hi => List.getElem?_set_ne fun h => s.dn i hi (.inr (.inl h.symm))
      · have hlen : ((l ++ rest).take n).length = n := by simp; omega
        have hlen2 : n + ((l ++ rest).drop n).length = l.length + rest.length := by simp; omega
        refine .inr ⟨b, (l ++ rest).drop n, by rw [hlen, hlen2], ?_⟩
        rw [hlen, hlen2, List.take_append_drop, List.getElem?_set_ne (Ne.symm hbn)]
        exact hb
      · simp only [inSa]; exact fun h => hbr h.symm
      · simp only [inSa]; exact fun h => hbn h.symm
      · intro i hi ho
        rcases ho with h1 | h1 | h1
        · exact s.dn i hi (.inl h1)
        · exact s.dn i hi (.inr (.inl h1))
        · exact s.dn i hi (.inr (.inr (by rw [hf]; exact h1)))
      · refine ⟨by simp, fun i hi hn => ?_, rfl, rfl, fun i h => .inl (by rw [hf]; exact h), fun _ h => h⟩
        rw [List.getElem?_set_ne fun h => hn (.inr (.inl h.symm))]

end Go.Proofs.YtdgnjngbheecnaaDoor
