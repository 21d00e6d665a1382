/- Handshakes: the walk of the law FnProtoHello. -/
import Derived.Test.YtbbafeocmchlnaaHeC
import Derived.Test.YtbbafeocmchlnaaVer
set_option linter.unusedVariables false
set_option linter.unusedSimpArgs false
set_option maxRecDepth 100000
namespace Go.Proofs.Ytbbafeocmchlnaa
open Go Go.Den Go.Proofs

theorem gz : GZ (fun _ => DV.any) := .any
/-- The sum of texts' lengths. -/
def sumLen (l : List (List UInt8)) : Nat := (l.map List.length).sum
def txts (l : List (List UInt8)) : List DV := l.map fun s => .p (.string (txt s))
@[simp] theorem txts_length (l : List (List UInt8)) : (txts l).length = l.length := by simp [txts]
@[simp] theorem txts_plain {l : List (List UInt8)} : plainL (txts l) := plainL.map
@[simp] theorem txts_getElem {l : List (List UInt8)} {i : Nat} (h : i < (txts l).length) : (txts l)[i] = .p (.string (txt (l[i]'(by simpa using h)))) := by simp [txts]
theorem frzR_lit {h x : List Blk} {sz n : Nat} {l : List DV} (hn : n = l.length) (hl : plainL l) : FrzR (h ++ .cells sz l :: x) [] (.sl h.length 0 n n) (.fz sz l) := by
  subst hn
  exact FrzR.of0 1 (by rw [frz_sl (sz := sz) hl (by simp) (Nat.zero_le _) rfl]; simp)

theorem sumLen_nil : sumLen [] = 0 := by simp [sumLen]
theorem sumLen_snoc (l : List (List UInt8)) (s : List UInt8) : sumLen (l ++ [s]) = sumLen l + s.length := by simp [sumLen]
theorem sumLen_app (l m : List (List UInt8)) : sumLen (l ++ m) = sumLen l + sumLen m := by simp [sumLen]

theorem ok13 {G : Nat → DV} (h : List Blk) (l : List (List UInt8)) (hl : sumLen l ≤ 4611686018427387904) (hn : l.length ≤ 4611686018427387904) : Ok Try.prog G 13 [.fz 1 (txts l)] h (.p (.bool (decide (sumLen l ≤ 5000)))) h := by
  refine Ok_by Try.func13 c13_ok r13_ok 18 rfl ?_
  simp [c13, r13]
  refine VV_fam (fun i : Nat => ⟨fr 19 [(3, .p (.int .i64 (sumLen (l.take i)))), (6, .fz 1 (txts l)), (7, .p (.int .i64 l.length)), (8, .p (.int .i64 i))], h⟩)
    (fun i => i ≤ l.length) (fun i => l.length - i) 0 (Nat.zero_le _) (Wk.fits (by simp [sumLen_nil])) ?_
  intro i hi B hb he hr
  simp
  refine CC_by (fun h1 => ?_) (fun h1 => ?_)
  · have h1 : i < l.length := by simpa using h1
    have htk : l.take (i + 1) = l.take i ++ [l[i]] := by rw [List.take_add_one, List.getElem?_eq_getElem h1]; rfl
    have hs : sumLen (l.take (i + 1)) = sumLen (l.take i) + l[i].length := by rw [htk, sumLen_snoc]
    have hle : sumLen (l.take (i + 1)) ≤ sumLen l := by
      have := sumLen_app (l.take (i + 1)) (l.drop (i + 1))
      rw [List.take_append_drop] at this; omega
    have hw : IntKind.i64.wrap ((i : Int) + 1) = ((i + 1 : Nat) : Int) := wrap_succ (n := l.length) h1 (by omega)
    have hg : (txts l)[i]? = some (.p (.string (txt l[i]))) := by simp [txts, h1]
    have hw2 : IntKind.i64.wrap ((sumLen (l.take i) : Int) + (l[i].length : Int)) = (sumLen (l.take (i + 1)) : Int) := by
      simp [IntKind.wrap, IntKind.bits, IntKind.signed, hs]; omega
    simp [h1, hg, hw, hw2]
    refine hb _ (i + 1) (Wk.fits ?_) h1 (by omega)
    simp
  · have h1 : i = l.length := by simp at h1; omega
    subst h1
    simp
    refine he _ _ ?_
    have e : decide ((sumLen l : Int) ≤ 5000) = decide (sumLen l ≤ 5000) := by congr 1; apply propext; omega
    simp [e]

theorem ok3 (s : List UInt8) (a b c p : Nat) (ha : a < B64) (hb : b < B64) (hc : c < B64) (hp : p < B64) (hs : s.length ≤ 140737488351232) : Ok Try.prog (fun _ => .any) 3 [.p (.string (txt s)), verD a b c, .p (.int .u64 p)] [] (.p (.bool true)) [] := by
  refine Ok_by Try.func3 c3_ok r3_ok 39 rfl ?_
  have lu := uv_length s.length (by simp [B64]; omega)
  have la := uv_length a ha
  have lb := uv_length b hb
  have lp := uv_length p hp
  simp [c3, r3, verD]
  refine CC_by (fun h1 => ?_) (fun h1 => ?_)
  · simp
  · have h1 : s.length ≤ 2147483647 := by simp at h1; omega
    simp
    have h13 := ok13 (G := fun _ => .any) [] [s] (by simp [sumLen]; omega) (by simp)
    refine FF_by (Ok.lend gz h13 (.cons (frzR_lit (h := [.cells 3 [verD a b c]]) (x := []) (l := txts [s]) rfl txts_plain) .nil) rfl) ?_
    simp [sumLen]
    refine CC_by (fun h2 => ?_) (fun h2 => ?_)
    · simp
      refine FF_by (ok14 _) ?_
      simp
    · have h2 : s.length ≤ 5000 := by simpa using h2
      simp
      refine FF_by (ok15 _ s p a b c hp ha hb hc (by omega)) ?_
      simp
      refine DF_by (ok16 _ s (by omega)) ?_
      simp [verD]
      refine DF_by (ok17 _ a ha) ?_
      simp
      refine ⟨by omega, ?_⟩
      refine DF_by (ok17 _ b hb) ?_
      simp
      refine ⟨by omega, ?_⟩
      refine DF_by (ok17 _ p hp) ?_
      simp
      refine ⟨by omega, ?_⟩
      refine DF_by (ok14 _) ?_
      simp

theorem protoHello_walk (t : ByteArray) (d : DV) (p : Int) (ht : t.size ≤ 140737488351232) (sd : Shaped (.st [(1, .int .u64), (1, .int .u64), (1, .int .u64)]) d) (hp : (Lit.int IntKind.u64 p).wf = true) : Ok Try.prog (fun _ => .any) 3 [.p (.string t), d, .p (.int .u64 p)] [] (.p (.bool true)) [] := by
  obtain ⟨a, b, c, rfl, ha, hb, hc⟩ := shaped_ver sd
  have hp : IntKind.u64.min ≤ p ∧ p ≤ IntKind.u64.max := by simpa [Lit.wf] using hp
  have h1 : IntKind.u64.min = 0 := rfl
  have h2 : IntKind.u64.max = 18446744073709551615 := rfl
  obtain ⟨q, rfl⟩ : ∃ q : Nat, p = q := ⟨p.toNat, by omega⟩
  rw [txt_of t]
  exact ok3 t.data.toList a b c q ha hb hc (by simp [B64]; omega) (by simpa using ht)

end Go.Proofs.Ytbbafeocmchlnaa
