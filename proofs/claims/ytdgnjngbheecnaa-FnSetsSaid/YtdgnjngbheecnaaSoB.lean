/- The library's sort of texts, by its contract over denoted values. -/
import Derived.Test.YtdgnjngbheecnaaSoA
import Derived.Test.YtdgnjngbheecnaaSoL
import Derived.Sort.Walk0
import Derived.Test.YtdgnjngbheecnaaEvD
import Derived.Test.YtdgnjngbheecnaaCodX
set_option linter.unusedVariables false
set_option linter.unusedSimpArgs false
set_option maxRecDepth 100000
namespace Go.Proofs.Ytdgnjngbheecnaa
open Go Go.Den Go.Proofs

def bsOf (s : ByteArray) : List UInt8 := s.data.toList
def tOf (l : List UInt8) : ByteArray := ⟨l.toArray⟩
def msort (l : List (List UInt8)) : List (List UInt8) := l.mergeSort fun x y => decide (x ≤ y)
def sortT (l : List ByteArray) : List ByteArray := (msort (l.map bsOf)).map tOf

theorem enc_strs (l : List (List UInt8)) : (l.map fun x => DV.p (encStr x)) = strs (l.map tOf) := by simp [strs, tOf, encStr]
theorem tOf_bsOf (s : ByteArray) : tOf (bsOf s) = s := by cases s; simp [tOf, bsOf]
theorem bsOf_tOf (s : List UInt8) : bsOf (tOf s) = s := by simp [tOf, bsOf]
theorem map_tOf_bsOf (l : List ByteArray) : (l.map bsOf).map tOf = l := by
  rw [List.map_map]; conv => rhs; rw [← List.map_id l]
  exact List.map_congr_left fun s _ => tOf_bsOf s

theorem ok124 {G : Nat → DV} (h : List Blk) (b : Nat) (l : List ByteArray) (hb : h[b]? = some (.cells 1 (strs l))) (hl : l.length < 4611686018427387904) :
    Ok Try.prog G 124 [.sl b 0 l.length l.length] h (.tup []) (h.set b (.cells 1 (strs (sortT l)))) := by
  have := Ok_sort (P := Try.prog) (G := G) (f := 124) encStr (fun _ => rfl) msort (fun l => by simp [msort])
    (fun blk off cap zs w h1 h2 h3 => Any.slices_Sort_string laysSortS blk off cap zs w h1 h2 h3)
    (fun p cap w => Any.slices_Sort_string_none laysSortS p cap w) h b (l.map bsOf) (by rw [enc_strs, map_tOf_bsOf]; exact hb) (by simpa using hl)
  rw [List.length_map, enc_strs] at this
  exact this

theorem less_eq (a b : List UInt8) : less (tOf a) (tOf b) = decide (a < b) := by simp [less, tOf, bytesLess_eq]
theorem mem_sortT {l : List ByteArray} {x : ByteArray} : x ∈ sortT l ↔ x ∈ l := by
  simp only [sortT, List.mem_map, msort, List.mem_mergeSort]
  constructor
  · rintro ⟨_, ⟨y, hy, rfl⟩, rfl⟩; rw [tOf_bsOf]; exact hy
  · intro h; exact ⟨bsOf x, ⟨x, h, rfl⟩, tOf_bsOf x⟩
theorem asc_sortT {l : List ByteArray} (hn : l.Nodup) : asc (sortT l) := by
  have h1 : (msort (l.map bsOf)).Pairwise fun a b => decide (a ≤ b) = true := List.pairwise_mergeSort (fun a b c h h' => by
    simp at h h' ⊢
    exact List.le_trans h h') (fun a b => by
    simp
    exact List.le_total a b) _
  have h2 : (msort (l.map bsOf)).Nodup := by
    rw [msort, (List.mergeSort_perm _ _).nodup_iff]
    exact List.Pairwise.map _ (fun a b hab h => hab (by rw [← tOf_bsOf a, h, tOf_bsOf])) hn
  rw [asc, sortT, List.pairwise_map]
  refine (h1.and h2).imp fun {a b} h => ?_
  rw [less_eq]
  have h3 : Op.bytesLess b a = false := by rw [bytesLess_eq]; simpa using h.1
  have h4 := bl_total b a h3 (fun hab => h.2 hab.symm)
  rw [bytesLess_eq] at h4
  exact h4
theorem sortT_setOf {l : List ByteArray} (hn : l.Nodup) : sortT l = setOf l := asc_ext (asc_sortT hn) (asc_setOf l) fun x => by rw [mem_sortT, mem_setOf]
theorem setOf_ext {a b : List ByteArray} (h : ∀ x, x ∈ a ↔ x ∈ b) : setOf a = setOf b := asc_ext (asc_setOf a) (asc_setOf b) fun x => by rw [mem_setOf, mem_setOf, h]
end Go.Proofs.Ytdgnjngbheecnaa
