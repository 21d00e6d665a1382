/- The library's sort of ints. -/
import Derived.Test.YtdgnjngbheecnaaSoA
import Derived.Test.YtdgnjngbheecnaaSoL
import Derived.Test.YtdgnjngbheecnaaIsD
set_option linter.unusedVariables false
set_option linter.unusedSimpArgs false
set_option maxRecDepth 100000
namespace Go.Proofs.Ytdgnjngbheecnaa
open Go Go.Den Go.Proofs

def sortT (l : List Int) : List Int := l.mergeSort fun x y => decide (x ≤ y)
theorem ok140 {G : Nat → DV} (h : List Blk) (b : Nat) (l : List Int) (hb : h[b]? = some (.cells 1 (ints l))) (hl : l.length < 4611686018427387904) :
    Ok Try.prog G 140 [.sl b 0 l.length l.length] h (.tup []) (h.set b (.cells 1 (ints (sortT l)))) :=
  Ok_sort (P := Try.prog) (G := G) (f := 140) (Value.int .i64) (fun _ => rfl) sortT (fun l => by simp [sortT])
    (fun blk off cap zs w h1 h2 h3 => Any.slices_Sort_int laysSortI blk off cap zs w h1 h2 h3)
    (fun p cap w => Any.slices_Sort_int_none laysSortI p cap w) h b l hb hl
theorem mem_sortT {l : List Int} {x : Int} : x ∈ sortT l ↔ x ∈ l := by simp [sortT, List.mem_mergeSort]
theorem asc_sortT {l : List Int} (hn : l.Nodup) : asc (sortT l) := by
  have h1 : (sortT l).Pairwise fun a b => decide (a ≤ b) = true := List.pairwise_mergeSort (fun a b c h h' => by
    simp at h h' ⊢
    omega) (fun a b => by
    simp
    omega) _
  have h2 : (sortT l).Nodup := by
    rw [sortT, (List.mergeSort_perm _ _).nodup_iff]
    exact hn
  refine (h1.and h2).imp fun {a b} h => ?_
  simp [less] at h ⊢
  omega
theorem sortT_setOf {l : List Int} (hn : l.Nodup) : sortT l = setOf l := asc_ext (asc_sortT hn) (asc_setOf l) fun x => by rw [mem_sortT, mem_setOf]
theorem setOf_ext {a b : List Int} (h : ∀ x, x ∈ a ↔ x ∈ b) : setOf a = setOf b := asc_ext (asc_setOf a) (asc_setOf b) fun x => by rw [mem_setOf, mem_setOf, h]

end Go.Proofs.Ytdgnjngbheecnaa
