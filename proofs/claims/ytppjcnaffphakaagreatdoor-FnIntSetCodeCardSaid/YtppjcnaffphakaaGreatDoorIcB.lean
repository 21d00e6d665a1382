/- A set of numbers is read back. -/
import Derived.Test.YtppjcnaffphakaaGreatDoorIcA
import Derived.Test.YtppjcnaffphakaaGreatDoorPrB
import Derived.Test.YtppjcnaffphakaaGreatDoorMpB
set_option linter.unusedVariables false
set_option linter.unusedSimpArgs false
set_option maxRecDepth 100000
set_option maxHeartbeats 4000000
namespace Go.Proofs.YtppjcnaffphakaaGreatDoor
open Go Go.Den Go.Proofs

theorem msgI_read (S : List Int) (hm : S.length < 16) (hI : ∀ n, n ∈ S → I64 n) : readMsg readInt (msgI S.length S) = some (S, []) := by
  have h := Ex_readMsg (d := readInt) (hd := [UInt8.ofNat (144 + S.length)]) (S.map fun x => (encI x, x)) (by rw [List.length_map]; exact Ex_headsL (by omega) (by simp [headsL, heads]; omega)) (fun x hx => by
    obtain ⟨n, hn, rfl⟩ := List.mem_map.1 hx
    exact Ex_candI (hI n hn) (encI_mem n))
  have := h.out []
  have e1 : (S.map fun x => (encI x, x)).map (·.1) = S.map encI := by simp
  have e2 : (S.map fun x => (encI x, x)).map (·.2) = S := by simp [Function.comp_def]
  rw [e1, e2] at this
  simpa [msgI] using this
theorem keysI_len (l : List Int) : (keysI l).length = (setOf l).length := by
  have h := sortT_setOf (l := keysI l) (nodup_foldl l [] (by simp))
  have := congrArg List.length h
  rw [keysI_setOf] at this
  rw [← this, sortT, List.length_mergeSort]
theorem ok37 {G : Nat → DV} (hG : GZ G) (h : List Blk) (pb : Nat) (b : List UInt8) (xs : List Int) (r : List UInt8) (hp : h[pb]? = some (.cells 1 [.p (.map none)])) (hn : b.head? ≠ some 192) (hb : b.length ≤ 140737488351232) (hE : readMsg readInt b = some (xs, r)) :
    Ok Tryz.prog G 37 [.ptr pb 0 0 1, .fz 1 (bts b)] h (.p .nilIface) ((h ++ [Blk.map (smap (xs.foldl addNew []))]).set pb (.cells 1 [.mp h.length])) := by
  refine Ok_by Tryz.func37 c37_ok r37_ok 12 rfl ?_
  simp [c37, r37]
  refine FF_byR (ok36 hG h pb b hp hn hb) ?_
  intro v h1 hv
  rw [hE] at hv
  obtain ⟨rfl, rfl⟩ := hv
  simp
  exact WkV.refl
theorem ok19 {G : Nat → DV} (hG : GZ G) (h : List Blk) (b : List UInt8) (xs : List Int) (r : List UInt8) (hb : b.length ≤ 140737488351232) (hn : b.head? ≠ some 192) (hE : readMsg readInt b = some (xs, r)) (hx : xs.length ≤ 1000) :
    Ok Tryz.prog G 19 [.p (.int .i64 2), .p (.string (txt b))] h (.tup [.fz 1 (ints (setOf xs)), .p (.string ⟨#[]⟩), .p (.bool true)]) h := by
  refine Ok_by Tryz.func19 c19_ok r19_ok 33 rfl ?_
  simp [c19, r19]
  refine FF_by (ok37 hG (h ++ [.cells 1 [.p (.map none)]]) h.length b xs r (by simp) hn hb hE) ?_
  have e0 : ((h ++ [Blk.cells 1 [.p (.map none)]]) ++ [Blk.map (smap (xs.foldl addNew []))]).set h.length (.cells 1 [.mp (h ++ [Blk.cells 1 [.p (.map none)]]).length]) = h ++ [.cells 1 [.mp (h.length + 1)], .map (smap (xs.foldl addNew []))] := by simp
  rw [e0]
  simp
  have hfl : (xs.foldl addNew []).length ≤ xs.length := addNew_length xs
  refine DF_by (ok38 hG _ (h.length + 1) (xs.foldl addNew []) (by simp) (by omega) (nodup_foldl xs [] (by simp))) ?_
  rw [show setOf (xs.foldl addNew []) = setOf xs from keysI_setOf xs]
  simp [strOf]
  exact WkV.cut (HPre.append _ _) (Nat.le_refl _) id (by simp)
end Go.Proofs.YtppjcnaffphakaaGreatDoor
