/- Addresses: an address of four numbers. -/
import Derived.Test.YtdgnjngbheecnaaIpO
set_option linter.unusedVariables false
set_option linter.unusedSimpArgs false
set_option maxRecDepth 100000
namespace Go.Proofs.Ytdgnjngbheecnaa
open Go Go.Den Go.Proofs

def A0 : DV := adr 0 0 false false ⟨#[]⟩
/-- What the reader of four numbers answers. -/
def Out4 (ok : Bool) (v : DV) : Prop := (ok = true ∧ ∃ n : Int, v = .tup [adr 0 n true false ⟨#[]⟩, .p .nilIface]) ∨ (ok = false ∧ ∃ E, IsErr E ∧ v = .tup [A0, E])
theorem ok129 {G : Nat → DV} (h : List Blk) (s : List UInt8) (hs : s.length ≤ 2147483647) : OkR Try.prog G 129 [.p (.string (txt s))] h fun v h' => h' = h ∧ Out4 (p4 s) v := by
  refine OkR_by Try.func129 c129_ok r129_ok 15 rfl ?_
  simp [c129, r129]
  have key := ok144 (G := G) (h ++ [.cells 5 [A0], .cells 4 [.agg (bts [0, 0, 0, 0])]]) [] s [] (h.length + 1) 4 0 4 [0, 0, 0, 0] (by simp) rfl (by omega) (by omega) (by simpa using hs)
  simp [A0, adr, bts, byteD] at key
  refine FF_byR key ?_
  rintro v h' ⟨⟨l', hl', rfl⟩, hv⟩
  match l', hl' with
  | [a, b, c, d], _ =>
    rcases hv with ⟨hp, rfl⟩ | ⟨hp, x, y, z, rfl⟩
    · obtain ⟨n, k⟩ := ok145 (G := G) (h ++ [.cells 5 [A0], .cells 4 [.agg (bts [a, b, c, d])]]) a b c d
      simp [A0, adr, bts, byteD] at k
      simp [isNilD]
      refine FF_by k ?_
      simp
      exact REr_by _ _ (WkV.ofPure (by simp) rfl) ⟨rfl, .inl ⟨hp, n, rfl⟩⟩
    · simp [isNilD]
      exact REr_by _ _ (WkV.ofPure (by simp) rfl) ⟨rfl, .inr ⟨hp, _, ⟨x, y, z, rfl⟩, rfl⟩⟩
end Go.Proofs.Ytdgnjngbheecnaa
