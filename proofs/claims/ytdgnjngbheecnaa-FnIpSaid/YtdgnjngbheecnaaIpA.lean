/- Addresses: the library's IndexByte; small functions. -/
import Derived.Test.YtdgnjngbheecnaaCodI
import Derived.Test.YtdgnjngbheecnaaIpL
import Derived.Shelf.Small.Strs
set_option linter.unusedVariables false
set_option linter.unusedSimpArgs false
set_option maxRecDepth 100000
namespace Go.Proofs.Ytdgnjngbheecnaa
open Go Go.Den Go.Proofs

/-- A call that only tells a value. -/
theorem Ok_tells {P : Program} {G : Nat → DV} {f : FuncId} {args : List Value} {v : Value} (hv : v.oneCell' = true) (hf : ∀ w, Calls P f args.toArray w fun e w' => e = .returned v ∧ w' = w) (h : List Blk) : Ok P G f (args.map .p) h (.p v) h := by
  intro e w vs he hH hr hg ht
  subst he
  have hvs : vs = args.toArray := by
    apply Array.ext
    · have := ht.1; simpa using this.symm
    · intro i h1 h2
      have h3 := ht.2 i (by simpa using h2) h1
      simp only [List.getElem_map] at h3
      simpa using (vr_p h3).1
  subst hvs
  refine (hf w).mono fun en w' ⟨h1, h2⟩ => ?_
  subst h2
  exact ⟨_, e, h1, hH, rfl, WS.refl _, hr, .p hv, Ev.refl e⟩
theorem ok146 {G : Nat → DV} (h : List Blk) (s : ByteArray) (c : Int) : Ok Try.prog G 146 [.p (.string s), .p (.int .u8 c)] h (.p (.int .i64 (Lib.indexByte s.data.toList c.toNat.toUInt8))) h :=
  Ok_tells (args := [.string s, .int .u8 c]) rfl (fun w => Any.strings_IndexByte laysIdx s c w) h
end Go.Proofs.Ytdgnjngbheecnaa
