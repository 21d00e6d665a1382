/- Addresses: the small functions of addresses. -/
import Derived.Test.YtdgnjngbheecnaaIpM
set_option linter.unusedVariables false
set_option linter.unusedSimpArgs false
set_option maxRecDepth 100000
namespace Go.Proofs.Ytdgnjngbheecnaa
open Go Go.Den Go.Proofs

def hnd (is v6 : Bool) (z : ByteArray) : DV := .agg [.p (.bool is), .p (.bool v6), .p (.string z)]
def adr (hi lo : Int) (is v6 : Bool) (z : ByteArray) : DV := .agg [.p (.int .u64 hi), .p (.int .u64 lo), .p (.bool is), .p (.bool v6), .p (.string z)]
theorem ok172 {G : Nat → DV} (h : List Blk) (v6 : Bool) (z : ByteArray) : Ok Try.prog G 172 [.agg [.p (.bool v6), .p (.string z)]] h (hnd true v6 z) h := by
  refine Ok_by Try.func172 c172_ok r172_ok 4 rfl ?_
  simp [c172, r172]
  exact WkV.ofPure (by simp) rfl
theorem ok131 {G : Nat → DV} (h : List Blk) : Ok Try.prog G 131 [] h (hnd false false ⟨#[]⟩) h := by
  refine Ok_by Try.func131 c131_ok r131_ok 2 rfl ?_
  simp [c131, r131]
  exact WkV.ofPure (by simp) rfl
theorem ok132 {G : Nat → DV} (h : List Blk) (is v6 : Bool) (z : ByteArray) : Ok Try.prog G 132 [hnd is v6 z] h (.agg [.p (.bool v6), .p (.string z)]) h := by
  refine Ok_by Try.func132 c132_ok r132_ok 4 rfl ?_
  simp [c132, r132, hnd]
  exact WkV.ofPure (by simp) rfl
theorem ok168 {G : Nat → DV} (h : List Blk) : Ok Try.prog G 168 [] h (hnd true false ⟨#[]⟩) h := by
  refine Ok_by Try.func168 c168_ok r168_ok 3 rfl ?_
  simp [c168, r168]
  refine FF_by (ok172 _ false ⟨#[]⟩) ?_
  simp [hnd]
  exact WkV.ofPure (by simp) rfl
theorem ok170 {G : Nat → DV} (h : List Blk) : Ok Try.prog G 170 [] h (hnd true true ⟨#[]⟩) h := by
  refine Ok_by Try.func170 c170_ok r170_ok 3 rfl ?_
  simp [c170, r170]
  refine FF_by (ok172 _ true ⟨#[]⟩) ?_
  simp [hnd]
  exact WkV.ofPure (by simp) rfl
theorem ok147 {G : Nat → DV} (h : List Blk) : Ok Try.prog G 147 [] h (adr 0 0 true true ⟨#[]⟩) h := by
  refine Ok_by Try.func147 c147_ok r147_ok 3 rfl ?_
  simp [c147, r147]
  refine FF_by (ok170 _) ?_
  simp [hnd]
  exact WkV.ofPure (by simp) rfl
theorem ok171 {G : Nat → DV} (h : List Blk) (hi lo : Int) (z : ByteArray) : Ok Try.prog G 171 [adr hi lo true true z] h (.p (.bool true)) h := by
  refine Ok_by Try.func171 c171_ok r171_ok 12 rfl ?_
  simp [c171, r171, adr]
  refine DF_by (ok131 _) ?_
  simp [hnd]
  refine DF_by (ok168 _) ?_
  simp [hnd]
theorem ok148 {G : Nat → DV} (h : List Blk) (hi lo : Int) (z : ByteArray) : Ok Try.prog G 148 [adr hi lo true true ⟨#[]⟩, .p (.string z)] h (adr hi lo true true z) h := by
  refine Ok_by Try.func148 c148_ok r148_ok 17 rfl ?_
  simp [c148, r148, adr]
  refine FF_by (ok171 _ hi lo ⟨#[]⟩) ?_
  simp
  refine CC_by (fun h1 => ?_) (fun h1 => ?_)
  · simp
    refine FF_by (ok170 _) ?_
    simp [hnd]
    have hz : z = ⟨#[]⟩ := by simpa using h1
    rw [hz]
    exact WkV.ofPure (by simp) rfl
  · simp
    refine FF_by (ok172 _ true z) ?_
    simp [hnd]
    exact WkV.ofPure (by simp) rfl
theorem ok105 {G : Nat → DV} (h : List Blk) (hi lo : Int) (v6 : Bool) (z : ByteArray) : Ok Try.prog G 105 [adr hi lo true v6 z] h (.p (.string z)) h := by
  refine Ok_by Try.func105 c105_ok r105_ok 10 rfl ?_
  simp [c105, r105, adr]
  refine DF_by (ok131 _) ?_
  simp [hnd]
  refine FF_by (ok132 _ true v6 z) ?_
  simp [hnd]
theorem ok173 {G : Nat → DV} (h : List Blk) (b N o c : Nat) (l : List UInt8) (hb : h[b]? = some (.cells N [.agg (bts l)])) (ho : o + 8 ≤ l.length) (hN : o + 8 ≤ N) (hc : 8 ≤ c) : ∃ n : Int, Ok Try.prog G 173 [.sa false 1 b 0 o 8 c 1] h (.p (.int .u64 n)) h := by
  apply Exists.intro
  refine Ok_by Try.func173 c173_ok r173_ok 51 rfl ?_
  have e : ∀ k, k < l.length → (bts l)[k]?.getD DV.any = .p (.int .u8 (l.getD k 0).toNat) := fun k hk => by
    simp [bts, byteD, List.getElem?_eq_getElem hk]
  have e0 := e o (by omega)
  have e1 := e (o + 1) (by omega)
  have e2 := e (o + 2) (by omega)
  have e3 := e (o + 3) (by omega)
  have e4 := e (o + 4) (by omega)
  have e5 := e (o + 5) (by omega)
  have e6 := e (o + 6) (by omega)
  have e7 := e (o + 7) (by omega)
  simp [c173, r173, hb, e0, e1, e2, e3, e4, e5, e6, e7]
  refine ⟨by omega, by omega, by omega, by omega, by omega, by omega, by omega, by omega, ?_⟩
  exact WkV.refl
theorem ok145 {G : Nat → DV} (h : List Blk) (a b c d : UInt8) : ∃ n : Int, Ok Try.prog G 145 [.agg (bts [a, b, c, d])] h (adr 0 n true false ⟨#[]⟩) h := by
  apply Exists.intro
  refine Ok_by Try.func145 c145_ok r145_ok 24 rfl ?_
  simp [c145, r145, bts]
  refine DF_by (ok168 _) ?_
  simp [hnd]
  exact WkV.ofPure (by simp) rfl
theorem ok149 {G : Nat → DV} (h : List Blk) (l : List UInt8) (hl : l.length = 16) : ∃ m n : Int, Ok Try.prog G 149 [.agg (bts l)] h (adr m n true true ⟨#[]⟩) h := by
  have k1 : ∀ x, ∃ n : Int, Ok Try.prog G 173 [.sa false 1 h.length 0 0 8 16 1] (h ++ [.cells 16 [.agg (bts l)], x]) (.p (.int .u64 n)) (h ++ [.cells 16 [.agg (bts l)], x]) := fun x => ok173 _ h.length 16 0 16 l (by simp) (by omega) (by omega) (by omega)
  have k2 : ∀ x, ∃ n : Int, Ok Try.prog G 173 [.sa false 1 h.length 0 8 8 8 1] (h ++ [.cells 16 [.agg (bts l)], x]) (.p (.int .u64 n)) (h ++ [.cells 16 [.agg (bts l)], x]) := fun x => ok173 _ h.length 16 8 8 l (by simp) (by omega) (by omega) (by omega)
  obtain ⟨m, k1⟩ := k1 (.cells 5 [adr 0 0 false false ⟨#[]⟩])
  obtain ⟨n, k2⟩ := k2 (.cells 5 [adr 0 0 false false ⟨#[]⟩])
  simp only [adr] at k1 k2
  refine ⟨m, n, ?_⟩
  refine Ok_by Try.func149 c149_ok r149_ok 9 rfl ?_
  simp [c149, r149, hl]
  refine DF_by k1 ?_
  simp
  refine DF_by k2 ?_
  simp
  refine DF_by (ok170 _) ?_
  simp [hnd]
  exact WkV.ofPure (by simp) rfl
end Go.Proofs.Ytdgnjngbheecnaa
