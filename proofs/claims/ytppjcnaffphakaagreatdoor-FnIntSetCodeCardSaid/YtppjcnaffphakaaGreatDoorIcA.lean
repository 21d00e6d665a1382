/- A set of numbers is written: JSON, MessagePack, MessagePack behind a text. -/
import Derived.Test.YtppjcnaffphakaaGreatDoorJwB
set_option linter.unusedVariables false
set_option linter.unusedSimpArgs false
set_option maxRecDepth 100000
set_option maxHeartbeats 4000000
namespace Go.Proofs.YtppjcnaffphakaaGreatDoor
open Go Go.Den Go.Proofs

/-- The keys of the set that a list makes. -/
def keysI (l : List Int) : List Int := l.foldl addNew []
theorem keysI_setOf (l : List Int) : setOf (keysI l) = setOf l := setOf_ext fun x => by rw [keysI, mem_foldl]; simp
theorem ok14 {G : Nat → DV} (hG : GZ G) (h : List Blk) (l : List Int) (ahead : List UInt8) (hl : l.length ≤ 10) (hI : ∀ n, n ∈ l → I64 n) (ha : ahead.length ≤ 20) :
    Ok Tryz.prog G 14 [.fz 1 (ints l), .p (.bool false), .p (.string (txt ahead))] h
      (.tup [.p (.string (txt (91 :: jnI (setOf l) ++ [93]))), .p (.string (txt (msgI (keysI l).length (setOf l)))), .p (.string (txt (ahead ++ msgI (keysI l).length (setOf l)))), .p (.bool true)]) h := by
  refine Ok_by Tryz.func14 c14_ok r14_ok 50 rfl ?_
  have hk1 : (keysI l).length ≤ l.length := addNew_length l
  have hk2 : (keysI l).Nodup := nodup_foldl l [] (by simp)
  have hkI : ∀ k, k ∈ keysI l → I64 k := fun k hk => hI k (by rw [keysI, mem_foldl] at hk; simpa using hk)
  have hkS := keysI_setOf l
  simp [c14, r14]
  refine FF_by (ok28 h l (by omega)) ?_
  rw [show l.foldl addNew [] = keysI l from rfl]
  generalize keysI l = ks at hk1 hk2 hkI hkS ⊢
  rw [← hkS]
  simp
  refine FF_byR (ok29 hG (h ++ [.map (smap ks)]) h.length ks (by simp) hk2 (by omega) hkI) ?_
  rintro v h2 ⟨d1, rfl, ho1⟩
  have hm2 : h2[h.length]? = some (.map (smap ks)) := ho1.pre _ _ (by simp)
  simp
  refine FF_byR (ok30 hG h2 h2 (.p (.slice none 0 0)) [] h.length ks Own.nil hm2 hk2 (by omega) hkI (by simp)) ?_
  rintro v h3 ⟨d2, rfl, ho2, hl2⟩
  have hm3 : h3[h.length]? = some (.map (smap ks)) := ho2.pre _ _ hm2
  simp
  have hos : Own h3 1 (h3 ++ [.cells 1 (bts ahead)]) (.sl h3.length 0 ahead.length ahead.length) (bts ahead) := ⟨HPre.append _ _, .inr ⟨h3.length, by simp, Nat.le_refl _, by simp⟩⟩
  refine FF_byR (ok31 hG h3 _ _ ahead h.length ks hos hm3 hk2 (by omega) hkI (by omega)) ?_
  rintro v h4 ⟨d3, rfl, ho3, hl3⟩
  have p2 := ho2.pre
  have p3 := ho3.pre
  have s1 := (ho1.mono (HPre.trans p2 p3)).slice
  have s2 := (ho2.mono p3).slice
  have s3 := ho3.slice
  have hlen := encs_len (setOf ks)
  simp [s1, s2, s3]
  exact WkV.ofPure (HPre.trans (HPre.append _ _) (HPre.trans ho1.pre (HPre.trans p2 p3))) rfl
end Go.Proofs.YtppjcnaffphakaaGreatDoor
