/- The reference's reader of MessagePack: a list of numbers. -/
import Derived.Test.YtppjcnaffphakaaGreatDoorPrA
import Derived.Test.YtppjcnaffphakaaGreatDoorMwB
set_option linter.unusedVariables false
set_option linter.unusedSimpArgs false
set_option maxRecDepth 100000
set_option maxHeartbeats 4000000
namespace Go.Proofs.YtppjcnaffphakaaGreatDoor
open Go Go.Den Go.Proofs

def c17L0 : DC :=
  (.seq (.seq (.rg [⟨(some 14), .mov (.t 8), none⟩,
        ⟨(some 15), .mov (.t 7), none⟩,
        ⟨(some 16), .bin .lss (.t 14) (.t 15), none⟩,
        ⟨(some 17), .mov (.t 16), none⟩,
        ⟨(some 18), .mov (.t 6), (some (17, true))⟩,
        ⟨(some 19), .nilchk .ptr (.t 18), (some (17, true))⟩,
        ⟨(some 20), .faddr false 1 1 (.t 19), (some (17, true))⟩,
        ⟨(some 21), .load false 1 (.t 20), (some (17, true))⟩,
        ⟨(some 22), .un .not (.t 21), (some (17, true))⟩,
        ⟨(some 23), .pick (.t 17) (.t 22) (.c (.p (.bool false))), none⟩])
    (.cond (.t 23) .skip
    (.exit 0)))
    (.seq (.block 1 (.rg [⟨(some 26), .mov (.t 2), none⟩,
         ⟨(some 27), .mov (.t 6), none⟩,
         ⟨(some 28), .callr 34 [(.t 27)], none⟩,
         ⟨(some 29), .lit 1 [(.t 28)], none⟩,
         ⟨(some 30), .app 1 8 (.t 26) (.t 29), none⟩,
         ⟨(some 2), .mov (.t 30), none⟩]))
    (.rg [⟨(some 24), .mov (.t 8), none⟩,
        ⟨(some 25), .bin .add (.t 24) (.c (.p (.int .i64 1))), none⟩,
        ⟨(some 8), .mov (.t 25), none⟩])))
theorem c17_cut : c17 =
  (.seq (.rg [⟨(some 2), .mov (.c (.p (.slice none 0 0))), none⟩,
      ⟨(some 3), .mov (.c (.p (.bool false))), none⟩,
      ⟨(some 4), .mov (.c (.p (.string ⟨#[]⟩))), none⟩,
      ⟨(some 5), .mov (.c (.p (.bool false))), none⟩])
    (.seq (.rg [⟨(some 9), .mov (.t 0), none⟩,
      ⟨(some 10), .bld [.p (.string ⟨#[]⟩), .p (.bool false)] [(0, 1, (.t 9))], none⟩,
      ⟨(some 11), .box (.t 10), none⟩,
      ⟨(some 6), .mov (.t 11), none⟩])
    (.seq (.rg [⟨(some 12), .mov (.t 6), none⟩,
      ⟨(some 13), .callr 33 [(.t 12)], none⟩,
      ⟨(some 7), .mov (.t 13), none⟩])
    (.seq (.seq (.rg [⟨(some 8), .mov (.c (.p (.int .i64 0))), none⟩])
    (.block 0 (.loop c17L0)))
    (.seq (.rgd [⟨⟨(some 31), .mov (.t 2), none⟩, 0, [0]⟩,
      ⟨⟨(some 32), .mov (.t 7), none⟩, 0, [0]⟩,
      ⟨⟨(some 33), .bin .lss (.t 32) (.c (.p (.int .i64 0))), none⟩, 0, [0]⟩,
      ⟨⟨(some 34), .mov (.t 6), none⟩, 0, [0]⟩,
      ⟨⟨(some 35), .nilchk .ptr (.t 34), none⟩, 0, [0]⟩,
      ⟨⟨(some 36), .faddr false 0 1 (.t 35), none⟩, 0, [0]⟩,
      ⟨⟨(some 37), .load false 1 (.t 36), none⟩, 0, [0]⟩,
      ⟨⟨(some 38), .mov (.t 6), none⟩, 0, [0]⟩,
      ⟨⟨(some 39), .nilchk .ptr (.t 38), none⟩, 0, [0]⟩,
      ⟨⟨(some 40), .faddr false 1 1 (.t 39), none⟩, 0, [0]⟩,
      ⟨⟨(some 41), .load false 1 (.t 40), none⟩, 0, [0]⟩,
      ⟨⟨(some 42), .un .not (.t 41), none⟩, 0, [0]⟩,
      ⟨⟨(some 2), .mov (.t 31), none⟩, 0, [0]⟩,
      ⟨⟨(some 3), .mov (.t 33), none⟩, 0, [0]⟩,
      ⟨⟨(some 4), .mov (.t 37), none⟩, 0, [0]⟩,
      ⟨⟨(some 5), .mov (.t 42), none⟩, 0, []⟩])
    .ret))))) := rfl


theorem encI_first (n : Int) : ∃ c r, encI n = c :: r ∧ (c.toNat < 204 ∨ 208 ≤ c.toNat) := by
  unfold encI
  split
  · rename_i h
    refine ⟨_, _, rfl, ?_⟩
    rw [UInt8.toNat_ofNat']
    omega
  · split
    · exact ⟨_, _, rfl, by decide⟩
    · split
      · exact ⟨_, _, rfl, by decide⟩
      · split
        · exact ⟨_, _, rfl, by decide⟩
        · exact ⟨_, _, rfl, by decide⟩
theorem wf_prB {B : Nat → Prop} {l : List UInt8} : (prB l).wf B := fun j hj => by
  simp at hj
  subst hj
  simp
def encs (l : List Int) : List UInt8 := (l.map encI).flatten
theorem ok17 {G : Nat → DV} (h : List Blk) (S : List Int) (hm : S.length < 16) (hI : ∀ n, n ∈ S → I64 n) :
    Ok Tryz.prog G 17 [.p (.string (txt (msgI S.length S)))] h (.tup [.fz 1 (ints S), .p (.bool false), .p (.string (txt [])), .p (.bool true)]) h := by
  refine Ok.wf fun hw => ?_
  refine Ok_by Tryz.func17 c17_ok r17_ok 42 rfl ?_
  have hel := encs_len S
  have e0 : msgI S.length S = UInt8.ofNat (144 + S.length) :: encs S := rfl
  rw [e0]
  have c33 := ok33 (G := G) (h ++ [prB (UInt8.ofNat (144 + S.length) :: encs S)]) h.length S.length (encs S) (by simp) hm (by rw [encs]; omega)
  generalize UInt8.ofNat (144 + S.length) :: encs S = X at c33 ⊢
  rw [c17_cut]
  simp [r17]
  refine FF_by c33 ?_
  simp
  refine VV_fam (fun q : Nat × List Blk × DV => ⟨fr 43 [(2, q.2.2), (3, .p (.bool false)), (4, .p (.string ⟨#[]⟩)), (5, .p (.bool false)), (6, .ptr h.length 0 0 1), (7, .p (.int .i64 S.length)), (8, .p (.int .i64 q.1))], q.2.1⟩)
    (fun q => q.1 ≤ S.length ∧ Own (h ++ [prB (encs (S.drop q.1))]) 1 q.2.1 q.2.2 (ints (S.take q.1))) (fun q => S.length - q.1) (0, _, .p (.slice none 0 0)) ⟨by simp, by simpa using Own.nil⟩ (Wk.fits (by simp)) ?_
  rintro ⟨i, h2, dk⟩ ⟨hi, ho⟩ B hbk he hr
  simp only at hi ho
  have g1 : h2[h.length]? = some (prB (encs (S.drop i))) := ho.pre _ _ (by simp)
  have g1' := g1
  simp only [prB] at g1'
  by_cases hlt : i < S.length
  · have e4 : IntKind.i64.wrap ((i : Int) + 1) = ((i + 1 : Nat) : Int) := wrap_succ hlt (by omega)
    have hltI : (i : Int) < (S.length : Int) := by omega
    obtain ⟨c, r, hc, hcc⟩ := encI_first S[i]
    have hed : encs (S.drop i) = c :: (r ++ encs (S.drop (i + 1))) := by
      rw [List.drop_eq_getElem_cons hlt, encs, List.map_cons, List.flatten_cons, hc]; rfl
    have hrd : readInt (c :: (r ++ encs (S.drop (i + 1)))) = some (S[i], encs (S.drop (i + 1))) := by
      have := (Ex_candI (hI _ (List.getElem_mem hlt)) (encI_mem S[i])).out (encs (S.drop (i + 1)))
      rw [hc] at this
      exact this
    have hel2 := encs_len (S.drop i)
    rw [show ((S.drop i).map encI).flatten = encs (S.drop i) from rfl, hed] at hel2
    simp only [List.length_cons, List.length_drop] at hel2
    have c34 := ok34 (G := G) h2 h.length c _ _ S[i] (by rw [g1, hed]) hrd hcc (by omega)
    have ho2 := ho.setb (c := h.length) (by simp) (prB (encs (S.drop (i + 1))))
    have e6 : (h ++ [prB (encs (S.drop i))]).set h.length (prB (encs (S.drop (i + 1)))) = h ++ [prB (encs (S.drop (i + 1)))] := by simp
    rw [e6] at ho2
    generalize h2.set h.length (prB (encs (S.drop (i + 1)))) = h3 at c34 ho2
    simp [c17L0, hlt, hltI, g1']
    refine FF_by c34 ?_
    simp
    refine AA_own (els := ints (S.take i)) (ho2.push (x := [_])) (ys := ints [S[i]]) (by simp [elemsOf, ints]) (by simp; omega) ?_
    intro d4 h4 ho4 _ _
    have e7 : ints (S.take i) ++ ints [S[i]] = ints (S.take (i + 1)) := by
      rw [List.take_succ_eq_append_getElem hlt]
      simp only [ints, List.map_append]
    rw [e7] at ho4
    simp [e4]
    refine hbk _ (i + 1, h4, d4) ?_ ⟨hlt, ho4⟩ (by dsimp only; omega)
    exact Wk.fits (by simp)
  · have : i = S.length := by omega
    subst this
    rw [List.take_length] at ho
    rw [List.drop_length] at ho g1'
    have e8 : encs [] = [] := rfl
    rw [e8] at ho g1'
    simp [c17L0]
    refine he _ _ ?_
    simp [g1']
    refine WkV.ofFrz (by simp) (fun b k hb => .inl (ho.pre b k (get_pre hb _))) (fun hh => hh) fun hh => ?_
    have hf := ho.frzT (fun b k hb => .inl (ho.pre b k (get_pre hb _))) hh (by simp) ints_plain
    exact .tup (.cons hf (.cons .p (.cons .p (.cons .p .nil))))
end Go.Proofs.YtppjcnaffphakaaGreatDoor
