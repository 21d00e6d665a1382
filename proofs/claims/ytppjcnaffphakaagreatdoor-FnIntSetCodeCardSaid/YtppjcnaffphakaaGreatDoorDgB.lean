/- Numbers as they are written. -/
import Derived.Test.YtppjcnaffphakaaGreatDoorDgA
set_option linter.unusedVariables false
set_option linter.unusedSimpArgs false
set_option maxRecDepth 100000
set_option maxHeartbeats 4000000
namespace Go.Proofs.YtppjcnaffphakaaGreatDoor
open Go Go.Den Go.Proofs

def c177L0 : DC :=
  (.seq (.seq (.rg [⟨(some 14), .mov (.t 6), none⟩,
        ⟨(some 15), .bin .eql (.t 14) (.c (.p (.int .i64 64))), none⟩,
        ⟨(some 16), .mov (.t 15), none⟩,
        ⟨(some 17), .mov (.t 0), (some (16, false))⟩,
        ⟨(some 18), .bin .gtr (.t 17) (.c (.p (.int .u64 0))), (some (16, false))⟩,
        ⟨(some 19), .pick (.t 16) (.c (.p (.bool true))) (.t 18), none⟩])
    (.cond (.t 19) .skip
    (.exit 0)))
    (.block 1 (.seq (.rg [⟨(some 20), .mov (.t 6), none⟩,
         ⟨(some 21), .bin .sub (.t 20) (.c (.p (.int .i64 1))), none⟩,
         ⟨(some 6), .mov (.t 21), none⟩])
    (.seq (.rg [⟨(some 22), .mov (.t 6), none⟩,
         ⟨(some 23), .mov (.t 0), none⟩,
         ⟨(some 24), .mov (.t 1), none⟩,
         ⟨(some 25), .cint .u64 (.t 24), none⟩,
         ⟨(some 26), .bin .rem (.t 23) (.t 25), none⟩,
         ⟨(some 27), .idxs (.c (.p (.string ⟨#[48, 49, 50, 51, 52, 53, 54, 55, 56, 57, 97, 98, 99, 100, 101, 102, 103, 104, 105, 106, 107, 108, 109, 110, 111, 112, 113, 114, 115, 116, 117, 118, 119, 120, 121, 122]⟩))) (.t 26), none⟩,
         ⟨(some 28), .iaddra 64 1 false (.t 5) (.t 22), none⟩,
         ⟨none, .store 1 (.t 28) (.t 27), none⟩])
    (.rg [⟨(some 29), .mov (.t 0), none⟩,
         ⟨(some 30), .mov (.t 1), none⟩,
         ⟨(some 31), .cint .u64 (.t 30), none⟩,
         ⟨(some 32), .bin .quo (.t 29) (.t 31), none⟩,
         ⟨(some 0), .mov (.t 32), none⟩])))))
theorem c177_cut : c177 =
  (.seq (.rg [⟨(some 4), .mov (.c (.p (.string ⟨#[]⟩))), none⟩])
    (.seq (.seq (.rg [⟨(some 7), .mov (.t 1), none⟩,
      ⟨(some 8), .bin .lss (.t 7) (.c (.p (.int .i64 2))), none⟩,
      ⟨(some 9), .mov (.t 8), none⟩,
      ⟨(some 10), .mov (.t 1), (some (9, false))⟩,
      ⟨(some 11), .bin .gtr (.t 10) (.c (.p (.int .i64 36))), (some (9, false))⟩,
      ⟨(some 12), .pick (.t 9) (.c (.p (.bool true))) (.t 11), none⟩])
    (.cond (.t 12) (.rg [⟨(some 13), .ifc 9 (.c (.p (.string ⟨#[115, 116, 114, 99, 111, 110, 118, 58, 32, 105, 108, 108, 101, 103, 97, 108, 32, 65, 112, 112, 101, 110, 100, 73, 110, 116, 47, 70, 111, 114, 109, 97, 116, 73, 110, 116, 32, 98, 97, 115, 101]⟩))), none⟩,
        ⟨none, .stop, none⟩])
    .skip))
    (.seq (.rg [⟨(some 5), .alloc 64 (.agg [.p (.int .u8 0), .p (.int .u8 0), .p (.int .u8 0), .p (.int .u8 0), .p (.int .u8 0), .p (.int .u8 0), .p (.int .u8 0), .p (.int .u8 0), .p (.int .u8 0), .p (.int .u8 0), .p (.int .u8 0), .p (.int .u8 0), .p (.int .u8 0), .p (.int .u8 0), .p (.int .u8 0), .p (.int .u8 0), .p (.int .u8 0), .p (.int .u8 0), .p (.int .u8 0), .p (.int .u8 0), .p (.int .u8 0), .p (.int .u8 0), .p (.int .u8 0), .p (.int .u8 0), .p (.int .u8 0), .p (.int .u8 0), .p (.int .u8 0), .p (.int .u8 0), .p (.int .u8 0), .p (.int .u8 0), .p (.int .u8 0), .p (.int .u8 0), .p (.int .u8 0), .p (.int .u8 0), .p (.int .u8 0), .p (.int .u8 0), .p (.int .u8 0), .p (.int .u8 0), .p (.int .u8 0), .p (.int .u8 0), .p (.int .u8 0), .p (.int .u8 0), .p (.int .u8 0), .p (.int .u8 0), .p (.int .u8 0), .p (.int .u8 0), .p (.int .u8 0), .p (.int .u8 0), .p (.int .u8 0), .p (.int .u8 0), .p (.int .u8 0), .p (.int .u8 0), .p (.int .u8 0), .p (.int .u8 0), .p (.int .u8 0), .p (.int .u8 0), .p (.int .u8 0), .p (.int .u8 0), .p (.int .u8 0), .p (.int .u8 0), .p (.int .u8 0), .p (.int .u8 0), .p (.int .u8 0), .p (.int .u8 0)]), none⟩])
    (.seq (.rg [⟨(some 6), .mov (.c (.p (.int .i64 64))), none⟩])
    (.seq (.block 0 (.loop c177L0))
    (.seq (.rg [⟨(some 33), .mov (.t 6), none⟩,
      ⟨(some 34), .slca 64 1 false (.t 5) (some (.t 33)) none, none⟩,
      ⟨(some 35), .b2s (.t 34), none⟩,
      ⟨(some 4), .mov (.t 35), none⟩])
    .ret)))))) := rfl


/-- So many digits have been written; x is left. -/
def Dig (u x : Nat) (D : List UInt8) : Prop := (D = [] ∧ x = u) ∨ (D ≠ [] ∧ if x = 0 then Lib.decDigits u = D else Lib.decDigits u = Lib.decDigits x ++ D)
theorem dig_step {u x : Nat} {D : List UInt8} (h : Dig u x D) (hx : D = [] ∨ 0 < x) : Dig u (x / 10) (UInt8.ofNat (48 + x % 10) :: D) := by
  refine .inr ⟨by simp, ?_⟩
  have hd := dd_eq x
  rcases h with ⟨rfl, rfl⟩ | ⟨hne, h⟩
  · split at hd
    · rw [if_pos (by omega), hd, Nat.mod_eq_of_lt (by omega)]
    · rw [if_neg (by omega), hd]
  · have hx0 : x ≠ 0 := by rcases hx with h1 | h1; exact absurd h1 hne; omega
    rw [if_neg hx0] at h
    split at hd
    · rw [if_pos (by omega), h, hd, Nat.mod_eq_of_lt (by omega)]; rfl
    · rw [if_neg (by omega), h, hd]; simp
theorem dig_end {u : Nat} {D : List UInt8} (h : Dig u 0 D) (hD : D ≠ []) : Lib.decDigits u = D := by
  rcases h with ⟨h, _⟩ | ⟨_, h⟩
  · exact absurd h hD
  · simpa using h
theorem dig_len {u x : Nat} {D : List UInt8} (h : Dig u x D) (hu : u < 18446744073709551616) (hx : D = [] ∨ 0 < x) : D.length ≤ 19 := by
  have h20 := dd_len u hu
  rcases h with ⟨rfl, _⟩ | ⟨hne, h⟩
  · simp
  · have hx0 : x ≠ 0 := by rcases hx with h1 | h1; exact absurd h1 hne; omega
    rw [if_neg hx0] at h
    have h3 := List.length_pos_iff.2 (dd_ne x)
    rw [h, List.length_append] at h20
    omega
def bufL (D : List UInt8) : List UInt8 := List.replicate (64 - D.length) 0 ++ D
theorem bufL_len {D : List UInt8} (h : D.length ≤ 64) : (bufL D).length = 64 := by simp [bufL]; omega
theorem bufL_set {D : List UInt8} (c : UInt8) (h : D.length < 64) : (bufL D).set (63 - D.length) c = bufL (c :: D) := by
  obtain ⟨m, hm⟩ : ∃ m, 64 - D.length = m + 1 := ⟨63 - D.length, by omega⟩
  have e1 : 63 - D.length = m := by omega
  have e2 : 64 - (c :: D).length = m := by simp; omega
  rw [bufL, bufL, hm, e1, e2, List.replicate_succ', List.append_assoc, List.set_append_right _ _ (by simp)]
  simp
theorem ok177 {G : Nat → DV} (h : List Blk) (u : Nat) (hu : u < 18446744073709551616) : Ok Tryz.prog G 177 [.p (.int .u64 u), .p (.int .i64 10)] h (.p (.string (txt (Lib.decDigits u)))) h := by
  refine Ok_by Tryz.func177 c177_ok r177_ok 34 rfl ?_
  rw [c177_cut]
  simp [r177]
  refine VV_fam (fun q : Nat × List UInt8 => ⟨fr 36 [(0, .p (.int .u64 q.1)), (1, .p (.int .i64 10)), (5, .ptr h.length 0 0 1), (6, .p (.int .i64 ((64 - q.2.length : Nat) : Int)))], h ++ [.cells 64 [.agg (bts (bufL q.2))]]⟩)
    (fun q => Dig u q.1 q.2 ∧ q.1 ≤ u ∧ q.2.length ≤ 64) (fun q => 64 - q.2.length) (u, []) ⟨.inl ⟨rfl, rfl⟩, Nat.le_refl _, by simp⟩ (Wk.fits (by simp)) ?_
  rintro ⟨x, D⟩ ⟨hD, hxu, hD64⟩ B hbk he hr
  simp only at hD hxu hD64
  obtain ⟨n, hn⟩ : ∃ n, n = 64 - D.length := ⟨_, rfl⟩
  by_cases hgo : D = [] ∨ 0 < x
  · have h19 := dig_len hD hu hgo
    have hst := dig_step hD hgo
    have hset := bufL_set (D := D) (UInt8.ofNat (48 + x % 10)) (by omega)
    have hBl := bufL_len hD64
    have ht : (x : Int).tmod 10 = ((x % 10 : Nat) : Int) := by rw [Int.tmod_eq_emod_of_nonneg (by omega)]; simp
    have hq : (x : Int).tdiv 10 = ((x / 10 : Nat) : Int) := by rw [Int.tdiv_eq_ediv_of_nonneg (by omega)]; simp
    have w1 : IntKind.i64.wrap ((n : Int) - 1) = ((63 - D.length : Nat) : Int) := by simp [IntKind.wrap, IntKind.bits, IntKind.signed]; omega
    have w2 : IntKind.u64.wrap ((x / 10 : Nat) : Int) = ((x / 10 : Nat) : Int) := by simp [IntKind.wrap, IntKind.bits, IntKind.signed]; omega
    have w3 : IntKind.u64.wrap ((x % 10 : Nat) : Int) = ((x % 10 : Nat) : Int) := by simp [IntKind.wrap, IntKind.bits, IntKind.signed]; omega
    have hm : x % 10 < 10 := Nat.mod_lt _ (by decide)
    have hcond : ((n : Int) == 64) = true ∨ (((n : Int) == 64) = false ∧ (0 : Int) < (x : Int)) := by
      rcases hgo with h1 | h1
      · left; subst h1; simp at hn; simp [hn]
      · by_cases h2 : n = 64
        · left; simp [h2]
        · right; exact ⟨by simp; omega, by omega⟩
    obtain ⟨m, hm0⟩ : ∃ m, m = x % 10 := ⟨_, rfl⟩
    obtain ⟨y, hy0⟩ : ∃ y, y = x / 10 := ⟨_, rfl⟩
    have hyx : y ≤ x := by omega
    rw [← hm0] at ht w3 hm hst hset
    rw [← hy0] at hq w2 hst
    have wt : IntKind.u64.wrap 10 = 10 := by decide
    rw [← hn]
    have hidx : ([48, 49, 50, 51, 52, 53, 54, 55, 56, 57, 97, 98, 99, 100, 101, 102, 103, 104, 105, 106, 107, 108, 109, 110, 111, 112, 113, 114, 115, 116, 117, 118, 119, 120, 121, 122] : List UInt8)[m]?.getD 0 = UInt8.ofNat (48 + m) := by
      have key : ∀ k : Fin 10, ([48, 49, 50, 51, 52, 53, 54, 55, 56, 57, 97, 98, 99, 100, 101, 102, 103, 104, 105, 106, 107, 108, 109, 110, 111, 112, 113, 114, 115, 116, 117, 118, 119, 120, 121, 122] : List UInt8)[k.val]?.getD 0 = UInt8.ofNat (48 + k.val) := by decide
      exact key ⟨m, hm⟩
    generalize UInt8.ofNat (48 + m) = c at hidx hst hset
    have hcell : bts (List.take (63 - D.length) (bufL D)) ++ ([DV.p (.int .u8 c.toNat)] ++ bts (List.drop (63 - D.length + 1) (bufL D))) = bts (bufL (c :: D)) := by
      rw [← hset, List.set_eq_take_append_cons_drop, if_pos (by omega)]
      simp [bts, byteD]
    have fin : ∀ t : List DV, fits t (fr 36 [(0, .p (.int .u64 y)), (1, .p (.int .i64 10)), (5, .ptr h.length 0 0 1), (6, .p (.int .i64 ((63 - D.length : Nat) : Int)))]) true → B .nrm ⟨t, h ++ [.cells 64 [.agg (bts (List.take (63 - D.length) (bufL D)) ++ ([DV.p (.int .u8 c.toNat)] ++ bts (List.drop (63 - D.length + 1) (bufL D))))]]⟩ := fun t hf => by
      rw [hcell]
      refine hbk _ (y, c :: D) ?_ ⟨hst, by dsimp only; omega, by dsimp only; rw [List.length_cons]; omega⟩ (by dsimp only; rw [List.length_cons]; omega)
      have e : 64 - (c :: D).length = 63 - D.length := by rw [List.length_cons]; omega
      rw [e]
      exact Wk.fits hf
    rcases hcond with h1 | ⟨h1, h2⟩
    · simp [c177L0, h1, w1, ht, hq, w2, w3, wt, hidx, byteD]
      refine ⟨by omega, by omega, ?_⟩
      exact fin _ (by simp)
    · have h2' : 0 < x := by omega
      simp [c177L0, h1, h2, h2', w1, ht, hq, w2, w3, wt, hidx, byteD]
      refine ⟨by omega, by omega, ?_⟩
      exact fin _ (by simp)
  · have hD0 : D ≠ [] := fun h1 => hgo (.inl h1)
    have hx0 : x = 0 := by
      rcases Nat.eq_zero_or_pos x with h1 | h1
      · exact h1
      · exact absurd (.inr h1) hgo
    subst hx0
    have hlen := List.length_pos_iff.2 hD0
    have h64 : ((n : Int) == 64) = false := by simp; omega
    have he64 := dig_end hD hD0
    have h20 := dd_len u hu
    rw [he64] at h20
    have hdr : (bufL D).drop n = D := by rw [hn, bufL, List.drop_left' (by simp)]
    have hBl := bufL_len hD64
    rw [← hn]
    simp [c177L0, h64]
    refine he _ _ ?_
    simp
    have hl : D.length = 64 - n := by omega
    have hg : ∀ a (ha : a < D.length), (bts (bufL D))[n + a]?.getD .any = .p (.int .u8 D[a].toNat) := fun a ha => by
      have e1 : (bts (bufL D))[n + a]? = (bts ((bufL D).drop n))[a]? := by simp [bts]
      rw [e1, hdr]
      exact bts_get ha
    refine ⟨by omega, fun a ha => ?_, ?_⟩
    · rw [hg a (by omega)]
      exact isByte_bts (l := [D[a]'(by omega)]) _ (by simp [bts, byteD])
    · have e2 : (List.range (64 - n)).map (fun j => (bts (bufL D))[n + j]?.getD .any) = bts D := by
        apply List.ext_getElem
        · simp; omega
        · intro i h1 h2
          have hi : i < D.length := by simpa using h2
          simp only [List.getElem_map, List.getElem_range]
          rw [hg i hi]
          simp [bts, byteD]
      rw [e2, he64, strOf_bts]
      exact WkV.ofPure (HPre.append _ _) rfl
theorem ok187 {G : Nat → DV} (h : List Blk) (n : Int) (hn : I64 n) : Ok Tryz.prog G 187 [.p (.int .i64 n), .p (.int .i64 10)] h (.p (.string (txt (decI n)))) h := by
  refine Ok_by Tryz.func187 c187_ok r187_ok 15 rfl ?_
  obtain ⟨h1, h2⟩ := hn
  have hm : n.natAbs < 18446744073709551616 := by omega
  have c177 := ok177 (G := G) h n.natAbs hm
  have hlen := dd_len n.natAbs hm
  rw [decI_eq]
  by_cases h0 : n < 0
  · have w1 : IntKind.u64.wrap (-IntKind.u64.wrap n) = (n.natAbs : Int) := by simp [IntKind.wrap, IntKind.bits, IntKind.signed]; omega
    rw [if_pos h0]
    simp [c187, r187, h0, w1]
    refine FF_by c177 ?_
    simp
    omega
  · have w1 : IntKind.u64.wrap n = (n.natAbs : Int) := by simp [IntKind.wrap, IntKind.bits, IntKind.signed]; omega
    rw [if_neg h0]
    simp [c187, r187, h0, w1]
    refine FF_by c177 ?_
    simp
theorem decI_len (n : Int) (h : I64 n) : (decI n).length ≤ 21 := by
  obtain ⟨h1, h2⟩ := h
  have := dd_len n.natAbs (by omega)
  rw [decI_eq]
  split <;> simp <;> omega
theorem ok199 {G : Nat → DV} (h0 h : List Blk) (d : DV) (o : List UInt8) (n : Int) (ho : Own h0 1 h d (bts o)) (hn : I64 n) (hl : o.length ≤ 1000000) :
    OkR Tryz.prog G 199 [d, .p (.int .i64 n), .p (.int .i64 10)] h (Wrote h0 h (o ++ decI n)) := by
  refine OkR_by Tryz.func199 c199_ok r199_ok 9 rfl ?_
  have hlen := decI_len n hn
  simp [c199, r199]
  refine FF_by (ok187 h n hn) ?_
  simp
  refine AA_own ho (ys := bts (decI n)) (by simp [elemsOf, bts, txt]) (by simp; omega) ?_
  intro d2 h2 ho2 hle2 _
  rw [bts_append] at ho2
  simp
  exact REr_by _ _ WkV.refl ⟨ho2, by omega⟩
end Go.Proofs.YtppjcnaffphakaaGreatDoor
