/- JSON: units of four digits, runes of ASCII. -/
import Derived.Test.YtppjcnaffphakaaGreatDoorJsB
set_option linter.unusedVariables false
set_option linter.unusedSimpArgs false
set_option maxRecDepth 100000
set_option maxHeartbeats 4000000
namespace Go.Proofs.YtppjcnaffphakaaGreatDoor
open Go Go.Den Go.Proofs

def c92L0 : DC :=
  (.seq (.rg [⟨(some 17), .bin .lss (.t 16) (.c (.p (.int .i64 4))), none⟩])
    (.seq (.cond (.t 17) .skip
    (.exit 0))
    (.seq (.block 1 (.seq (.rgd [⟨⟨(some 18), .mov (.t 0), none⟩, 0, [0]⟩,
         ⟨⟨(some 19), .nilchk .ptr (.t 18), none⟩, 0, [0]⟩,
         ⟨⟨(some 20), .faddr false 0 1 (.t 19), none⟩, 0, [0]⟩,
         ⟨⟨(some 21), .load false 1 (.t 20), none⟩, 0, [0]⟩,
         ⟨⟨(some 22), .mov (.t 0), none⟩, 0, [0]⟩,
         ⟨⟨(some 23), .nilchk .ptr (.t 22), none⟩, 0, [0]⟩,
         ⟨⟨(some 24), .faddr false 1 1 (.t 23), none⟩, 0, [0]⟩,
         ⟨⟨(some 25), .load false 1 (.t 24), none⟩, 0, [0]⟩,
         ⟨⟨(some 26), .iaddr 1 (.t 21) (.t 25), none⟩, 0, [0]⟩,
         ⟨⟨(some 27), .load false 1 (.t 26), none⟩, 0, [0]⟩,
         ⟨⟨(some 4), .mov (.t 27), none⟩, 0, []⟩])
    (.seq (.block 2 (.seq (.rg [⟨(some 29), .mov (.t 4), none⟩,
          ⟨(some 30), .bin .geq (.t 29) (.c (.p (.int .u8 48))), none⟩,
          ⟨(some 31), .mov (.t 30), none⟩,
          ⟨(some 32), .mov (.t 4), (some (31, true))⟩,
          ⟨(some 33), .bin .leq (.t 32) (.c (.p (.int .u8 57))), (some (31, true))⟩,
          ⟨(some 34), .pick (.t 31) (.t 33) (.c (.p (.bool false))), none⟩,
          ⟨(some 28), .mov (.t 34), none⟩])
    (.cond (.t 28) (.rg [⟨(some 35), .mov (.t 2), none⟩,
            ⟨(some 36), .bin .shl (.t 35) (.c (.p (.int .u64 4))), none⟩,
            ⟨(some 37), .mov (.t 4), none⟩,
            ⟨(some 38), .bin .sub (.t 37) (.c (.p (.int .u8 48))), none⟩,
            ⟨(some 39), .cint .i32 (.t 38), none⟩,
            ⟨(some 40), .bin .or (.t 36) (.t 39), none⟩,
            ⟨(some 2), .mov (.t 40), none⟩])
    (.seq (.rg [⟨(some 42), .mov (.t 4), none⟩,
            ⟨(some 43), .bin .geq (.t 42) (.c (.p (.int .u8 97))), none⟩,
            ⟨(some 44), .mov (.t 43), none⟩,
            ⟨(some 45), .mov (.t 4), (some (44, true))⟩,
            ⟨(some 46), .bin .leq (.t 45) (.c (.p (.int .u8 102))), (some (44, true))⟩,
            ⟨(some 47), .pick (.t 44) (.t 46) (.c (.p (.bool false))), none⟩,
            ⟨(some 41), .mov (.t 47), none⟩])
    (.cond (.t 41) (.rg [⟨(some 48), .mov (.t 2), none⟩,
              ⟨(some 49), .bin .shl (.t 48) (.c (.p (.int .u64 4))), none⟩,
              ⟨(some 50), .mov (.t 4), none⟩,
              ⟨(some 51), .bin .sub (.t 50) (.c (.p (.int .u8 97))), none⟩,
              ⟨(some 52), .bin .add (.t 51) (.c (.p (.int .u8 10))), none⟩,
              ⟨(some 53), .cint .i32 (.t 52), none⟩,
              ⟨(some 54), .bin .or (.t 49) (.t 53), none⟩,
              ⟨(some 2), .mov (.t 54), none⟩])
    (.seq (.rg [⟨(some 56), .mov (.t 4), none⟩,
              ⟨(some 57), .bin .geq (.t 56) (.c (.p (.int .u8 65))), none⟩,
              ⟨(some 58), .mov (.t 57), none⟩,
              ⟨(some 59), .mov (.t 4), (some (58, true))⟩,
              ⟨(some 60), .bin .leq (.t 59) (.c (.p (.int .u8 70))), (some (58, true))⟩,
              ⟨(some 61), .pick (.t 58) (.t 60) (.c (.p (.bool false))), none⟩,
              ⟨(some 55), .mov (.t 61), none⟩])
    (.cond (.t 55) (.rg [⟨(some 62), .mov (.t 2), none⟩,
                ⟨(some 63), .bin .shl (.t 62) (.c (.p (.int .u64 4))), none⟩,
                ⟨(some 64), .mov (.t 4), none⟩,
                ⟨(some 65), .bin .sub (.t 64) (.c (.p (.int .u8 65))), none⟩,
                ⟨(some 66), .bin .add (.t 65) (.c (.p (.int .u8 10))), none⟩,
                ⟨(some 67), .cint .i32 (.t 66), none⟩,
                ⟨(some 68), .bin .or (.t 63) (.t 67), none⟩,
                ⟨(some 2), .mov (.t 68), none⟩])
    (.seq (.rg [⟨(some 2), .mov (.c (.p (.int .i32 0))), none⟩,
                ⟨(some 3), .mov (.c (.p (.bool false))), none⟩])
    .ret))))))))
    (.rg [⟨(some 69), .mov (.t 0), none⟩,
         ⟨(some 70), .nilchk .ptr (.t 69), none⟩,
         ⟨(some 71), .faddr false 1 1 (.t 70), none⟩,
         ⟨(some 72), .load false 1 (.t 71), none⟩,
         ⟨(some 73), .bin .add (.t 72) (.c (.p (.int .i64 1))), none⟩,
         ⟨(some 74), .nilchk .ptr (.t 69), none⟩,
         ⟨(some 75), .faddr false 1 1 (.t 74), none⟩,
         ⟨none, .store 1 (.t 75) (.t 73), none⟩]))))
    (.rg [⟨(some 76), .bin .add (.t 16) (.c (.p (.int .i64 1))), none⟩,
        ⟨(some 16), .mov (.t 76), none⟩]))))
theorem c92_cut : c92 =
  (.seq (.rg [⟨(some 2), .mov (.c (.p (.int .i32 0))), none⟩,
      ⟨(some 3), .mov (.c (.p (.bool false))), none⟩])
    (.seq (.seq (.rgd [⟨⟨(some 5), .mov (.t 0), none⟩, 0, [0]⟩,
      ⟨⟨(some 6), .nilchk .ptr (.t 5), none⟩, 0, [0]⟩,
      ⟨⟨(some 7), .faddr false 1 1 (.t 6), none⟩, 0, [0]⟩,
      ⟨⟨(some 8), .load false 1 (.t 7), none⟩, 0, [0]⟩,
      ⟨⟨(some 9), .bin .add (.t 8) (.c (.p (.int .i64 4))), none⟩, 0, [0]⟩,
      ⟨⟨(some 10), .mov (.t 0), none⟩, 0, [0]⟩,
      ⟨⟨(some 11), .nilchk .ptr (.t 10), none⟩, 0, [0]⟩,
      ⟨⟨(some 12), .faddr false 0 1 (.t 11), none⟩, 0, [0]⟩,
      ⟨⟨(some 13), .load false 1 (.t 12), none⟩, 0, [0]⟩,
      ⟨⟨(some 14), .lenl (.t 13), none⟩, 0, [0]⟩,
      ⟨⟨(some 15), .bin .gtr (.t 9) (.t 14), none⟩, 0, []⟩])
    (.cond (.t 15) (.seq (.rg [⟨(some 2), .mov (.c (.p (.int .i32 0))), none⟩,
        ⟨(some 3), .mov (.c (.p (.bool false))), none⟩])
    .ret)
    .skip))
    (.seq (.seq (.rg [⟨(some 16), .mov (.c (.p (.int .i64 0))), none⟩])
    (.block 0 (.loop c92L0)))
    (.seq (.rg [⟨(some 77), .mov (.t 2), none⟩,
      ⟨(some 2), .mov (.t 77), none⟩,
      ⟨(some 3), .mov (.c (.p (.bool true))), none⟩])
    .ret)))) := rfl

theorem wrap_s {k : IntKind} (n : Nat) (hn : n < 2 ^ (k.bits - 1)) : k.wrap (n : Int) = n := by
  unfold IntKind.wrap
  cases k <;> simp [IntKind.signed, IntKind.bits] at hn ⊢ <;> omega
theorem ior_s {k : IntKind} {a b : Nat} (ha : a < 2 ^ (k.bits - 1)) (hb : b < 2 ^ (k.bits - 1)) : ior k a b = ((a ||| b : Nat) : Int) := by
  have h2 : 2 ^ (k.bits - 1) ≤ 2 ^ k.bits := Nat.pow_le_pow_right (by decide) (by omega)
  unfold ior
  rw [ofInt_nat, ofInt_nat, BitVec.toNat_or, BitVec.toNat_ofNat, BitVec.toNat_ofNat, Nat.mod_eq_of_lt (Nat.lt_of_lt_of_le ha h2), Nat.mod_eq_of_lt (Nat.lt_of_lt_of_le hb h2)]
  exact wrap_s _ (Nat.or_lt_two_pow ha hb)
theorem ishl_s {k : IntKind} {a b : Nat} (h : a * 2 ^ b < 2 ^ (k.bits - 1)) (hb : b ≤ k.bits) : ishl k a b = ((a * 2 ^ b : Nat) : Int) := by
  unfold ishl
  have : min (b : Int).toNat k.bits = b := by simp; omega
  rw [this]
  have e : ((a : Int) * 2 ^ b) = ((a * 2 ^ b : Nat) : Int) := by simp
  rw [e]
  exact wrap_s _ h
theorem low {c : UInt8} (m i : Nat) (hm : m = 2 ^ i - 1) (hi : i ≤ 8) : IntKind.i32.wrap (iand .u8 (c.toNat : Int) ((m : Nat) : Int)) = ((c.toNat % 2 ^ i : Nat) : Int) := by
  have hp : 2 ^ i ≤ 2 ^ 8 := Nat.pow_le_pow_right (by decide) hi
  have hc := c.toNat_lt
  rw [iand_nat (k := .u8) rfl (by simpa [IntKind.bits] using hc) (by simp only [IntKind.bits]; have := Nat.two_pow_pos i; omega), hm, Nat.and_two_pow_sub_one_eq_mod]
  refine wrap_s _ ?_
  have : c.toNat % 2 ^ i < 2 ^ i := Nat.mod_lt _ (Nat.two_pow_pos i)
  simp only [IntKind.bits]
  omega
theorem low3 (c : UInt8) : IntKind.i32.wrap (iand .u8 (c.toNat : Int) 7) = ((c.toNat % 8 : Nat) : Int) := low 7 3 rfl (by decide)
theorem low4 (c : UInt8) : IntKind.i32.wrap (iand .u8 (c.toNat : Int) 15) = ((c.toNat % 16 : Nat) : Int) := low 15 4 rfl (by decide)
theorem low5 (c : UInt8) : IntKind.i32.wrap (iand .u8 (c.toNat : Int) 31) = ((c.toNat % 32 : Nat) : Int) := low 31 5 rfl (by decide)
theorem low6 (c : UInt8) : IntKind.i32.wrap (iand .u8 (c.toNat : Int) 63) = ((c.toNat % 64 : Nat) : Int) := low 63 6 rfl (by decide)
theorem ok90 {G : Nat → DV} (h : List Blk) (c : UInt8) (r : List UInt8) (hc : c.toNat < 128) : Ok Tryz.prog G 90 [.fz 1 (bts (c :: r))] h (.tup [.p (.int .i32 c.toNat), .p (.int .i64 1)]) h := by
  refine Ok_by Tryz.func90 c90_ok r90_ok 21 rfl ?_
  have hcI : (c.toNat : Int) < 128 := by omega
  have w1 : IntKind.i32.wrap (c.toNat : Int) = (c.toNat : Int) := by simp [IntKind.wrap, IntKind.bits, IntKind.signed]; omega
  have hl : (0 : Int) < (r.length : Int) + 1 := by omega
  simp [c90, r90]
  refine VV_once fun B he hr => ?_
  simp [hl, byteD, hcI, w1]
  refine hr _ ?_
  simp
theorem ok91 {G : Nat → DV} (h0 h : List Blk) (d : DV) (o : List UInt8) (c : UInt8) (ho : Own h0 1 h d (bts o)) (hc : c.toNat < 128) (hl : o.length ≤ 140737488351232) : OkR Tryz.prog G 91 [d, .p (.int .i32 c.toNat)] h fun v h' => Own h0 1 h' v (bts (o ++ [c])) ∧ h.length ≤ h'.length := by
  refine OkR_by Tryz.func91 c91_ok r91_ok 14 rfl ?_
  have w1 : IntKind.u32.wrap (c.toNat : Int) = (c.toNat : Int) := by simp [IntKind.wrap, IntKind.bits, IntKind.signed]; omega
  have w2 : IntKind.u8.wrap (c.toNat : Int) = (c.toNat : Int) := by simp [IntKind.wrap, IntKind.bits, IntKind.signed]; omega
  have hcI : (c.toNat : Int) ≤ 127 := by omega
  simp [c91, r91, w1, w2, hcI]
  refine AA_own ho.push (ys := bts [c]) (by simp [elemsOf, bts, byteD]) (by simp; omega) ?_
  intro d' h' ho' hle hoth
  simp
  rw [bts_append] at ho'
  exact REr_by _ _ WkV.refl ⟨ho', by simp at hle; omega⟩

/-- A small hexadecimal digit's number. -/
def hexv (c : UInt8) : Nat := if c.toNat ≤ 57 then c.toNat - 48 else c.toNat - 87
def hexc (c : UInt8) : Prop := (48 ≤ c.toNat ∧ c.toNat ≤ 57) ∨ (97 ≤ c.toNat ∧ c.toNat ≤ 102)
def hval (l : List UInt8) : Nat := l.foldl (fun n c => n * 16 + hexv c) 0
theorem hval_push (l : List UInt8) (c : UInt8) : hval (l ++ [c]) = hval l * 16 + hexv c := by simp [hval]
theorem hexv_lt {c : UInt8} (h : hexc c) : hexv c < 16 := by unfold hexv; rcases h with h | h <;> split <;> omega
theorem hval_lt : ∀ (n : Nat) (l : List UInt8), l.length = n → (∀ c, c ∈ l → hexc c) → hval l < 16 ^ n
  | 0, l, h, _ => by rw [List.eq_nil_of_length_eq_zero h]; simp [hval]
  | n + 1, l, h, hc => by
    obtain ⟨l', c, rfl⟩ : ∃ l' c, l = l' ++ [c] := ⟨l.dropLast, l.getLast (fun h2 => by rw [h2] at h; simp at h), (List.dropLast_concat_getLast _).symm⟩
    have h1 := hval_lt n l' (by simpa using h) fun c hc' => hc c (by simp [hc'])
    have h2 := hexv_lt (hc c (by simp))
    rw [hval_push, Nat.pow_succ]
    omega
theorem sh4 {a d : Nat} (h : a < 4096) (hd : d < 16) : ior .i32 (ishl .i32 (a : Int) 4) (d : Int) = ((a * 16 + d : Nat) : Int) := by
  have e1 : ishl .i32 (a : Int) 4 = ((a * 2 ^ 4 : Nat) : Int) := ishl_s (k := .i32) (b := 4) (by simp [IntKind.bits]; omega) (by decide)
  rw [e1, ior_s (by simp [IntKind.bits]; omega) (by simp [IntKind.bits]; omega), Nat.mul_comm a, ← Nat.two_pow_add_eq_or_of_lt (by omega : d < 2 ^ 4)]
theorem ok92 {G : Nat → DV} (h : List Blk) (rb a d : Nat) (l : List UInt8) (hb : h[rb]? = some (rdB l a d)) (ha : a + 4 ≤ l.length) (hl : l.length ≤ 140737488351232) (hh : ∀ c, c ∈ (l.drop a).take 4 → hexc c) :
    Ok Tryz.prog G 92 [.ptr rb 0 0 1] h (.tup [.p (.int .i32 (hval ((l.drop a).take 4))), .p (.bool true)]) (h.set rb (rdB l (a + 4) d)) := by
  refine Ok_by Tryz.func92 c92_ok r92_ok 77 rfl ?_
  have hbl : rb < h.length := (List.getElem?_eq_some_iff.1 hb).1
  have w4 : IntKind.i64.wrap ((a : Int) + 4) = (a : Int) + 4 := by simp [IntKind.wrap, IntKind.bits, IntKind.signed]; omega
  have n4 : ¬ (l.length : Int) < (a : Int) + 4 := by omega
  rw [c92_cut]
  simp [r92, hb, rdB, w4, n4]
  refine VV_fam (fun i : Nat => ⟨fr 78 [(0, .ptr rb 0 0 1), (2, .p (.int .i32 (hval ((l.drop a).take i)))), (3, .p (.bool false)), (16, .p (.int .i64 i))], h.set rb (rdB l (a + i) d)⟩)
    (fun i => i ≤ 4) (fun i => 4 - i) 0 (by omega) (by rw [Nat.add_zero, rd_same hb]; exact Wk.fits (by simp [hval])) ?_
  intro i hi B hbk he hr
  have hg : ∀ x, (h.set rb x)[rb]? = some x := fun x => rd_set hb x
  by_cases hlt : i < 4
  · have hp : a + i < l.length := by omega
    have hdl : i < (l.drop a).length := by simp; omega
    have e6 : (l.drop a)[i] = l[a + i] := by simp
    have htk : (l.drop a).take (i + 1) = (l.drop a).take i ++ [l[a + i]] := by rw [List.take_succ_eq_append_getElem hdl, e6]
    have hc : hexc l[a + i] := hh _ (by rw [← e6]; exact List.mem_take_iff_getElem.2 ⟨i, by simp; omega, rfl⟩)
    have hv := hval_lt i ((l.drop a).take i) (by simp; omega) fun c hc' => hh c (List.mem_of_mem_take (l := (l.drop a).take 4) (i := i) (by rw [List.take_take, Nat.min_eq_left (by omega)]; exact hc'))
    have hv2 : hval ((l.drop a).take i) < 4096 := Nat.lt_of_lt_of_le hv (by
      calc 16 ^ i ≤ 16 ^ 3 := Nat.pow_le_pow_right (by decide) (by omega)
        _ = 4096 := rfl)
    have hsh := sh4 hv2 (hexv_lt hc)
    rw [← hval_push, ← htk] at hsh
    have e4 : IntKind.i64.wrap ((i : Int) + 1) = ((i + 1 : Nat) : Int) := by simp [IntKind.wrap, IntKind.bits, IntKind.signed]; omega
    obtain ⟨p, hp2⟩ : ∃ p, p = a + i := ⟨_, rfl⟩
    simp only [← hp2] at hp htk hc hsh
    have hpI : (p : Int) < (l.length : Int) := by omega
    have e5 : IntKind.i64.wrap ((p : Int) + 1) = ((p + 1 : Nat) : Int) := wrap_succ hp (by omega)
    have hiI : (i : Int) < 4 := by omega
    rw [← hp2]
    obtain ⟨X, hX⟩ : ∃ X, X = hexv l[p] := ⟨_, rfl⟩
    rw [← hX] at hsh
    rcases hc with ⟨g1, g2⟩ | ⟨g1, g2⟩
    · have f1 : (48 : Int) ≤ (l[p].toNat : Int) := by omega
      have f2 : (l[p].toNat : Int) ≤ 57 := by omega
      have f3 : IntKind.u8.wrap ((l[p].toNat : Int) - 48) = (X : Int) := by rw [hX, hexv, if_pos g2]; simp [IntKind.wrap, IntKind.bits, IntKind.signed]; omega
      have hX16 : X < 16 := by rw [hX, hexv, if_pos g2]; omega
      have f4 : IntKind.i32.wrap (X : Int) = (X : Int) := by simp [IntKind.wrap, IntKind.bits, IntKind.signed]; omega
      simp [c92L0, hg, rdB, hp, hpI, hiI, f1, f2, f3, f4, hsh, e4, e5]
      refine hbk _ (i + 1) ?_ (by omega) (by omega)
      rw [show a + (i + 1) = p + 1 by omega]
      simp [rdB]
      exact Wk.fits (by simp)
    · have f0 : ¬ (l[p].toNat : Int) ≤ 57 := by omega
      have f1 : (48 : Int) ≤ (l[p].toNat : Int) := by omega
      have g3 : (97 : Int) ≤ (l[p].toNat : Int) := by omega
      have g4 : (l[p].toNat : Int) ≤ 102 := by omega
      have f3 : IntKind.u8.wrap (IntKind.u8.wrap ((l[p].toNat : Int) - 97) + 10) = (X : Int) := by rw [hX, hexv, if_neg (by omega)]; simp [IntKind.wrap, IntKind.bits, IntKind.signed]; omega
      have hX16 : X < 16 := by rw [hX, hexv, if_neg (by omega)]; omega
      have f4 : IntKind.i32.wrap (X : Int) = (X : Int) := by simp [IntKind.wrap, IntKind.bits, IntKind.signed]; omega
      simp [c92L0, hg, rdB, hp, hpI, hiI, f0, f1, g3, g4, f3, f4, hsh, e4, e5]
      refine hbk _ (i + 1) ?_ (by omega) (by omega)
      rw [show a + (i + 1) = p + 1 by omega]
      simp [rdB]
      exact Wk.fits (by simp)
  · have : i = 4 := by omega
    subst this
    simp [c92L0]
    refine he _ _ ?_
    simp
    exact WkV.refl
end Go.Proofs.YtppjcnaffphakaaGreatDoor
