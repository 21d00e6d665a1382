/- Numbers: their texts, and how they are read. -/
import Derived.Test.YtppjcnaffphakaaDoorSpB
import Derived.Test.YtppjcnaffphakaaDoorJsA
import Derived.Lib.ItoaNum
set_option linter.unusedVariables false
set_option linter.unusedSimpArgs false
set_option maxRecDepth 100000
set_option maxHeartbeats 4000000
namespace Go.Proofs.YtppjcnaffphakaaDoor
open Go Go.Den Go.Proofs

/-- A number's text. -/
def decI (n : Int) : List UInt8 := Lib.itoa n
/-- What digits mean. -/
def dval (l : List UInt8) : Nat := l.foldl (fun n c => n * 10 + (c.toNat - 48)) 0
theorem dval_push (l : List UInt8) (c : UInt8) : dval (l ++ [c]) = dval l * 10 + (c.toNat - 48) := by simp [dval]
theorem dval_mono : ∀ (l : List UInt8) (i : Nat), dval (l.take i) ≤ dval l := by
  have h : ∀ (l : List UInt8) (a : Nat), a ≤ l.foldl (fun n c => n * 10 + (c.toNat - 48)) a := by
    intro l
    induction l with
    | nil => intro a; simp
    | cons c l ih =>
      intro a
      have := ih (a * 10 + (c.toNat - 48))
      simp only [List.foldl_cons]
      omega
  intro l i
  have e := List.take_append_drop i l
  have : dval l = (l.drop i).foldl (fun n c => n * 10 + (c.toNat - 48)) (dval (l.take i)) := by
    conv => lhs; rw [← e]
    rw [dval, List.foldl_append]
    rfl
  rw [this]
  exact h _ _
theorem dd_eq (u : Nat) : Lib.decDigits u = if u < 10 then [UInt8.ofNat (48 + u)] else Lib.decDigits (u / 10) ++ [UInt8.ofNat (48 + u % 10)] := by
  rw [Lib.decDigits]
  split <;> rfl
theorem dig_toNat (k : Nat) (h : k < 10) : (UInt8.ofNat (48 + k)).toNat = 48 + k := by
  rw [UInt8.toNat_ofNat']
  omega
theorem dd_digits : ∀ (u : Nat) (c : UInt8), c ∈ Lib.decDigits u → isD c = true := by
  intro u
  induction u using Nat.strongRecOn with
  | _ u ih =>
    intro c hc
    rw [dd_eq] at hc
    split at hc
    · rename_i h
      have := List.mem_singleton.1 hc
      rw [this, isD, dig_toNat _ h]
      simp; omega
    · rename_i h
      rcases List.mem_append.1 hc with h1 | h1
      · exact ih (u / 10) (by omega) c h1
      · have := List.mem_singleton.1 h1
        rw [this, isD, dig_toNat _ (by omega)]
        simp; omega
theorem dd_dval : ∀ (u : Nat), dval (Lib.decDigits u) = u := by
  intro u
  induction u using Nat.strongRecOn with
  | _ u ih =>
    rw [dd_eq]
    split
    · rename_i h
      simp only [dval, List.foldl_cons, List.foldl_nil]
      rw [dig_toNat _ h]; omega
    · rename_i h
      rw [dval_push, ih (u / 10) (by omega), dig_toNat _ (by omega)]
      omega
theorem dd_ne (u : Nat) : Lib.decDigits u ≠ [] := by
  rw [dd_eq]
  split <;> simp
/-- The first digit is no 0, but that of 0. -/
theorem dd_head : ∀ (u : Nat), u ≠ 0 → (Lib.decDigits u).head? ≠ some 48 := by
  intro u
  induction u using Nat.strongRecOn with
  | _ u ih =>
    intro h0
    rw [dd_eq]
    split
    · rename_i h
      simp only [List.head?_cons, ne_eq, Option.some.injEq]
      intro h1
      have := congrArg UInt8.toNat h1
      rw [dig_toNat _ h] at this
      have h2 : (48 : UInt8).toNat = 48 := rfl
      omega
    · rename_i h
      have h1 := ih (u / 10) (by omega) (by omega)
      cases hd : Lib.decDigits (u / 10) with
      | nil => exact absurd hd (dd_ne _)
      | cons c l => rw [hd] at h1; simpa using h1
theorem dd_0 : Lib.decDigits 0 = [48] := by rw [dd_eq]; rfl
theorem decI_eq (n : Int) : decI n = if n < 0 then 45 :: Lib.decDigits n.natAbs else Lib.decDigits n.natAbs := by
  unfold decI Lib.itoa
  split
  · rfl
  · rw [show n.toNat = n.natAbs by omega]

def c94L0 : DC :=
  (.seq (.rg [⟨(some 89), .bin .lss (.t 88) (.t 87), none⟩])
    (.seq (.cond (.t 89) .skip
    (.exit 2))
    (.seq (.block 3 (.seq (.rg [⟨(some 90), .iaddr 1 (.t 86) (.t 88), none⟩,
         ⟨(some 91), .load false 1 (.t 90), none⟩,
         ⟨(some 14), .mov (.t 91), none⟩])
    (.seq (.rg [⟨(some 15), .mov (.c (.p (.int .u64 0))), none⟩])
    (.seq (.block 4 (.seq (.rg [⟨(some 94), .mov (.t 14), none⟩,
          ⟨(some 95), .bin .eql (.t 94) (.c (.p (.int .u8 95))), none⟩,
          ⟨(some 96), .mov (.t 95), none⟩,
          ⟨(some 97), .mov (.t 8), (some (96, true))⟩,
          ⟨(some 98), .pick (.t 96) (.t 97) (.c (.p (.bool false))), none⟩,
          ⟨(some 93), .mov (.t 98), none⟩])
    (.cond (.t 93) (.seq (.rg [⟨(some 12), .mov (.c (.p (.bool true))), none⟩])
    (.exit 3))
    (.seq (.rg [⟨(some 100), .mov (.t 14), none⟩,
            ⟨(some 101), .bin .leq (.c (.p (.int .u8 48))) (.t 100), none⟩,
            ⟨(some 102), .mov (.t 101), none⟩,
            ⟨(some 103), .mov (.t 14), (some (102, true))⟩,
            ⟨(some 104), .bin .leq (.t 103) (.c (.p (.int .u8 57))), (some (102, true))⟩,
            ⟨(some 105), .pick (.t 102) (.t 104) (.c (.p (.bool false))), none⟩,
            ⟨(some 99), .mov (.t 105), none⟩])
    (.cond (.t 99) (.rg [⟨(some 106), .mov (.t 14), none⟩,
              ⟨(some 107), .bin .sub (.t 106) (.c (.p (.int .u8 48))), none⟩,
              ⟨(some 108), .cint .u64 (.t 107), none⟩,
              ⟨(some 15), .mov (.t 108), none⟩])
    (.seq (.rg [⟨(some 110), .mov (.t 14), none⟩,
              ⟨(some 111), .callr 95 [(.t 110)], none⟩,
              ⟨(some 112), .bin .leq (.c (.p (.int .u8 97))) (.t 111), none⟩,
              ⟨(some 113), .mov (.t 112), none⟩,
              ⟨(some 114), .mov (.t 14), (some (113, true))⟩,
              ⟨(some 115), .callr 95 [(.t 114)], (some (113, true))⟩,
              ⟨(some 116), .bin .leq (.t 115) (.c (.p (.int .u8 122))), (some (113, true))⟩,
              ⟨(some 117), .pick (.t 113) (.t 116) (.c (.p (.bool false))), none⟩,
              ⟨(some 109), .mov (.t 117), none⟩])
    (.cond (.t 109) (.rg [⟨(some 118), .mov (.t 14), none⟩,
                ⟨(some 119), .callr 95 [(.t 118)], none⟩,
                ⟨(some 120), .bin .sub (.t 119) (.c (.p (.int .u8 97))), none⟩,
                ⟨(some 121), .cint .u64 (.t 120), none⟩,
                ⟨(some 122), .bin .add (.t 121) (.c (.p (.int .u64 10))), none⟩,
                ⟨(some 15), .mov (.t 122), none⟩])
    (.seq (.rg [⟨(some 92), .ifc 147 (.c (.p (.string ⟨#[105, 110, 118, 97, 108, 105, 100, 32, 115, 121, 110, 116, 97, 120]⟩))), none⟩,
                ⟨(some 6), .mov (.c (.p (.int .u64 0))), none⟩,
                ⟨(some 7), .mov (.t 92), none⟩])
    .ret))))))))
    (.seq (.seq (.rg [⟨(some 123), .mov (.t 15), none⟩,
         ⟨(some 124), .mov (.t 1), none⟩,
         ⟨(some 125), .cint .u64 (.t 124), none⟩,
         ⟨(some 126), .bin .geq (.t 123) (.t 125), none⟩])
    (.cond (.t 126) (.seq (.rg [⟨(some 127), .ifc 147 (.c (.p (.string ⟨#[105, 110, 118, 97, 108, 105, 100, 32, 115, 121, 110, 116, 97, 120]⟩))), none⟩,
           ⟨(some 6), .mov (.c (.p (.int .u64 0))), none⟩,
           ⟨(some 7), .mov (.t 127), none⟩])
    .ret)
    .skip))
    (.seq (.seq (.rg [⟨(some 128), .mov (.t 15), none⟩,
         ⟨(some 129), .mov (.t 10), none⟩,
         ⟨(some 130), .bin .gtr (.t 128) (.t 129), none⟩,
         ⟨(some 131), .mov (.t 130), none⟩,
         ⟨(some 132), .mov (.t 11), (some (131, false))⟩,
         ⟨(some 133), .mov (.t 10), (some (131, false))⟩,
         ⟨(some 134), .mov (.t 15), (some (131, false))⟩,
         ⟨(some 135), .bin .sub (.t 133) (.t 134), (some (131, false))⟩,
         ⟨(some 136), .mov (.t 1), (some (131, false))⟩,
         ⟨(some 137), .cint .u64 (.t 136), (some (131, false))⟩,
         ⟨(some 138), .bin .quo (.t 135) (.t 137), (some (131, false))⟩,
         ⟨(some 139), .bin .gtr (.t 132) (.t 138), (some (131, false))⟩,
         ⟨(some 140), .pick (.t 131) (.c (.p (.bool true))) (.t 139), none⟩])
    (.cond (.t 140) (.seq (.rg [⟨(some 141), .mov (.t 10), none⟩,
           ⟨(some 142), .ifc 147 (.c (.p (.string ⟨#[118, 97, 108, 117, 101, 32, 111, 117, 116, 32, 111, 102, 32, 114, 97, 110, 103, 101]⟩))), none⟩,
           ⟨(some 6), .mov (.t 141), none⟩,
           ⟨(some 7), .mov (.t 142), none⟩])
    .ret)
    .skip))
    (.rg [⟨(some 143), .mov (.t 11), none⟩,
         ⟨(some 144), .mov (.t 1), none⟩,
         ⟨(some 145), .cint .u64 (.t 144), none⟩,
         ⟨(some 146), .bin .mul (.t 143) (.t 145), none⟩,
         ⟨(some 147), .mov (.t 15), none⟩,
         ⟨(some 148), .bin .add (.t 146) (.t 147), none⟩,
         ⟨(some 11), .mov (.t 148), none⟩])))))))
    (.rg [⟨(some 149), .bin .add (.t 88) (.c (.p (.int .i64 1))), none⟩,
        ⟨(some 88), .mov (.t 149), none⟩]))))
theorem c94_cut : c94 =
  (.seq (.rg [⟨(some 6), .mov (.c (.p (.int .u64 0))), none⟩,
      ⟨(some 7), .mov (.c (.p .nilIface)), none⟩])
    (.seq (.seq (.rg [⟨(some 16), .mov (.t 0), none⟩,
      ⟨(some 17), .bin .eql (.t 16) (.c (.p (.string ⟨#[]⟩))), none⟩])
    (.cond (.t 17) (.seq (.rg [⟨(some 18), .ifc 147 (.c (.p (.string ⟨#[105, 110, 118, 97, 108, 105, 100, 32, 115, 121, 110, 116, 97, 120]⟩))), none⟩,
        ⟨(some 6), .mov (.c (.p (.int .u64 0))), none⟩,
        ⟨(some 7), .mov (.t 18), none⟩])
    .ret)
    .skip))
    (.seq (.rg [⟨(some 19), .mov (.t 1), none⟩,
      ⟨(some 20), .bin .eql (.t 19) (.c (.p (.int .i64 0))), none⟩,
      ⟨(some 21), .mov (.t 0), none⟩,
      ⟨(some 8), .mov (.t 20), none⟩,
      ⟨(some 9), .mov (.t 21), none⟩])
    (.seq (.block 0 (.seq (.rg [⟨(some 24), .mov (.t 1), none⟩,
       ⟨(some 25), .bin .leq (.c (.p (.int .i64 2))) (.t 24), none⟩,
       ⟨(some 26), .mov (.t 25), none⟩,
       ⟨(some 27), .mov (.t 1), (some (26, true))⟩,
       ⟨(some 28), .bin .leq (.t 27) (.c (.p (.int .i64 36))), (some (26, true))⟩,
       ⟨(some 29), .pick (.t 26) (.t 28) (.c (.p (.bool false))), none⟩,
       ⟨(some 23), .mov (.t 29), none⟩])
    (.cond (.t 23) .skip
    (.seq (.rg [⟨(some 31), .mov (.t 8), none⟩,
         ⟨(some 30), .mov (.t 31), none⟩])
    (.cond (.t 30) (.seq (.rg [⟨(some 1), .mov (.c (.p (.int .i64 10))), none⟩])
    (.seq (.rg [⟨(some 32), .mov (.t 0), none⟩,
           ⟨(some 33), .idxs (.t 32) (.c (.p (.int .i64 0))), none⟩,
           ⟨(some 34), .bin .eql (.t 33) (.c (.p (.int .u8 48))), none⟩])
    (.cond (.t 34) (.block 1 (.seq (.rg [⟨(some 38), .mov (.t 0), none⟩,
              ⟨(some 39), .lens (.t 38), none⟩,
              ⟨(some 40), .bin .geq (.t 39) (.c (.p (.int .i64 3))), none⟩,
              ⟨(some 41), .mov (.t 40), none⟩,
              ⟨(some 42), .mov (.t 0), (some (41, true))⟩,
              ⟨(some 43), .idxs (.t 42) (.c (.p (.int .i64 1))), (some (41, true))⟩,
              ⟨(some 44), .callr 95 [(.t 43)], (some (41, true))⟩,
              ⟨(some 45), .bin .eql (.t 44) (.c (.p (.int .u8 98))), (some (41, true))⟩,
              ⟨(some 46), .pick (.t 41) (.t 45) (.c (.p (.bool false))), none⟩,
              ⟨(some 37), .mov (.t 46), none⟩])
    (.cond (.t 37) (.rgd [⟨⟨(some 47), .mov (.t 0), none⟩, 0, []⟩,
                ⟨⟨(some 48), .slcs (.t 47) (some (.c (.p (.int .i64 2)))) none, none⟩, 0, []⟩,
                ⟨⟨(some 1), .mov (.c (.p (.int .i64 2))), none⟩, 0, []⟩,
                ⟨⟨(some 0), .mov (.t 48), none⟩, 0, []⟩])
    (.seq (.rg [⟨(some 50), .mov (.t 0), none⟩,
                ⟨(some 51), .lens (.t 50), none⟩,
                ⟨(some 52), .bin .geq (.t 51) (.c (.p (.int .i64 3))), none⟩,
                ⟨(some 53), .mov (.t 52), none⟩,
                ⟨(some 54), .mov (.t 0), (some (53, true))⟩,
                ⟨(some 55), .idxs (.t 54) (.c (.p (.int .i64 1))), (some (53, true))⟩,
                ⟨(some 56), .callr 95 [(.t 55)], (some (53, true))⟩,
                ⟨(some 57), .bin .eql (.t 56) (.c (.p (.int .u8 111))), (some (53, true))⟩,
                ⟨(some 58), .pick (.t 53) (.t 57) (.c (.p (.bool false))), none⟩,
                ⟨(some 49), .mov (.t 58), none⟩])
    (.cond (.t 49) (.rgd [⟨⟨(some 59), .mov (.t 0), none⟩, 0, []⟩,
                  ⟨⟨(some 60), .slcs (.t 59) (some (.c (.p (.int .i64 2)))) none, none⟩, 0, []⟩,
                  ⟨⟨(some 1), .mov (.c (.p (.int .i64 8))), none⟩, 0, []⟩,
                  ⟨⟨(some 0), .mov (.t 60), none⟩, 0, []⟩])
    (.seq (.rg [⟨(some 62), .mov (.t 0), none⟩,
                  ⟨(some 63), .lens (.t 62), none⟩,
                  ⟨(some 64), .bin .geq (.t 63) (.c (.p (.int .i64 3))), none⟩,
                  ⟨(some 65), .mov (.t 64), none⟩,
                  ⟨(some 66), .mov (.t 0), (some (65, true))⟩,
                  ⟨(some 67), .idxs (.t 66) (.c (.p (.int .i64 1))), (some (65, true))⟩,
                  ⟨(some 68), .callr 95 [(.t 67)], (some (65, true))⟩,
                  ⟨(some 69), .bin .eql (.t 68) (.c (.p (.int .u8 120))), (some (65, true))⟩,
                  ⟨(some 70), .pick (.t 65) (.t 69) (.c (.p (.bool false))), none⟩,
                  ⟨(some 61), .mov (.t 70), none⟩])
    (.cond (.t 61) (.rgd [⟨⟨(some 71), .mov (.t 0), none⟩, 0, []⟩,
                    ⟨⟨(some 72), .slcs (.t 71) (some (.c (.p (.int .i64 2)))) none, none⟩, 0, []⟩,
                    ⟨⟨(some 1), .mov (.c (.p (.int .i64 16))), none⟩, 0, []⟩,
                    ⟨⟨(some 0), .mov (.t 72), none⟩, 0, []⟩])
    (.rgd [⟨⟨(some 35), .mov (.t 0), none⟩, 0, []⟩,
                    ⟨⟨(some 36), .slcs (.t 35) (some (.c (.p (.int .i64 1)))) none, none⟩, 0, []⟩,
                    ⟨⟨(some 1), .mov (.c (.p (.int .i64 8))), none⟩, 0, []⟩,
                    ⟨⟨(some 0), .mov (.t 36), none⟩, 0, []⟩]))))))))
    .skip)))
    (.seq (.rg [⟨(some 22), .ifc 147 (.c (.p (.string ⟨#[105, 110, 118, 97, 108, 105, 100, 32, 98, 97, 115, 101]⟩))), none⟩,
           ⟨(some 6), .mov (.c (.p (.int .u64 0))), none⟩,
           ⟨(some 7), .mov (.t 22), none⟩])
    .ret))))))
    (.seq (.seq (.rg [⟨(some 73), .mov (.t 2), none⟩,
      ⟨(some 74), .bin .eql (.t 73) (.c (.p (.int .i64 0))), none⟩])
    (.cond (.t 74) (.rg [⟨(some 2), .mov (.c (.p (.int .i64 64))), none⟩])
    (.seq (.rg [⟨(some 75), .mov (.t 2), none⟩,
        ⟨(some 76), .bin .lss (.t 75) (.c (.p (.int .i64 0))), none⟩,
        ⟨(some 77), .mov (.t 76), none⟩,
        ⟨(some 78), .mov (.t 2), (some (77, false))⟩,
        ⟨(some 79), .bin .gtr (.t 78) (.c (.p (.int .i64 64))), (some (77, false))⟩,
        ⟨(some 80), .pick (.t 77) (.c (.p (.bool true))) (.t 79), none⟩])
    (.cond (.t 80) (.seq (.rg [⟨(some 81), .ifc 147 (.c (.p (.string ⟨#[105, 110, 118, 97, 108, 105, 100, 32, 98, 105, 116, 32, 115, 105, 122, 101]⟩))), none⟩,
          ⟨(some 6), .mov (.c (.p (.int .u64 0))), none⟩,
          ⟨(some 7), .mov (.t 81), none⟩])
    .ret)
    .skip))))
    (.seq (.rg [⟨(some 82), .mov (.t 2), none⟩,
      ⟨(some 83), .bin .shl (.c (.p (.int .u64 1))) (.t 82), none⟩,
      ⟨(some 84), .bin .sub (.t 83) (.c (.p (.int .u64 1))), none⟩,
      ⟨(some 10), .mov (.t 84), none⟩])
    (.seq (.rg [⟨(some 11), .mov (.c (.p (.int .u64 0))), none⟩])
    (.seq (.rg [⟨(some 12), .mov (.c (.p (.bool false))), none⟩])
    (.seq (.seq (.rg [⟨(some 85), .mov (.t 0), none⟩,
      ⟨(some 86), .s2b (.t 85), none⟩,
      ⟨(some 87), .lenl (.t 86), none⟩,
      ⟨(some 88), .mov (.c (.p (.int .i64 0))), none⟩])
    (.block 2 (.loop c94L0)))
    (.seq (.seq (.rg [⟨(some 150), .mov (.t 12), none⟩,
      ⟨(some 151), .mov (.t 150), none⟩,
      ⟨(some 152), .mov (.t 9), (some (151, true))⟩,
      ⟨(some 153), .callr 96 [(.t 152)], (some (151, true))⟩,
      ⟨(some 154), .un .not (.t 153), (some (151, true))⟩,
      ⟨(some 155), .pick (.t 151) (.t 154) (.c (.p (.bool false))), none⟩])
    (.cond (.t 155) (.seq (.rg [⟨(some 156), .ifc 147 (.c (.p (.string ⟨#[105, 110, 118, 97, 108, 105, 100, 32, 115, 121, 110, 116, 97, 120]⟩))), none⟩,
        ⟨(some 6), .mov (.c (.p (.int .u64 0))), none⟩,
        ⟨(some 7), .mov (.t 156), none⟩])
    .ret)
    .skip))
    (.seq (.rg [⟨(some 157), .mov (.t 11), none⟩,
      ⟨(some 6), .mov (.t 157), none⟩,
      ⟨(some 7), .mov (.c (.p .nilIface)), none⟩])
    .ret))))))))))) := rfl

theorem ok94 {G : Nat → DV} (h : List Blk) (l : List UInt8) (hne : l ≠ []) (hd : ∀ c, c ∈ l → isD c = true) (hv : dval l < 18446744073709551616) (hl : l.length ≤ 140737488351232) :
    Ok Tryd.prog G 94 [.p (.string (txt l)), .p (.int .i64 10), .p (.int .i64 64)] h (.tup [.p (.int .u64 (dval l)), .p .nilIface]) h := by
  refine Ok_by Tryd.func94 c94_ok r94_ok 155 rfl ?_
  rw [c94_cut]
  simp [r94, hne, show IntKind.u64.wrap (ishl .u64 1 64 - 1) = 18446744073709551615 by decide]
  refine VV_fam (fun i : Nat => ⟨fr 158 [(0, .p (.string (txt l))), (1, .p (.int .i64 10)), (2, .p (.int .i64 64)), (6, .p (.int .u64 0)), (7, .p .nilIface), (8, .p (.bool false)), (9, .p (.string (txt l))), (10, .p (.int .u64 18446744073709551615)), (11, .p (.int .u64 (dval (l.take i)))), (12, .p (.bool false)), (86, .fz 1 (bts l)), (87, .p (.int .i64 l.length)), (88, .p (.int .i64 i))], h⟩)
    (fun i => i ≤ l.length) (fun i => l.length - i) 0 (by omega) (Wk.fits (by simp [dval])) ?_
  intro i hi B hbk he hr
  by_cases hlt : i < l.length
  · have hdc := hd l[i] (List.getElem_mem hlt)
    simp only [isD, Bool.and_eq_true, decide_eq_true_eq] at hdc
    obtain ⟨d1, d2⟩ := hdc
    have hm := dval_mono l (i + 1)
    have hs : dval (l.take (i + 1)) = dval (l.take i) * 10 + (l[i].toNat - 48) := by rw [List.take_succ_eq_append_getElem hlt, dval_push]
    have e5 : (bts l)[i]?.getD .any = .p (.int .u8 l[i].toNat) := bts_get hlt
    have e4 : IntKind.i64.wrap ((i : Int) + 1) = ((i + 1 : Nat) : Int) := wrap_succ hlt (by omega)
    have f1 : ((l[i].toNat : Int) == 95) = false := by simp; omega
    have f2 : (48 : Int) ≤ (l[i].toNat : Int) := by omega
    have f3 : (l[i].toNat : Int) ≤ 57 := by omega
    obtain ⟨D, hD⟩ : ∃ D, D = l[i].toNat - 48 := ⟨_, rfl⟩
    have f4 : IntKind.u8.wrap ((l[i].toNat : Int) - 48) = (D : Int) := by simp [IntKind.wrap, IntKind.bits, IntKind.signed]; omega
    have f5 : IntKind.u64.wrap (D : Int) = (D : Int) := by simp [IntKind.wrap, IntKind.bits, IntKind.signed]; omega
    have f6 : ¬ (10 : Int) ≤ (D : Int) := by omega
    have f7 : ¬ (18446744073709551615 : Int) < (D : Int) := by omega
    rw [← hD] at hs
    rw [hs] at hm
    generalize hn : dval (l.take i) = n at hs hm
    have f8 : IntKind.u64.wrap (18446744073709551615 - (D : Int)) = 18446744073709551615 - (D : Int) := by simp [IntKind.wrap, IntKind.bits, IntKind.signed]; omega
    have f9 : IntKind.u64.wrap ((18446744073709551615 - (D : Int)).tdiv 10) = (18446744073709551615 - (D : Int)) / 10 := by
      rw [Int.tdiv_eq_ediv_of_nonneg (by omega)]
      simp [IntKind.wrap, IntKind.bits, IntKind.signed]; omega
    have f10 : ¬ (18446744073709551615 - (D : Int)) / 10 < (n : Int) := by omega
    have f11 : IntKind.u64.wrap ((n : Int) * 10) = (n : Int) * 10 := by simp [IntKind.wrap, IntKind.bits, IntKind.signed]; omega
    have f12 : IntKind.u64.wrap ((n : Int) * 10 + (D : Int)) = ((n * 10 + D : Nat) : Int) := by simp [IntKind.wrap, IntKind.bits, IntKind.signed]; omega
    have hltI : (i : Int) < (l.length : Int) := by omega
    simp [c94L0, hn, e5, hlt, f1, f2, f3, f4, f5, f6, f7, f8, f9, f10, f11, f12, e4, hltI, show IntKind.u64.wrap 10 = 10 by decide]
    refine hbk _ (i + 1) ?_ hlt (by omega)
    rw [hs]
    exact Wk.fits (by simp)
  · have : i = l.length := by omega
    subst this
    simp [c94L0]
    refine he _ _ ?_
    simp

theorem dd_len (u : Nat) (h : u < 18446744073709551616) : (Lib.decDigits u).length ≤ 20 := by
  have : ∀ k u, u < 10 ^ (k + 1) → (Lib.decDigits u).length ≤ k + 1 := by
    intro k
    induction k with
    | zero => intro u hu; rw [dd_eq, if_pos (by omega)]; simp
    | succ k ih =>
      intro u hu
      rw [dd_eq]
      split
      · simp
      · have := ih (u / 10) (by rw [Nat.pow_succ] at hu; omega)
        simp; omega
  refine this 19 u ?_
  have : (10 : Nat) ^ 20 = 100000000000000000000 := by decide
  omega
theorem decI_len (n : Int) (h : I64 n) : (decI n).length ≤ 21 := by
  obtain ⟨h1, h2⟩ := h
  have := dd_len n.natAbs (by omega)
  rw [decI_eq]
  split <;> simp <;> omega
theorem ok93 {G : Nat → DV} (h : List Blk) (n : Int) (hn : I64 n) : Ok Tryd.prog G 93 [.p (.string (txt (decI n))), .p (.int .i64 10), .p (.int .i64 64)] h (.tup [.p (.int .i64 n), .p .nilIface]) h := by
  refine Ok_by Tryd.func93 c93_ok r93_ok 73 rfl ?_
  obtain ⟨h1, h2⟩ := hn
  have hm : n.natAbs < 18446744073709551616 := by omega
  have c94 := ok94 (G := G) h (Lib.decDigits n.natAbs) (dd_ne _) (dd_digits _) (by rw [dd_dval]; omega) (by have := dd_len n.natAbs hm; omega)
  rw [dd_dval] at c94
  rw [decI_eq]
  have w0 : IntKind.i64.wrap 63 = 63 := by decide
  have w1 : ishl .u64 1 63 = 9223372036854775808 := by decide
  by_cases h0 : n < 0
  · rw [if_pos h0]
    have g1 : ¬ (9223372036854775808 : Int) < (n.natAbs : Int) := by omega
    have g2 : IntKind.i64.wrap (0 - IntKind.i64.wrap (n.natAbs : Int)) = n := by
      simp [IntKind.wrap, IntKind.bits, IntKind.signed]; omega
    generalize Lib.decDigits n.natAbs = L at c94 ⊢
    generalize n.natAbs = m at g1 g2 c94
    simp [c93, r93, byteD]
    refine ⟨by omega, FF_by c94 ?_⟩
    simp [w0, w1, g1]
    rw [show (-IntKind.i64.wrap (m : Int)) = 0 - IntKind.i64.wrap (m : Int) by omega, g2]
    exact WkV.refl
  · rw [if_neg h0]
    have hd : ∀ c, (Lib.decDigits n.natAbs).head? = some c → isD c = true := fun c hc => dd_digits _ c (List.mem_of_mem_head? hc)
    have hne := dd_ne n.natAbs
    obtain ⟨c, L, hL⟩ := List.exists_cons_of_ne_nil hne
    have hdc := hd c (by rw [hL]; rfl)
    simp only [isD, Bool.and_eq_true, decide_eq_true_eq] at hdc
    have f1 : ((c.toNat : Int) == 45) = false := by simp; omega
    have f2 : ((c.toNat : Int) == 43) = false := by simp; omega
    rw [hL] at c94 ⊢
    have g1 : ¬ (9223372036854775808 : Int) ≤ (n.natAbs : Int) := by omega
    have g2 : IntKind.i64.wrap (n.natAbs : Int) = n := by
      simp [IntKind.wrap, IntKind.bits, IntKind.signed]; omega
    generalize n.natAbs = m at g1 g2 c94
    simp [c93, r93, byteD, f1, f2]
    refine FF_by c94 ?_
    simp [w0, w1, g1, g2]
theorem ok92 {G : Nat → DV} (h : List Blk) (n : Int) (hn : I64 n) : Ok Tryd.prog G 92 [.p (.string (txt (decI n))), .p (.int .i64 10), .p (.int .i64 64)] h (.tup [.p (.int .i64 n), .p .nilIface]) h := by
  refine Ok_by Tryd.func92 c92_ok r92_ok 23 rfl ?_
  simp [c92, r92]
  refine FF_by (ok93 h n hn) ?_
  simp
end Go.Proofs.YtppjcnaffphakaaDoor
