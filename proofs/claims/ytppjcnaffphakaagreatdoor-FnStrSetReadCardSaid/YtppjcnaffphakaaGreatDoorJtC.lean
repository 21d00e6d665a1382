/- JSON: a text is read. -/
import Derived.Test.YtppjcnaffphakaaGreatDoorJtA
import Derived.Test.YtppjcnaffphakaaGreatDoorLibE
set_option linter.unusedVariables false
set_option linter.unusedSimpArgs false
set_option maxRecDepth 100000
set_option maxHeartbeats 4000000
namespace Go.Proofs.YtppjcnaffphakaaGreatDoor
open Go Go.Den Go.Proofs

def c79L0 : DC :=
  (.seq (.seq (.rgd [⟨⟨(some 20), .mov (.t 0), none⟩, 0, [0]⟩,
        ⟨⟨(some 21), .nilchk .ptr (.t 20), none⟩, 0, [0]⟩,
        ⟨⟨(some 22), .faddr false 1 1 (.t 21), none⟩, 0, [0]⟩,
        ⟨⟨(some 23), .load false 1 (.t 22), none⟩, 0, [0]⟩,
        ⟨⟨(some 24), .mov (.t 0), none⟩, 0, [0]⟩,
        ⟨⟨(some 25), .nilchk .ptr (.t 24), none⟩, 0, [0]⟩,
        ⟨⟨(some 26), .faddr false 0 1 (.t 25), none⟩, 0, [0]⟩,
        ⟨⟨(some 27), .load false 1 (.t 26), none⟩, 0, [0]⟩,
        ⟨⟨(some 28), .lenl (.t 27), none⟩, 0, [0]⟩,
        ⟨⟨(some 29), .bin .lss (.t 23) (.t 28), none⟩, 0, []⟩])
    (.cond (.t 29) .skip
    (.exit 0)))
    (.block 1 (.seq (.rgd [⟨⟨(some 30), .mov (.t 0), none⟩, 0, [0]⟩,
         ⟨⟨(some 31), .nilchk .ptr (.t 30), none⟩, 0, [0]⟩,
         ⟨⟨(some 32), .faddr false 0 1 (.t 31), none⟩, 0, [0]⟩,
         ⟨⟨(some 33), .load false 1 (.t 32), none⟩, 0, [0]⟩,
         ⟨⟨(some 34), .mov (.t 0), none⟩, 0, [0]⟩,
         ⟨⟨(some 35), .nilchk .ptr (.t 34), none⟩, 0, [0]⟩,
         ⟨⟨(some 36), .faddr false 1 1 (.t 35), none⟩, 0, [0]⟩,
         ⟨⟨(some 37), .load false 1 (.t 36), none⟩, 0, [0]⟩,
         ⟨⟨(some 38), .iaddr 1 (.t 33) (.t 37), none⟩, 0, [0]⟩,
         ⟨⟨(some 39), .load false 1 (.t 38), none⟩, 0, [0]⟩,
         ⟨⟨(some 5), .mov (.t 39), none⟩, 0, []⟩])
    (.seq (.block 2 (.seq (.rg [⟨(some 41), .mov (.t 5), none⟩,
          ⟨(some 42), .bin .eql (.t 41) (.c (.p (.int .u8 34))), none⟩,
          ⟨(some 40), .mov (.t 42), none⟩])
    (.cond (.t 40) (.seq (.rg [⟨(some 43), .mov (.t 0), none⟩,
            ⟨(some 44), .nilchk .ptr (.t 43), none⟩,
            ⟨(some 45), .faddr false 1 1 (.t 44), none⟩,
            ⟨(some 46), .load false 1 (.t 45), none⟩,
            ⟨(some 47), .bin .add (.t 46) (.c (.p (.int .i64 1))), none⟩,
            ⟨(some 48), .nilchk .ptr (.t 43), none⟩,
            ⟨(some 49), .faddr false 1 1 (.t 48), none⟩,
            ⟨none, .store 1 (.t 49) (.t 47), none⟩])
    (.seq (.rg [⟨(some 50), .mov (.t 4), none⟩,
            ⟨(some 51), .b2s (.t 50), none⟩,
            ⟨(some 2), .mov (.t 51), none⟩,
            ⟨(some 3), .mov (.c (.p (.bool true))), none⟩])
    .ret))
    (.seq (.rg [⟨(some 53), .mov (.t 5), none⟩,
            ⟨(some 54), .bin .lss (.t 53) (.c (.p (.int .u8 32))), none⟩,
            ⟨(some 52), .mov (.t 54), none⟩])
    (.cond (.t 52) (.seq (.rg [⟨(some 2), .mov (.c (.p (.string ⟨#[]⟩))), none⟩,
              ⟨(some 3), .mov (.c (.p (.bool false))), none⟩])
    .ret)
    (.seq (.rg [⟨(some 56), .mov (.t 5), none⟩,
              ⟨(some 57), .bin .neq (.t 56) (.c (.p (.int .u8 92))), none⟩,
              ⟨(some 55), .mov (.t 57), none⟩])
    (.cond (.t 55) (.seq (.rgd [⟨⟨(some 59), .mov (.t 0), none⟩, 0, [0]⟩,
                ⟨⟨(some 60), .nilchk .ptr (.t 59), none⟩, 0, [0]⟩,
                ⟨⟨(some 61), .faddr false 0 1 (.t 60), none⟩, 0, [0]⟩,
                ⟨⟨(some 62), .load false 1 (.t 61), none⟩, 0, [0]⟩,
                ⟨⟨(some 63), .mov (.t 0), none⟩, 0, [0]⟩,
                ⟨⟨(some 64), .nilchk .ptr (.t 63), none⟩, 0, [0]⟩,
                ⟨⟨(some 65), .faddr false 1 1 (.t 64), none⟩, 0, [0]⟩,
                ⟨⟨(some 66), .load false 1 (.t 65), none⟩, 0, [0]⟩,
                ⟨⟨(some 67), .slcl 1 (.t 62) (some (.t 66)) none, none⟩, 0, [0]⟩,
                ⟨⟨(some 68), .call 90 [(.t 67)], none⟩, 0, []⟩,
                ⟨⟨(some 58), .mov (.t 68), none⟩, 1, []⟩,
                ⟨⟨(some 69), .ext (.t 58) 0, none⟩, 1, []⟩,
                ⟨⟨(some 70), .ext (.t 58) 1, none⟩, 1, []⟩,
                ⟨⟨(some 6), .mov (.t 69), none⟩, 1, []⟩,
                ⟨⟨(some 7), .mov (.t 70), none⟩, 1, []⟩])
    (.seq (.rg [⟨(some 71), .mov (.t 0), none⟩,
                ⟨(some 72), .nilchk .ptr (.t 71), none⟩,
                ⟨(some 73), .faddr false 1 1 (.t 72), none⟩,
                ⟨(some 74), .load false 1 (.t 73), none⟩,
                ⟨(some 75), .mov (.t 7), none⟩,
                ⟨(some 76), .bin .add (.t 74) (.t 75), none⟩,
                ⟨(some 77), .nilchk .ptr (.t 71), none⟩,
                ⟨(some 78), .faddr false 1 1 (.t 77), none⟩,
                ⟨none, .store 1 (.t 78) (.t 76), none⟩])
    (.seq (.rg [⟨(some 79), .mov (.t 4), none⟩,
                ⟨(some 80), .mov (.t 6), none⟩,
                ⟨(some 81), .callr 91 [(.t 79), (.t 80)], none⟩,
                ⟨(some 4), .mov (.t 81), none⟩])
    (.exit 1))))
    .skip)))))))
    (.seq (.rg [⟨(some 82), .mov (.t 0), none⟩,
         ⟨(some 83), .nilchk .ptr (.t 82), none⟩,
         ⟨(some 84), .faddr false 1 1 (.t 83), none⟩,
         ⟨(some 85), .load false 1 (.t 84), none⟩,
         ⟨(some 86), .bin .add (.t 85) (.c (.p (.int .i64 1))), none⟩,
         ⟨(some 87), .nilchk .ptr (.t 82), none⟩,
         ⟨(some 88), .faddr false 1 1 (.t 87), none⟩,
         ⟨none, .store 1 (.t 88) (.t 86), none⟩])
    (.seq (.seq (.rgd [⟨⟨(some 89), .mov (.t 0), none⟩, 0, [0]⟩,
         ⟨⟨(some 90), .nilchk .ptr (.t 89), none⟩, 0, [0]⟩,
         ⟨⟨(some 91), .faddr false 1 1 (.t 90), none⟩, 0, [0]⟩,
         ⟨⟨(some 92), .load false 1 (.t 91), none⟩, 0, [0]⟩,
         ⟨⟨(some 93), .mov (.t 0), none⟩, 0, [0]⟩,
         ⟨⟨(some 94), .nilchk .ptr (.t 93), none⟩, 0, [0]⟩,
         ⟨⟨(some 95), .faddr false 0 1 (.t 94), none⟩, 0, [0]⟩,
         ⟨⟨(some 96), .load false 1 (.t 95), none⟩, 0, [0]⟩,
         ⟨⟨(some 97), .lenl (.t 96), none⟩, 0, [0]⟩,
         ⟨⟨(some 98), .bin .geq (.t 92) (.t 97), none⟩, 0, []⟩])
    (.cond (.t 98) (.seq (.rg [⟨(some 2), .mov (.c (.p (.string ⟨#[]⟩))), none⟩,
           ⟨(some 3), .mov (.c (.p (.bool false))), none⟩])
    .ret)
    .skip))
    (.seq (.rgd [⟨⟨(some 99), .mov (.t 0), none⟩, 0, [0]⟩,
         ⟨⟨(some 100), .nilchk .ptr (.t 99), none⟩, 0, [0]⟩,
         ⟨⟨(some 101), .faddr false 0 1 (.t 100), none⟩, 0, [0]⟩,
         ⟨⟨(some 102), .load false 1 (.t 101), none⟩, 0, [0]⟩,
         ⟨⟨(some 103), .mov (.t 0), none⟩, 0, [0]⟩,
         ⟨⟨(some 104), .nilchk .ptr (.t 103), none⟩, 0, [0]⟩,
         ⟨⟨(some 105), .faddr false 1 1 (.t 104), none⟩, 0, [0]⟩,
         ⟨⟨(some 106), .load false 1 (.t 105), none⟩, 0, [0]⟩,
         ⟨⟨(some 107), .iaddr 1 (.t 102) (.t 106), none⟩, 0, [0]⟩,
         ⟨⟨(some 108), .load false 1 (.t 107), none⟩, 0, [0]⟩,
         ⟨⟨(some 5), .mov (.t 108), none⟩, 0, []⟩])
    (.seq (.rg [⟨(some 109), .mov (.t 0), none⟩,
         ⟨(some 110), .nilchk .ptr (.t 109), none⟩,
         ⟨(some 111), .faddr false 1 1 (.t 110), none⟩,
         ⟨(some 112), .load false 1 (.t 111), none⟩,
         ⟨(some 113), .bin .add (.t 112) (.c (.p (.int .i64 1))), none⟩,
         ⟨(some 114), .nilchk .ptr (.t 109), none⟩,
         ⟨(some 115), .faddr false 1 1 (.t 114), none⟩,
         ⟨none, .store 1 (.t 115) (.t 113), none⟩])
    (.seq (.rg [⟨(some 116), .mov (.t 5), none⟩])
    (.block 3 (.seq (.seq (.rg [⟨(some 118), .bin .eql (.t 116) (.c (.p (.int .u8 34))), none⟩,
          ⟨(some 117), .mov (.t 118), none⟩])
    (.cond (.t 117) .skip
    (.seq (.rg [⟨(some 119), .bin .eql (.t 116) (.c (.p (.int .u8 92))), none⟩,
            ⟨(some 117), .mov (.t 119), none⟩])
    (.cond (.t 117) .skip
    (.rg [⟨(some 120), .bin .eql (.t 116) (.c (.p (.int .u8 47))), none⟩,
              ⟨(some 117), .mov (.t 120), none⟩])))))
    (.cond (.t 117) (.rg [⟨(some 121), .mov (.t 4), none⟩,
            ⟨(some 122), .mov (.t 5), none⟩,
            ⟨(some 123), .lit 1 [(.t 122)], none⟩,
            ⟨(some 124), .app 1 1 (.t 121) (.t 123), none⟩,
            ⟨(some 4), .mov (.t 124), none⟩])
    (.seq (.rg [⟨(some 126), .bin .eql (.t 116) (.c (.p (.int .u8 98))), none⟩,
            ⟨(some 125), .mov (.t 126), none⟩])
    (.cond (.t 125) (.rg [⟨(some 127), .mov (.t 4), none⟩,
              ⟨(some 128), .lit 1 [(.c (.p (.int .u8 8)))], none⟩,
              ⟨(some 129), .app 1 1 (.t 127) (.t 128), none⟩,
              ⟨(some 4), .mov (.t 129), none⟩])
    (.seq (.rg [⟨(some 131), .bin .eql (.t 116) (.c (.p (.int .u8 102))), none⟩,
              ⟨(some 130), .mov (.t 131), none⟩])
    (.cond (.t 130) (.rg [⟨(some 132), .mov (.t 4), none⟩,
                ⟨(some 133), .lit 1 [(.c (.p (.int .u8 12)))], none⟩,
                ⟨(some 134), .app 1 1 (.t 132) (.t 133), none⟩,
                ⟨(some 4), .mov (.t 134), none⟩])
    (.seq (.rg [⟨(some 136), .bin .eql (.t 116) (.c (.p (.int .u8 110))), none⟩,
                ⟨(some 135), .mov (.t 136), none⟩])
    (.cond (.t 135) (.rg [⟨(some 137), .mov (.t 4), none⟩,
                  ⟨(some 138), .lit 1 [(.c (.p (.int .u8 10)))], none⟩,
                  ⟨(some 139), .app 1 1 (.t 137) (.t 138), none⟩,
                  ⟨(some 4), .mov (.t 139), none⟩])
    (.seq (.rg [⟨(some 141), .bin .eql (.t 116) (.c (.p (.int .u8 114))), none⟩,
                  ⟨(some 140), .mov (.t 141), none⟩])
    (.cond (.t 140) (.rg [⟨(some 142), .mov (.t 4), none⟩,
                    ⟨(some 143), .lit 1 [(.c (.p (.int .u8 13)))], none⟩,
                    ⟨(some 144), .app 1 1 (.t 142) (.t 143), none⟩,
                    ⟨(some 4), .mov (.t 144), none⟩])
    (.seq (.rg [⟨(some 146), .bin .eql (.t 116) (.c (.p (.int .u8 116))), none⟩,
                    ⟨(some 145), .mov (.t 146), none⟩])
    (.cond (.t 145) (.rg [⟨(some 147), .mov (.t 4), none⟩,
                      ⟨(some 148), .lit 1 [(.c (.p (.int .u8 9)))], none⟩,
                      ⟨(some 149), .app 1 1 (.t 147) (.t 148), none⟩,
                      ⟨(some 4), .mov (.t 149), none⟩])
    (.seq (.rg [⟨(some 151), .bin .eql (.t 116) (.c (.p (.int .u8 117))), none⟩,
                      ⟨(some 150), .mov (.t 151), none⟩])
    (.cond (.t 150) (.seq (.rg [⟨(some 153), .mov (.t 0), none⟩,
                        ⟨(some 154), .callr 92 [(.t 153)], none⟩,
                        ⟨(some 152), .mov (.t 154), none⟩,
                        ⟨(some 155), .ext (.t 152) 0, none⟩,
                        ⟨(some 156), .ext (.t 152) 1, none⟩,
                        ⟨(some 8), .mov (.t 155), none⟩,
                        ⟨(some 9), .mov (.t 156), none⟩])
    (.seq (.seq (.rg [⟨(some 157), .mov (.t 9), none⟩,
                        ⟨(some 158), .un .not (.t 157), none⟩])
    (.cond (.t 158) (.seq (.rg [⟨(some 2), .mov (.c (.p (.string ⟨#[]⟩))), none⟩,
                          ⟨(some 3), .mov (.c (.p (.bool false))), none⟩])
    .ret)
    .skip))
    (.seq (.seq (.rg [⟨(some 159), .mov (.t 8), none⟩,
                        ⟨(some 160), .bin .geq (.t 159) (.c (.p (.int .i32 55296))), none⟩,
                        ⟨(some 161), .mov (.t 160), none⟩,
                        ⟨(some 162), .mov (.t 8), (some (161, true))⟩,
                        ⟨(some 163), .bin .lss (.t 162) (.c (.p (.int .i32 56320))), (some (161, true))⟩,
                        ⟨(some 164), .pick (.t 161) (.t 163) (.c (.p (.bool false))), none⟩])
    (.cond (.t 164) (.seq (.rg [⟨(some 165), .mov (.t 0), none⟩,
                          ⟨(some 166), .nilchk .ptr (.t 165), none⟩,
                          ⟨(some 167), .faddr false 1 1 (.t 166), none⟩,
                          ⟨(some 168), .load false 1 (.t 167), none⟩,
                          ⟨(some 10), .mov (.t 168), none⟩])
    (.seq (.rg [⟨(some 169), .mov (.t 0), none⟩,
                          ⟨(some 170), .callr 80 [(.t 169), (.c (.p (.string ⟨#[92, 117]⟩)))], none⟩])
    (.cond (.t 170) (.seq (.rg [⟨(some 172), .mov (.t 0), none⟩,
                            ⟨(some 173), .callr 92 [(.t 172)], none⟩,
                            ⟨(some 171), .mov (.t 173), none⟩,
                            ⟨(some 174), .ext (.t 171) 0, none⟩,
                            ⟨(some 175), .ext (.t 171) 1, none⟩,
                            ⟨(some 11), .mov (.t 174), none⟩,
                            ⟨(some 12), .mov (.t 175), none⟩])
    (.seq (.seq (.rg [⟨(some 176), .mov (.t 12), none⟩,
                            ⟨(some 177), .un .not (.t 176), none⟩])
    (.cond (.t 177) (.seq (.rg [⟨(some 2), .mov (.c (.p (.string ⟨#[]⟩))), none⟩,
                              ⟨(some 3), .mov (.c (.p (.bool false))), none⟩])
    .ret)
    .skip))
    (.seq (.rg [⟨(some 178), .mov (.t 11), none⟩,
                            ⟨(some 179), .bin .geq (.t 178) (.c (.p (.int .i32 56320))), none⟩,
                            ⟨(some 180), .mov (.t 179), none⟩,
                            ⟨(some 181), .mov (.t 11), (some (180, true))⟩,
                            ⟨(some 182), .bin .lss (.t 181) (.c (.p (.int .i32 57344))), (some (180, true))⟩,
                            ⟨(some 183), .pick (.t 180) (.t 182) (.c (.p (.bool false))), none⟩])
    (.cond (.t 183) (.rg [⟨(some 184), .mov (.t 8), none⟩,
                              ⟨(some 185), .bin .sub (.t 184) (.c (.p (.int .i32 55296))), none⟩,
                              ⟨(some 186), .bin .shl (.t 185) (.c (.p (.int .u64 10))), none⟩,
                              ⟨(some 187), .bin .add (.c (.p (.int .i32 65536))) (.t 186), none⟩,
                              ⟨(some 188), .mov (.t 11), none⟩,
                              ⟨(some 189), .bin .sub (.t 188) (.c (.p (.int .i32 56320))), none⟩,
                              ⟨(some 190), .bin .add (.t 187) (.t 189), none⟩,
                              ⟨(some 8), .mov (.t 190), none⟩])
    (.rg [⟨(some 191), .mov (.t 0), none⟩,
                              ⟨(some 192), .mov (.t 10), none⟩,
                              ⟨(some 193), .nilchk .ptr (.t 191), none⟩,
                              ⟨(some 194), .faddr false 1 1 (.t 193), none⟩,
                              ⟨none, .store 1 (.t 194) (.t 192), none⟩])))))
    .skip)))
    .skip))
    (.rg [⟨(some 195), .mov (.t 4), none⟩,
                        ⟨(some 196), .mov (.t 8), none⟩,
                        ⟨(some 197), .callr 91 [(.t 195), (.t 196)], none⟩,
                        ⟨(some 4), .mov (.t 197), none⟩]))))
    (.seq (.rg [⟨(some 2), .mov (.c (.p (.string ⟨#[]⟩))), none⟩,
                        ⟨(some 3), .mov (.c (.p (.bool false))), none⟩])
    .ret)))))))))))))))))))))))))
theorem c79_cut : c79 =
  (.seq (.rg [⟨(some 2), .mov (.c (.p (.string ⟨#[]⟩))), none⟩,
      ⟨(some 3), .mov (.c (.p (.bool false))), none⟩])
    (.seq (.rg [⟨(some 13), .mov (.t 0), none⟩,
      ⟨(some 14), .nilchk .ptr (.t 13), none⟩,
      ⟨(some 15), .faddr false 1 1 (.t 14), none⟩,
      ⟨(some 16), .load false 1 (.t 15), none⟩,
      ⟨(some 17), .bin .add (.t 16) (.c (.p (.int .i64 1))), none⟩,
      ⟨(some 18), .nilchk .ptr (.t 13), none⟩,
      ⟨(some 19), .faddr false 1 1 (.t 18), none⟩,
      ⟨none, .store 1 (.t 19) (.t 17), none⟩])
    (.seq (.rg [⟨(some 4), .mov (.c (.p (.slice none 0 0))), none⟩])
    (.seq (.block 0 (.loop c79L0))
    (.seq (.rg [⟨(some 2), .mov (.c (.p (.string ⟨#[]⟩))), none⟩,
      ⟨(some 3), .mov (.c (.p (.bool false))), none⟩])
    .ret))))) := rfl


theorem ok92n {G : Nat → DV} (h : List Blk) (rb a d : Nat) (l : List UInt8) (hb : h[rb]? = some (rdB l a d)) (ha : l.length < a + 4) (hl : l.length ≤ 140737488351232) (ha2 : a ≤ l.length) :
    Ok Tryz.prog G 92 [.ptr rb 0 0 1] h (.tup [.p (.int .i32 0), .p (.bool false)]) h := by
  refine Ok_by Tryz.func92 c92_ok r92_ok 77 rfl ?_
  have w4 : IntKind.i64.wrap ((a : Int) + 4) = (a : Int) + 4 := by simp [IntKind.wrap, IntKind.bits, IntKind.signed]; omega
  have n4 : (l.length : Int) < (a : Int) + 4 := by omega
  rw [c92_cut]
  simp [r92, hb, rdB, w4, n4]

/-- What a text's reader leaves. -/
def TxO (h : List Blk) (rb a d : Nat) (l : List UInt8) (o : Option (List UInt8 × List UInt8)) (v : DV) (h' : List Blk) : Prop :=
  match o with
  | some (x, t) => v = .tup [.p (.string (txt x)), .p (.bool true)] ∧ h' = h.set rb (rdB l (l.length - t.length) d)
  | none => ∃ q, a ≤ q ∧ q ≤ l.length ∧ v = .tup [.p (.string ⟨#[]⟩), .p (.bool false)] ∧ h' = h.set rb (rdB l q d)

theorem wk_none {h h2 : List Blk} {rb p d : Nat} {l : List UInt8} {x y : Value} (hbl : rb < h.length) (hp : HPre (h.set rb (rdB l p d)) h2) :
    WkV h (.tup [.p x, .p y]) h2 (.tup [.p x, .p y]) (h.set rb (rdB l p d)) :=
  WkV.ofFrz (by simp) (fun b k hb => .inl (hp b k hb)) (fun hh => hh.set wf_rdB) fun hh => .tup (.cons .p (.cons .p .nil))

theorem drop_cons {l : List UInt8} {p : Nat} {c : UInt8} {r : List UInt8} (h : l.drop p = c :: r) : p < l.length ∧ ∃ hp : p < l.length, l[p] = c ∧ l.drop (p + 1) = r := by
  have hp : p < l.length := by
    have := congrArg List.length h
    simp at this
    omega
  refine ⟨hp, hp, ?_⟩
  have h2 := List.drop_eq_getElem_cons hp
  rw [h] at h2
  cases h2
  exact ⟨rfl, rfl⟩

theorem ok79 {G : Nat → DV} (h : List Blk) (rb a d : Nat) (l : List UInt8) (o : Option (List UInt8 × List UInt8)) (hb : h[rb]? = some (rdB l a d)) (ha : a < l.length) (hl : l.length ≤ 1000000000) (ho0 : JT (l.drop (a + 1)) o) :
    OkR Tryz.prog G 79 [.ptr rb 0 0 1] h (TxO h rb a d l o) := by
  refine OkR.wf fun hw => ?_
  refine OkR_by Tryz.func79 c79_ok r79_ok 197 rfl ?_
  have hbl : rb < h.length := (List.getElem?_eq_some_iff.1 hb).1
  have e1 : IntKind.i64.wrap ((a : Int) + 1) = ((a + 1 : Nat) : Int) := wrap_succ ha (by omega)
  generalize hR : TxO h rb a d l o = R
  rw [c79_cut]
  simp [r79, hb, rdB, e1]
  refine VV_fam (fun q : Nat × List Blk × DV × List UInt8 => ⟨fr 198 [(0, .ptr rb 0 0 1), (2, .p (.string ⟨#[]⟩)), (3, .p (.bool false)), (4, q.2.2.1)], q.2.1⟩)
    (fun q => a ≤ q.1 ∧ q.1 ≤ l.length ∧ Own (h.set rb (rdB l q.1 d)) 1 q.2.1 q.2.2.1 (bts q.2.2.2) ∧ q.2.2.2.length ≤ q.1 ∧ ∃ o', JT (l.drop q.1) o' ∧ o = o'.map fun x => (q.2.2.2 ++ x.1, x.2))
    (fun q => l.length - q.1) (a + 1, h.set rb (rdB l (a + 1) d), .p (.slice none 0 0), []) ⟨by dsimp only; omega, by dsimp only; omega, Own.nil, by simp, o, ho0, by cases o <;> simp⟩ (Wk.fits (by simp [rdB])) ?_
  clear ho0 e1
  rintro ⟨p, h2, dk, out⟩ ⟨hap, hpl, ho, hxl, o', hJ, hO⟩ B hbk he hr
  simp only at hap hpl ho hxl hJ hO
  have g1 : h2[rb]? = some (rdB l p d) := ho.pre _ _ (rd_set hb _)
  have hset : ∀ q, Own (h.set rb (rdB l q d)) 1 (h2.set rb (rdB l q d)) dk (bts out) := fun q => by
    have := ho.setb (c := rb) (by simpa using hbl) (rdB l q d)
    rwa [set_set'] at this
  have hset2 : ∀ q q2, Own (h.set rb (rdB l q2 d)) 1 ((h2.set rb (rdB l q d)).set rb (rdB l q2 d)) dk (bts out) := fun q q2 => by
    rw [set_set']; exact hset q2
  have hg : ∀ x, (h2.set rb x)[rb]? = some x := fun x => rd_set g1 x
  have hend : o = none → ∀ q, a ≤ q → q ≤ l.length → R (.tup [.p (.string ⟨#[]⟩), .p (.bool false)]) (h.set rb (rdB l q d)) := fun h0 q hq0 hq => by
    subst hR; rw [h0]; exact ⟨q, hq0, hq, rfl, rfl⟩
  generalize hr0 : l.drop p = r at hJ
  cases hJ with
  | nil =>
    have hp : p = l.length := by
      have := congrArg List.length hr0
      simp at this
      omega
    have f1 : ¬ (p : Int) < (l.length : Int) := by omega
    simp [c79L0, g1, rdB, f1]
    refine he _ _ ?_
    simp
    exact REr_by _ _ (wk_none hbl ho.pre) (hend hO p hap hpl)
  | stop t =>
    obtain ⟨hlt, _, hc, ht⟩ := drop_cons hr0
    have hltI : (p : Int) < (l.length : Int) := by omega
    have e5 : l[p].toNat = 34 := by rw [hc]; rfl
    have e4 : IntKind.i64.wrap ((p : Int) + 1) = ((p + 1 : Nat) : Int) := wrap_succ hlt (by omega)
    have hs := (hset (p + 1)).slice
    simp [rdB] at hs
    simp [c79L0, g1, hg, rdB, hltI, hlt, e5, e4, hs]
    refine hr _ ?_
    simp
    subst hR
    refine REr_by (.tup [.p (.string (txt out)), .p (.bool true)]) (h.set rb (rdB l (p + 1) d)) ?_ ?_
    · exact wk_none hbl (hset (p + 1)).pre
    · rw [hO]
      refine ⟨by simp, ?_⟩
      congr 2
      have := congrArg List.length ht
      simp at this
      simp
      omega
  | one c t o' h32 h127 n34 n92 hJ' =>
    obtain ⟨hlt, _, hc, ht⟩ := drop_cons hr0
    have hltI : (p : Int) < (l.length : Int) := by omega
    have e5 : l[p].toNat = c.toNat := by rw [hc]
    have m34 : c.toNat ≠ 34 := fun h => n34 (UInt8.toNat_inj.1 h)
    have m92 : c.toNat ≠ 92 := fun h => n92 (UInt8.toNat_inj.1 h)
    have f1 : ((c.toNat : Int) == 34) = false := by simp; omega
    have f2 : ((c.toNat : Int) == 92) = false := by simp; omega
    have f3 : ¬ (c.toNat : Int) < 32 := by omega
    have f4 : ((c.toNat : Int) != 92) = true := by simp; omega
    have e6 : (l.drop p).take (l.length - p) = c :: t := by rw [List.take_of_length_le (by simp), hr0]
    have e4 : IntKind.i64.wrap ((p : Int) + 1) = ((p + 1 : Nat) : Int) := wrap_succ hlt (by omega)
    simp [c79L0, g1, hg, rdB, hltI, hlt, e5, f1, f2, f3, f4, e6]
    refine ⟨hpl, DF_by (ok90 _ c t (by omega)) ?_⟩
    simp [g1, hg, rdB, e4]
    have hs := hset (p + 1)
    simp only [rdB, Int.natCast_add, Int.cast_ofNat_Int] at hs
    refine FF_byR (ok91 _ _ dk out c hs (by omega) (by omega)) ?_
    rintro v h3 ⟨ho3, hl3⟩
    simp [KON_blk_ext]
    refine hbk _ (p + 1, h3, v, out ++ [c]) ?_ ⟨by dsimp only; omega, by dsimp only; omega, ?_, by simp; omega, o', by rw [ht]; exact hJ', ?_⟩ (by dsimp only; omega)
    · exact Wk.fits (by simp)
    · simpa [rdB] using ho3
    · rw [hO]; cases o' <;> simp
  | esc c t o' hc hJ' =>
    obtain ⟨hlt, _, hc0, ht⟩ := drop_cons hr0
    obtain ⟨hlt1, _, hc1, ht1⟩ := drop_cons ht
    have hltI : (p : Int) < (l.length : Int) := by omega
    have e5 : l[p].toNat = 92 := by rw [hc0]; rfl
    have e4 : IntKind.i64.wrap ((p : Int) + 1) = ((p + 1 : Nat) : Int) := wrap_succ hlt (by omega)
    obtain ⟨p1, hp1⟩ : ∃ p1, p1 = p + 1 := ⟨_, rfl⟩
    simp only [← hp1] at hlt1 ht ht1 e4 hc1
    have hltI1 : ¬ (l.length : Int) ≤ (p1 : Int) := by omega
    have e41 : IntKind.i64.wrap ((p1 : Int) + 1) = ((p1 + 1 : Nat) : Int) := wrap_succ hlt1 (by omega)
    have e51 : l[p1].toNat = c.toNat := by rw [hc1]
    have hs := hset (p1 + 1)
    rcases hc with rfl | rfl
    · simp [c79L0, g1, hg, rdB, hltI, hlt, e5, e4, hltI1, hlt1, e51, e41]
      simp only [rdB, Int.natCast_add, Int.cast_ofNat_Int] at hs
      refine AA_own (hs.push (x := _)) (ys := bts [34]) (by simp [elemsOf, bts, byteD]) (by simp; omega) ?_
      intro v h3 ho3 hle hoth
      rw [bts_append] at ho3
      simp
      refine hbk _ (p1 + 1, h3, v, out ++ [34]) ?_ ⟨by dsimp only; omega, by dsimp only; omega, ?_, by simp; omega, o', by rw [ht1]; exact hJ', ?_⟩ (by dsimp only; omega)
      · exact Wk.fits (by simp)
      · simpa [rdB] using ho3
      · rw [hO]; cases o' <;> simp
    · simp [c79L0, g1, hg, rdB, hltI, hlt, e5, e4, hltI1, hlt1, e51, e41]
      simp only [rdB, Int.natCast_add, Int.cast_ofNat_Int] at hs
      refine AA_own (hs.push (x := _)) (ys := bts [92]) (by simp [elemsOf, bts, byteD]) (by simp; omega) ?_
      intro v h3 ho3 hle hoth
      rw [bts_append] at ho3
      simp
      refine hbk _ (p1 + 1, h3, v, out ++ [92]) ?_ ⟨by dsimp only; omega, by dsimp only; omega, ?_, by simp; omega, o', by rw [ht1]; exact hJ', ?_⟩ (by dsimp only; omega)
      · exact Wk.fits (by simp)
      · simpa [rdB] using ho3
      · rw [hO]; cases o' <;> simp
  | uni c0 c1 c2 c3 v t o' hx hv hv8 hJ' =>
    obtain ⟨hlt, _, hc0, ht⟩ := drop_cons hr0
    obtain ⟨hlt1, _, hc1, ht1⟩ := drop_cons ht
    have hltI : (p : Int) < (l.length : Int) := by omega
    have e5 : l[p].toNat = 92 := by rw [hc0]; rfl
    have e4 : IntKind.i64.wrap ((p : Int) + 1) = ((p + 1 : Nat) : Int) := wrap_succ hlt (by omega)
    obtain ⟨p1, hp1⟩ : ∃ p1, p1 = p + 1 := ⟨_, rfl⟩
    simp only [← hp1] at hlt1 ht ht1 e4 hc1
    have hltI1 : ¬ (l.length : Int) ≤ (p1 : Int) := by omega
    have e41 : IntKind.i64.wrap ((p1 : Int) + 1) = ((p1 + 1 : Nat) : Int) := wrap_succ hlt1 (by omega)
    have e51 : l[p1].toNat = 117 := by rw [hc1]; rfl
    have hlen : p1 + 1 + 4 + t.length = l.length := by
      have := congrArg List.length ht1
      simp at this
      omega
    have htk : (l.drop (p1 + 1)).take 4 = [c0, c1, c2, c3] := by rw [ht1]; rfl
    have htd : l.drop (p1 + 1 + 4) = t := by rw [← List.drop_drop, ht1]; rfl
    obtain ⟨p2, hp2⟩ : ∃ p2, p2 = p1 + 1 := ⟨_, rfl⟩
    simp only [← hp2] at e41 hlen htk htd
    simp [c79L0, g1, hg, rdB, hltI, hlt, e5, e4, hltI1, hlt1, e51, e41]
    rw [← rdB]
    have c92 := ok92 (G := G) (h2.set rb (rdB l p2 d)) rb p2 d l (hg _) (by omega) (by omega) (by rw [htk]; exact hx)
    rw [htk, hv, set_set'] at c92
    refine FF_by c92 ?_
    have g1 : ¬ (55296 : Int) ≤ (v.toNat : Int) := by omega
    simp [g1]
    refine FF_byR (ok91 _ _ dk out v (hset (p2 + 4)) (by omega) (by omega)) ?_
    rintro w h3 ⟨ho3, hl3⟩
    simp
    refine hbk _ (p2 + 4, h3, w, out ++ [v]) ?_ ⟨by dsimp only; omega, by dsimp only; omega, ?_, by simp; omega, o', by rw [htd]; exact hJ', ?_⟩ (by dsimp only; omega)
    · exact Wk.fits (by simp)
    · exact ho3
    · rw [hO]; cases o' <;> simp
  | cut =>
    obtain ⟨hlt, _, hc0, ht⟩ := drop_cons hr0
    have hltI : (p : Int) < (l.length : Int) := by omega
    have e5 : l[p].toNat = 92 := by rw [hc0]; rfl
    have e4 : IntKind.i64.wrap ((p : Int) + 1) = ((p + 1 : Nat) : Int) := wrap_succ hlt (by omega)
    obtain ⟨p1, hp1⟩ : ∃ p1, p1 = p + 1 := ⟨_, rfl⟩
    have hlt1 : p1 = l.length := by
      have := congrArg List.length ht
      simp at this
      omega
    simp only [← hp1] at e4
    have hltI1 : (l.length : Int) ≤ (p1 : Int) := by omega
    simp [c79L0, g1, hg, rdB, hltI, hlt, e5, e4, hltI1]
    refine hr _ ?_
    simp
    rw [← rdB]
    exact REr_by _ _ (wk_none hbl (hset p1).pre) (hend hO p1 (by omega) (by omega))
  | cutu t ht =>
    obtain ⟨hlt, _, hc0, ht0⟩ := drop_cons hr0
    obtain ⟨hlt1, _, hc1, ht1⟩ := drop_cons ht0
    have hltI : (p : Int) < (l.length : Int) := by omega
    have e5 : l[p].toNat = 92 := by rw [hc0]; rfl
    have e4 : IntKind.i64.wrap ((p : Int) + 1) = ((p + 1 : Nat) : Int) := wrap_succ hlt (by omega)
    obtain ⟨p1, hp1⟩ : ∃ p1, p1 = p + 1 := ⟨_, rfl⟩
    simp only [← hp1] at hlt1 ht0 ht1 e4 hc1
    have hltI1 : ¬ (l.length : Int) ≤ (p1 : Int) := by omega
    have e41 : IntKind.i64.wrap ((p1 : Int) + 1) = ((p1 + 1 : Nat) : Int) := wrap_succ hlt1 (by omega)
    have e51 : l[p1].toNat = 117 := by rw [hc1]; rfl
    have hlen : p1 + 1 + t.length = l.length := by
      have := congrArg List.length ht1
      simp at this
      omega
    obtain ⟨p2, hp2⟩ : ∃ p2, p2 = p1 + 1 := ⟨_, rfl⟩
    simp only [← hp2] at e41 hlen
    simp [c79L0, g1, hg, rdB, hltI, hlt, e5, e4, hltI1, hlt1, e51, e41]
    rw [← rdB]
    refine FF_by (ok92n (h2.set rb (rdB l p2 d)) rb p2 d l (hg _) (by omega) (by omega) (by omega)) ?_
    simp
    refine hr _ ?_
    simp
    exact REr_by _ _ (wk_none hbl (hset p2).pre) (hend hO p2 (by omega) (by omega))
end Go.Proofs.YtppjcnaffphakaaGreatDoor
