/- The codes of the functions, in the small language of Den. -/
import Derived.Test.YtppjcnaffphakaaGreatDoorLibE
import Derived.Test.YtppjcnaffphakaaGreatDoorProg
set_option linter.unusedVariables false
set_option linter.unusedSimpArgs false
set_option maxRecDepth 100000
namespace Go.Proofs.YtppjcnaffphakaaGreatDoor
open Go Go.Den Go.Proofs

/-- given.example/pub-assaymark/laws.FnIntSetCode -/
def c4 : DC :=
  (.seq (.rg [⟨(some 4), .mov (.c (.p (.bool false))), none⟩])
    (.seq (.seq (.rg [⟨(some 20), .mov (.t 0), none⟩,
      ⟨(some 21), .lenl (.t 20), none⟩,
      ⟨(some 22), .bin .gtr (.t 21) (.c (.p (.int .i64 2147483647))), none⟩,
      ⟨(some 23), .mov (.t 22), none⟩,
      ⟨(some 24), .mov (.t 1), (some (23, false))⟩,
      ⟨(some 25), .lens (.t 24), (some (23, false))⟩,
      ⟨(some 26), .bin .gtr (.t 25) (.c (.p (.int .i64 2147483647))), (some (23, false))⟩,
      ⟨(some 27), .pick (.t 23) (.c (.p (.bool true))) (.t 26), none⟩])
    (.cond (.t 27) (.seq (.rg [⟨(some 4), .mov (.c (.p (.bool true))), none⟩])
      .ret)
      .skip))
    (.seq (.rgd [⟨⟨(some 28), .mov (.t 0), none⟩, 0, []⟩,
      ⟨⟨(some 29), .mov (.t 0), none⟩, 0, []⟩,
      ⟨⟨(some 30), .lenl (.t 29), none⟩, 0, []⟩,
      ⟨⟨(some 31), .mm false (.t 30) (.c (.p (.int .i64 10))), none⟩, 0, []⟩,
      ⟨⟨(some 32), .slcl 1 (.t 28) none (some (.t 31)), none⟩, 0, [0]⟩,
      ⟨⟨(some 33), .mov (.t 1), none⟩, 0, [0]⟩,
      ⟨⟨(some 34), .mov (.t 1), none⟩, 0, [0]⟩,
      ⟨⟨(some 35), .lens (.t 34), none⟩, 0, [0]⟩,
      ⟨⟨(some 36), .mm false (.t 35) (.c (.p (.int .i64 20))), none⟩, 0, [0]⟩,
      ⟨⟨(some 37), .slcs (.t 33) none (some (.t 36)), none⟩, 0, [0]⟩,
      ⟨⟨(some 0), .mov (.t 32), none⟩, 0, []⟩,
      ⟨⟨(some 1), .mov (.t 37), none⟩, 0, []⟩])
    (.seq (.rg [⟨(some 39), .mov (.t 0), none⟩,
      ⟨(some 40), .mov (.t 1), none⟩,
      ⟨(some 41), .callr 14 [(.t 39), (.c (.p (.bool false))), (.t 40)], none⟩,
      ⟨(some 38), .mov (.t 41), none⟩,
      ⟨(some 42), .ext (.t 38) 0, none⟩,
      ⟨(some 43), .ext (.t 38) 1, none⟩,
      ⟨(some 44), .ext (.t 38) 2, none⟩,
      ⟨(some 45), .ext (.t 38) 3, none⟩,
      ⟨(some 5), .mov (.t 42), none⟩,
      ⟨(some 6), .mov (.t 43), none⟩,
      ⟨(some 7), .mov (.t 44), none⟩,
      ⟨(some 8), .mov (.t 45), none⟩])
    (.seq (.rg [⟨(some 46), .mov (.t 0), none⟩,
      ⟨(some 47), .callr 15 [(.t 46)], none⟩,
      ⟨(some 9), .mov (.t 47), none⟩])
    (.seq (.rg [⟨(some 10), .mov (.c (.p (.string ⟨#[91]⟩))), none⟩])
    (.seq (.seq (.rg [⟨(some 48), .mov (.t 9), none⟩,
      ⟨(some 49), .lenl (.t 48), none⟩,
      ⟨(some 50), .mov (.c (.p (.int .i64 0))), none⟩])
    (.block 0 (.loop (.seq (.rg [⟨(some 51), .bin .lss (.t 50) (.t 49), none⟩])
      (.seq (.cond (.t 51) .skip
        (.exit 0))
      (.seq (.block 1 (.seq (.rg [⟨(some 52), .mov (.t 50), none⟩,
         ⟨(some 53), .iaddr 1 (.t 48) (.t 50), none⟩,
         ⟨(some 54), .load false 1 (.t 53), none⟩,
         ⟨(some 11), .mov (.t 52), none⟩,
         ⟨(some 12), .mov (.t 54), none⟩])
       (.seq (.seq (.rg [⟨(some 55), .mov (.t 11), none⟩,
         ⟨(some 56), .bin .gtr (.t 55) (.c (.p (.int .i64 0))), none⟩])
       (.cond (.t 56) (.rg [⟨(some 57), .mov (.t 10), none⟩,
           ⟨(some 58), .bin .add (.t 57) (.c (.p (.string ⟨#[44]⟩))), none⟩,
           ⟨(some 10), .mov (.t 58), none⟩])
         .skip))
       (.rg [⟨(some 59), .mov (.t 10), none⟩,
         ⟨(some 60), .mov (.t 12), none⟩,
         ⟨(some 61), .callr 16 [(.t 60)], none⟩,
         ⟨(some 62), .bin .add (.t 59) (.t 61), none⟩,
         ⟨(some 10), .mov (.t 62), none⟩]))))
      (.rg [⟨(some 63), .bin .add (.t 50) (.c (.p (.int .i64 1))), none⟩,
        ⟨(some 50), .mov (.t 63), none⟩])))))))
    (.seq (.rg [⟨(some 65), .mov (.t 6), none⟩,
      ⟨(some 66), .callr 17 [(.t 65)], none⟩,
      ⟨(some 64), .mov (.t 66), none⟩,
      ⟨(some 67), .ext (.t 64) 0, none⟩,
      ⟨(some 68), .ext (.t 64) 1, none⟩,
      ⟨(some 69), .ext (.t 64) 2, none⟩,
      ⟨(some 70), .ext (.t 64) 3, none⟩,
      ⟨(some 13), .mov (.t 67), none⟩,
      ⟨(some 14), .mov (.t 68), none⟩,
      ⟨(some 15), .mov (.t 69), none⟩,
      ⟨(some 16), .mov (.t 70), none⟩])
    (.seq (.seq (.rg [⟨(some 71), .mov (.t 8), none⟩,
      ⟨(some 72), .un .not (.t 71), none⟩,
      ⟨(some 73), .mov (.t 72), none⟩,
      ⟨(some 74), .mov (.t 16), (some (73, false))⟩,
      ⟨(some 75), .un .not (.t 74), (some (73, false))⟩,
      ⟨(some 76), .pick (.t 73) (.c (.p (.bool true))) (.t 75), none⟩,
      ⟨(some 77), .mov (.t 76), none⟩,
      ⟨(some 78), .mov (.t 14), (some (77, false))⟩,
      ⟨(some 79), .pick (.t 77) (.c (.p (.bool true))) (.t 78), none⟩,
      ⟨(some 80), .mov (.t 79), none⟩,
      ⟨(some 81), .mov (.t 15), (some (80, false))⟩,
      ⟨(some 82), .bin .neq (.t 81) (.c (.p (.string ⟨#[]⟩))), (some (80, false))⟩,
      ⟨(some 83), .pick (.t 80) (.c (.p (.bool true))) (.t 82), none⟩,
      ⟨(some 84), .mov (.t 83), none⟩,
      ⟨(some 85), .mov (.t 5), (some (84, false))⟩,
      ⟨(some 86), .mov (.t 10), (some (84, false))⟩,
      ⟨(some 87), .bin .add (.t 86) (.c (.p (.string ⟨#[93]⟩))), (some (84, false))⟩,
      ⟨(some 88), .bin .neq (.t 85) (.t 87), (some (84, false))⟩,
      ⟨(some 89), .pick (.t 84) (.c (.p (.bool true))) (.t 88), none⟩,
      ⟨(some 90), .mov (.t 89), none⟩,
      ⟨(some 91), .mov (.t 13), (some (90, false))⟩,
      ⟨(some 92), .callr 15 [(.t 91)], (some (90, false))⟩,
      ⟨(some 93), .mov (.t 9), (some (90, false))⟩,
      ⟨(some 94), .callr 18 [(.t 92), (.t 93)], (some (90, false))⟩,
      ⟨(some 95), .un .not (.t 94), (some (90, false))⟩,
      ⟨(some 96), .pick (.t 90) (.c (.p (.bool true))) (.t 95), none⟩,
      ⟨(some 97), .mov (.t 96), none⟩,
      ⟨(some 98), .mov (.t 13), (some (97, false))⟩,
      ⟨(some 99), .lenl (.t 98), (some (97, false))⟩,
      ⟨(some 100), .mov (.t 9), (some (97, false))⟩,
      ⟨(some 101), .lenl (.t 100), (some (97, false))⟩,
      ⟨(some 102), .bin .neq (.t 99) (.t 101), (some (97, false))⟩,
      ⟨(some 103), .pick (.t 97) (.c (.p (.bool true))) (.t 102), none⟩])
    (.cond (.t 103) (.seq (.rg [⟨(some 4), .mov (.c (.p (.bool false))), none⟩])
      .ret)
      .skip))
    (.seq (.seq (.rg [⟨(some 104), .mov (.t 7), none⟩,
      ⟨(some 105), .lens (.t 104), none⟩,
      ⟨(some 106), .mov (.t 1), none⟩,
      ⟨(some 107), .lens (.t 106), none⟩,
      ⟨(some 108), .bin .lss (.t 105) (.t 107), none⟩,
      ⟨(some 109), .mov (.t 108), none⟩,
      ⟨(some 110), .mov (.t 7), (some (109, false))⟩,
      ⟨(some 111), .mov (.t 1), (some (109, false))⟩,
      ⟨(some 112), .lens (.t 111), (some (109, false))⟩,
      ⟨(some 113), .slcs (.t 110) none (some (.t 112)), (some (109, false))⟩,
      ⟨(some 114), .mov (.t 1), (some (109, false))⟩,
      ⟨(some 115), .bin .neq (.t 113) (.t 114), (some (109, false))⟩,
      ⟨(some 116), .pick (.t 109) (.c (.p (.bool true))) (.t 115), none⟩])
    (.cond (.t 116) (.seq (.rg [⟨(some 4), .mov (.c (.p (.bool false))), none⟩])
      .ret)
      .skip))
    (.seq (.rg [⟨(some 118), .mov (.t 7), none⟩,
      ⟨(some 119), .mov (.t 1), none⟩,
      ⟨(some 120), .lens (.t 119), none⟩,
      ⟨(some 121), .slcs (.t 118) (some (.t 120)) none, none⟩,
      ⟨(some 122), .callr 19 [(.c (.p (.int .i64 2))), (.t 121)], none⟩,
      ⟨(some 117), .mov (.t 122), none⟩,
      ⟨(some 123), .ext (.t 117) 0, none⟩,
      ⟨(some 124), .ext (.t 117) 1, none⟩,
      ⟨(some 125), .ext (.t 117) 2, none⟩,
      ⟨(some 17), .mov (.t 123), none⟩,
      ⟨(some 18), .mov (.t 124), none⟩,
      ⟨(some 19), .mov (.t 125), none⟩])
    (.seq (.rg [⟨(some 126), .mov (.t 19), none⟩,
      ⟨(some 127), .mov (.t 126), none⟩,
      ⟨(some 128), .mov (.t 17), (some (127, true))⟩,
      ⟨(some 129), .mov (.t 9), (some (127, true))⟩,
      ⟨(some 130), .callr 18 [(.t 128), (.t 129)], (some (127, true))⟩,
      ⟨(some 131), .pick (.t 127) (.t 130) (.c (.p (.bool false))), none⟩,
      ⟨(some 4), .mov (.t 131), none⟩])
    .ret))))))))))))
def r4 : List DR := [.tmp 4]
theorem c4_ok : Tryz.f4.body.bind (cCode Tryz.prog) = some c4 := by kernel_rfl
theorem r4_ok : cRes Tryz.prog Tryz.f4.results.toList = some r4 := by kernel_rfl

/-- given.example/pub-assaymark/spec.PackList -/
def c12 : DC :=
  (.seq (.rg [⟨(some 4), .mov (.c (.p (.string ⟨#[]⟩))), none⟩])
    (.seq (.rg [⟨(some 5), .mov (.t 0), none⟩,
      ⟨(some 6), .lit 1 [(.c (.p (.int .u8 220))), (.c (.p (.int .u8 221)))], none⟩,
      ⟨(some 7), .mov (.t 1), none⟩,
      ⟨(some 8), .callr 27 [(.t 5), (.c (.p (.int .u8 144))), (.c (.p (.int .u8 15))), (.t 6), (.t 7)], none⟩,
      ⟨(some 4), .mov (.t 8), none⟩])
    .ret))
def r12 : List DR := [.tmp 4]
theorem c12_ok : Tryz.f12.body.bind (cCode Tryz.prog) = some c12 := by kernel_rfl
theorem r12_ok : cRes Tryz.prog Tryz.f12.results.toList = some r12 := by kernel_rfl

/-- given.example/pub-assaymark/impl.IntSetCode -/
def c14 : DC :=
  (.seq (.rg [⟨(some 6), .mov (.c (.p (.string ⟨#[]⟩))), none⟩,
      ⟨(some 7), .mov (.c (.p (.string ⟨#[]⟩))), none⟩,
      ⟨(some 8), .mov (.c (.p (.string ⟨#[]⟩))), none⟩,
      ⟨(some 9), .mov (.c (.p (.bool false))), none⟩])
    (.seq (.rg [⟨(some 17), .mov (.t 0), none⟩,
      ⟨(some 18), .callr 28 [(.t 17)], none⟩,
      ⟨(some 10), .mov (.t 18), none⟩])
    (.seq (.seq (.rg [⟨(some 19), .mov (.t 1), none⟩])
    (.cond (.t 19) (.rg [⟨(some 10), .mov (.c (.p (.map none))), none⟩])
      .skip))
    (.seq (.rg [⟨(some 21), .mov (.t 10), none⟩,
      ⟨(some 22), .callr 29 [(.t 21)], none⟩,
      ⟨(some 20), .mov (.t 22), none⟩,
      ⟨(some 23), .ext (.t 20) 0, none⟩,
      ⟨(some 24), .ext (.t 20) 1, none⟩,
      ⟨(some 11), .mov (.t 23), none⟩,
      ⟨(some 12), .mov (.t 24), none⟩])
    (.seq (.rg [⟨(some 26), .mov (.t 10), none⟩,
      ⟨(some 27), .callr 30 [(.t 26), (.c (.p (.slice none 0 0)))], none⟩,
      ⟨(some 25), .mov (.t 27), none⟩,
      ⟨(some 28), .ext (.t 25) 0, none⟩,
      ⟨(some 29), .ext (.t 25) 1, none⟩,
      ⟨(some 13), .mov (.t 28), none⟩,
      ⟨(some 14), .mov (.t 29), none⟩])
    (.seq (.rg [⟨(some 31), .mov (.t 10), none⟩,
      ⟨(some 32), .mov (.t 2), none⟩,
      ⟨(some 33), .s2bl (.t 32), none⟩,
      ⟨(some 34), .callr 31 [(.t 31), (.t 33)], none⟩,
      ⟨(some 30), .mov (.t 34), none⟩,
      ⟨(some 35), .ext (.t 30) 0, none⟩,
      ⟨(some 36), .ext (.t 30) 1, none⟩,
      ⟨(some 15), .mov (.t 35), none⟩,
      ⟨(some 16), .mov (.t 36), none⟩])
    (.seq (.rgd [⟨⟨(some 37), .mov (.t 11), none⟩, 0, [0]⟩,
      ⟨⟨(some 38), .b2s (.t 37), none⟩, 0, [0]⟩,
      ⟨⟨(some 39), .mov (.t 13), none⟩, 0, [0]⟩,
      ⟨⟨(some 40), .b2s (.t 39), none⟩, 0, [0]⟩,
      ⟨⟨(some 41), .mov (.t 15), none⟩, 0, [0]⟩,
      ⟨⟨(some 42), .b2s (.t 41), none⟩, 0, [0]⟩,
      ⟨⟨(some 43), .mov (.t 12), none⟩, 0, [0]⟩,
      ⟨⟨(some 44), .eqn false .iface (.t 43), none⟩, 0, [0]⟩,
      ⟨⟨(some 45), .mov (.t 44), none⟩, 0, [0]⟩,
      ⟨⟨(some 46), .mov (.t 14), (some (45, true))⟩, 0, [0]⟩,
      ⟨⟨(some 47), .eqn false .iface (.t 46), (some (45, true))⟩, 0, [0]⟩,
      ⟨⟨(some 48), .pick (.t 45) (.t 47) (.c (.p (.bool false))), none⟩, 0, [0]⟩,
      ⟨⟨(some 49), .mov (.t 48), none⟩, 0, [0]⟩,
      ⟨⟨(some 50), .mov (.t 16), (some (49, true))⟩, 0, [0]⟩,
      ⟨⟨(some 51), .eqn false .iface (.t 50), (some (49, true))⟩, 0, [0]⟩,
      ⟨⟨(some 52), .pick (.t 49) (.t 51) (.c (.p (.bool false))), none⟩, 0, [0]⟩,
      ⟨⟨(some 6), .mov (.t 38), none⟩, 0, [0]⟩,
      ⟨⟨(some 7), .mov (.t 40), none⟩, 0, [0]⟩,
      ⟨⟨(some 8), .mov (.t 42), none⟩, 0, []⟩,
      ⟨⟨(some 9), .mov (.t 52), none⟩, 0, []⟩])
    .ret)))))))
def r14 : List DR := [.tmp 6, .tmp 7, .tmp 8, .tmp 9]
theorem c14_ok : Tryz.f14.body.bind (cCodeV [6] Tryz.prog) = some c14 := by kernel_rfl
theorem r14_ok : cRes Tryz.prog Tryz.f14.results.toList = some r14 := by kernel_rfl

/-- given.example/pub-assaymark/spec.IntsOf -/
def c15 : DC :=
  (.seq (.rg [⟨(some 2), .mov (.c (.p (.slice none 0 0))), none⟩])
    (.seq (.rg [⟨(some 3), .mov (.c (.p (.slice none 0 0))), none⟩])
    (.seq (.seq (.rg [⟨(some 7), .mov (.t 0), none⟩,
      ⟨(some 8), .lenl (.t 7), none⟩,
      ⟨(some 9), .mov (.c (.p (.int .i64 0))), none⟩])
    (.block 0 (.loop (.seq (.rg [⟨(some 10), .bin .lss (.t 9) (.t 8), none⟩])
      (.seq (.cond (.t 10) .skip
        (.exit 0))
      (.seq (.block 1 (.seq (.rg [⟨(some 11), .iaddr 1 (.t 7) (.t 9), none⟩,
         ⟨(some 12), .load false 1 (.t 11), none⟩,
         ⟨(some 5), .mov (.t 12), none⟩])
       (.seq (.rg [⟨(some 6), .mov (.c (.p (.int .i64 0))), none⟩])
       (.seq (.block 2 (.loop (.seq (.seq (.rg [⟨(some 13), .mov (.t 6), none⟩,
           ⟨(some 14), .mov (.t 3), none⟩,
           ⟨(some 15), .lenl (.t 14), none⟩,
           ⟨(some 16), .bin .lss (.t 13) (.t 15), none⟩,
           ⟨(some 17), .mov (.t 16), none⟩,
           ⟨(some 18), .mov (.t 3), (some (17, true))⟩,
           ⟨(some 19), .mov (.t 6), (some (17, true))⟩,
           ⟨(some 20), .iaddr 1 (.t 18) (.t 19), (some (17, true))⟩,
           ⟨(some 21), .load false 1 (.t 20), (some (17, true))⟩,
           ⟨(some 22), .mov (.t 5), (some (17, true))⟩,
           ⟨(some 23), .bin .lss (.t 21) (.t 22), (some (17, true))⟩,
           ⟨(some 24), .pick (.t 17) (.t 23) (.c (.p (.bool false))), none⟩])
         (.cond (.t 24) .skip
           (.exit 2)))
         (.block 3 (.rg [⟨(some 25), .mov (.t 6), none⟩,
            ⟨(some 26), .bin .add (.t 25) (.c (.p (.int .i64 1))), none⟩,
            ⟨(some 6), .mov (.t 26), none⟩])))))
       (.seq (.rg [⟨(some 27), .mov (.t 6), none⟩,
         ⟨(some 28), .mov (.t 3), none⟩,
         ⟨(some 29), .lenl (.t 28), none⟩,
         ⟨(some 30), .bin .eql (.t 27) (.t 29), none⟩,
         ⟨(some 31), .mov (.t 30), none⟩,
         ⟨(some 32), .mov (.t 3), (some (31, false))⟩,
         ⟨(some 33), .mov (.t 6), (some (31, false))⟩,
         ⟨(some 34), .iaddr 1 (.t 32) (.t 33), (some (31, false))⟩,
         ⟨(some 35), .load false 1 (.t 34), (some (31, false))⟩,
         ⟨(some 36), .mov (.t 5), (some (31, false))⟩,
         ⟨(some 37), .bin .neq (.t 35) (.t 36), (some (31, false))⟩,
         ⟨(some 38), .pick (.t 31) (.c (.p (.bool true))) (.t 37), none⟩])
       (.cond (.t 38) (.rgd [⟨⟨(some 39), .mov (.t 3), none⟩, 0, [0]⟩,
           ⟨⟨(some 40), .mov (.t 6), none⟩, 0, [0]⟩,
           ⟨⟨(some 41), .slcl 1 (.t 39) none (some (.t 40)), none⟩, 0, [0]⟩,
           ⟨⟨(some 42), .mov (.t 5), none⟩, 0, [0]⟩,
           ⟨⟨(some 43), .lit 1 [(.t 42)], none⟩, 0, [0]⟩,
           ⟨⟨(some 44), .mov (.t 3), none⟩, 0, [0]⟩,
           ⟨⟨(some 45), .mov (.t 6), none⟩, 0, [0]⟩,
           ⟨⟨(some 46), .slcl 1 (.t 44) (some (.t 45)) none, none⟩, 0, [0]⟩,
           ⟨⟨(some 47), .app 1 8 (.t 43) (.t 46), none⟩, 1, [0]⟩,
           ⟨⟨(some 48), .app 1 8 (.t 41) (.t 47), none⟩, 2, []⟩,
           ⟨⟨(some 3), .mov (.t 48), none⟩, 3, []⟩])
         .skip))))))
      (.rg [⟨(some 49), .bin .add (.t 9) (.c (.p (.int .i64 1))), none⟩,
        ⟨(some 9), .mov (.t 49), none⟩])))))))
    (.seq (.rg [⟨(some 50), .mov (.t 3), none⟩,
      ⟨(some 2), .mov (.t 50), none⟩])
    .ret))))
def r15 : List DR := [.tmp 2]
theorem c15_ok : Tryz.f15.body.bind (cCode Tryz.prog) = some c15 := by kernel_rfl
theorem r15_ok : cRes Tryz.prog Tryz.f15.results.toList = some r15 := by kernel_rfl

/-- given.example/pub-assaymark/spec.PackInts -/
def c17 : DC :=
  (.seq (.rg [⟨(some 2), .mov (.c (.p (.slice none 0 0))), none⟩,
      ⟨(some 3), .mov (.c (.p (.bool false))), none⟩,
      ⟨(some 4), .mov (.c (.p (.string ⟨#[]⟩))), none⟩,
      ⟨(some 5), .mov (.c (.p (.bool false))), none⟩])
    (.seq (.rg [⟨(some 9), .mov (.t 0), none⟩,
      ⟨(some 10), .bld [.p (.string ⟨#[]⟩), .p (.bool false)] [(0, 1, (.t 9))], none⟩,
      ⟨(some 11), .box (.t 10), none⟩,
      ⟨(some 6), .mov (.t 11), none⟩])
    (.seq (.rg [⟨(some 12), .mov (.t 6), none⟩,
      ⟨(some 13), .callr 33 [(.t 12)], none⟩,
      ⟨(some 7), .mov (.t 13), none⟩])
    (.seq (.seq (.rg [⟨(some 8), .mov (.c (.p (.int .i64 0))), none⟩])
    (.block 0 (.loop (.seq (.seq (.rg [⟨(some 14), .mov (.t 8), none⟩,
        ⟨(some 15), .mov (.t 7), none⟩,
        ⟨(some 16), .bin .lss (.t 14) (.t 15), none⟩,
        ⟨(some 17), .mov (.t 16), none⟩,
        ⟨(some 18), .mov (.t 6), (some (17, true))⟩,
        ⟨(some 19), .nilchk .ptr (.t 18), (some (17, true))⟩,
        ⟨(some 20), .faddr false 1 1 (.t 19), (some (17, true))⟩,
        ⟨(some 21), .load false 1 (.t 20), (some (17, true))⟩,
        ⟨(some 22), .un .not (.t 21), (some (17, true))⟩,
        ⟨(some 23), .pick (.t 17) (.t 22) (.c (.p (.bool false))), none⟩])
      (.cond (.t 23) .skip
        (.exit 0)))
      (.seq (.block 1 (.rg [⟨(some 26), .mov (.t 2), none⟩,
         ⟨(some 27), .mov (.t 6), none⟩,
         ⟨(some 28), .callr 34 [(.t 27)], none⟩,
         ⟨(some 29), .lit 1 [(.t 28)], none⟩,
         ⟨(some 30), .app 1 8 (.t 26) (.t 29), none⟩,
         ⟨(some 2), .mov (.t 30), none⟩]))
      (.rg [⟨(some 24), .mov (.t 8), none⟩,
        ⟨(some 25), .bin .add (.t 24) (.c (.p (.int .i64 1))), none⟩,
        ⟨(some 8), .mov (.t 25), none⟩]))))))
    (.seq (.rgd [⟨⟨(some 31), .mov (.t 2), none⟩, 0, [0]⟩,
      ⟨⟨(some 32), .mov (.t 7), none⟩, 0, [0]⟩,
      ⟨⟨(some 33), .bin .lss (.t 32) (.c (.p (.int .i64 0))), none⟩, 0, [0]⟩,
      ⟨⟨(some 34), .mov (.t 6), none⟩, 0, [0]⟩,
      ⟨⟨(some 35), .nilchk .ptr (.t 34), none⟩, 0, [0]⟩,
      ⟨⟨(some 36), .faddr false 0 1 (.t 35), none⟩, 0, [0]⟩,
      ⟨⟨(some 37), .load false 1 (.t 36), none⟩, 0, [0]⟩,
      ⟨⟨(some 38), .mov (.t 6), none⟩, 0, [0]⟩,
      ⟨⟨(some 39), .nilchk .ptr (.t 38), none⟩, 0, [0]⟩,
      ⟨⟨(some 40), .faddr false 1 1 (.t 39), none⟩, 0, [0]⟩,
      ⟨⟨(some 41), .load false 1 (.t 40), none⟩, 0, [0]⟩,
      ⟨⟨(some 42), .un .not (.t 41), none⟩, 0, [0]⟩,
      ⟨⟨(some 2), .mov (.t 31), none⟩, 0, [0]⟩,
      ⟨⟨(some 3), .mov (.t 33), none⟩, 0, [0]⟩,
      ⟨⟨(some 4), .mov (.t 37), none⟩, 0, [0]⟩,
      ⟨⟨(some 5), .mov (.t 42), none⟩, 0, []⟩])
    .ret)))))
def r17 : List DR := [.tmp 2, .tmp 3, .tmp 4, .tmp 5]
theorem c17_ok : Tryz.f17.body.bind (cCode Tryz.prog) = some c17 := by kernel_rfl
theorem r17_ok : cRes Tryz.prog Tryz.f17.results.toList = some r17 := by kernel_rfl

/-- given.example/pub-assaymark/spec.IntsSame -/
def c18 : DC :=
  (.seq (.rg [⟨(some 4), .mov (.c (.p (.bool false))), none⟩])
    (.seq (.seq (.rg [⟨(some 7), .mov (.t 0), none⟩,
      ⟨(some 8), .lenl (.t 7), none⟩,
      ⟨(some 9), .mov (.t 1), none⟩,
      ⟨(some 10), .lenl (.t 9), none⟩,
      ⟨(some 11), .bin .neq (.t 8) (.t 10), none⟩])
    (.cond (.t 11) (.seq (.rg [⟨(some 4), .mov (.c (.p (.bool false))), none⟩])
      .ret)
      .skip))
    (.seq (.seq (.rg [⟨(some 12), .mov (.t 0), none⟩,
      ⟨(some 13), .lenl (.t 12), none⟩,
      ⟨(some 14), .mov (.c (.p (.int .i64 0))), none⟩])
    (.block 0 (.loop (.seq (.rg [⟨(some 15), .bin .lss (.t 14) (.t 13), none⟩])
      (.seq (.cond (.t 15) .skip
        (.exit 0))
      (.seq (.block 1 (.seq (.rg [⟨(some 16), .mov (.t 14), none⟩,
         ⟨(some 17), .iaddr 1 (.t 12) (.t 14), none⟩,
         ⟨(some 18), .load false 1 (.t 17), none⟩,
         ⟨(some 5), .mov (.t 16), none⟩,
         ⟨(some 6), .mov (.t 18), none⟩])
       (.seq (.rg [⟨(some 19), .mov (.t 6), none⟩,
         ⟨(some 20), .mov (.t 1), none⟩,
         ⟨(some 21), .mov (.t 5), none⟩,
         ⟨(some 22), .iaddr 1 (.t 20) (.t 21), none⟩,
         ⟨(some 23), .load false 1 (.t 22), none⟩,
         ⟨(some 24), .bin .neq (.t 19) (.t 23), none⟩])
       (.cond (.t 24) (.seq (.rg [⟨(some 4), .mov (.c (.p (.bool false))), none⟩])
         .ret)
         .skip))))
      (.rg [⟨(some 25), .bin .add (.t 14) (.c (.p (.int .i64 1))), none⟩,
        ⟨(some 14), .mov (.t 25), none⟩])))))))
    (.seq (.rg [⟨(some 4), .mov (.c (.p (.bool true))), none⟩])
    .ret))))
def r18 : List DR := [.tmp 4]
theorem c18_ok : Tryz.f18.body.bind (cCode Tryz.prog) = some c18 := by kernel_rfl
theorem r18_ok : cRes Tryz.prog Tryz.f18.results.toList = some r18 := by kernel_rfl

/-- given.example/pub-assaymark/impl.IntSetRead -/
def c19 : DC :=
  (.seq (.rg [⟨(some 4), .mov (.c (.p (.slice none 0 0))), none⟩,
      ⟨(some 5), .mov (.c (.p (.string ⟨#[]⟩))), none⟩,
      ⟨(some 6), .mov (.c (.p (.bool false))), none⟩])
    (.seq (.rg [⟨(some 7), .alloc 1 (.p (.map none)), none⟩])
    (.seq (.rg [⟨(some 8), .mov (.c (.p (.slice none 0 0))), none⟩])
    (.seq (.rg [⟨(some 9), .mov (.c (.p .nilIface)), none⟩])
    (.seq (.seq (.rg [⟨(some 10), .mov (.t 0), none⟩])
    (.block 0 (.seq (.rg [⟨(some 12), .bin .eql (.t 10) (.c (.p (.int .i64 0))), none⟩,
       ⟨(some 11), .mov (.t 12), none⟩])
     (.cond (.t 11) (.rg [⟨(some 13), .mov (.t 1), none⟩,
         ⟨(some 14), .s2b (.t 13), none⟩,
         ⟨(some 15), .callr 35 [(.t 7), (.t 14)], none⟩,
         ⟨(some 9), .mov (.t 15), none⟩])
       (.seq (.rg [⟨(some 17), .bin .eql (.t 10) (.c (.p (.int .i64 1))), none⟩,
         ⟨(some 16), .mov (.t 17), none⟩])
       (.cond (.t 16) (.rg [⟨(some 19), .mov (.t 1), none⟩,
           ⟨(some 20), .s2b (.t 19), none⟩,
           ⟨(some 21), .callr 36 [(.t 7), (.t 20)], none⟩,
           ⟨(some 18), .mov (.t 21), none⟩,
           ⟨(some 22), .ext (.t 18) 0, none⟩,
           ⟨(some 23), .ext (.t 18) 1, none⟩,
           ⟨(some 8), .mov (.t 22), none⟩,
           ⟨(some 9), .mov (.t 23), none⟩])
         (.seq (.rg [⟨(some 25), .bin .eql (.t 10) (.c (.p (.int .i64 2))), none⟩,
           ⟨(some 24), .mov (.t 25), none⟩])
         (.cond (.t 24) (.rg [⟨(some 26), .mov (.t 1), none⟩,
             ⟨(some 27), .s2b (.t 26), none⟩,
             ⟨(some 28), .callr 37 [(.t 7), (.t 27)], none⟩,
             ⟨(some 9), .mov (.t 28), none⟩])
           (.seq (.rg [⟨(some 4), .mov (.c (.p (.slice none 0 0))), none⟩,
             ⟨(some 5), .mov (.c (.p (.string ⟨#[]⟩))), none⟩,
             ⟨(some 6), .mov (.c (.p (.bool false))), none⟩])
           .ret)))))))))
    (.seq (.seq (.rg [⟨(some 29), .mov (.t 9), none⟩,
      ⟨(some 30), .eqn true .iface (.t 29), none⟩])
    (.cond (.t 30) (.seq (.rg [⟨(some 4), .mov (.c (.p (.slice none 0 0))), none⟩,
        ⟨(some 5), .mov (.c (.p (.string ⟨#[]⟩))), none⟩,
        ⟨(some 6), .mov (.c (.p (.bool false))), none⟩])
      .ret)
      .skip))
    (.seq (.rgd [⟨⟨(some 31), .load false 1 (.t 7), none⟩, 0, [0]⟩,
      ⟨⟨(some 32), .call 38 [(.t 31)], none⟩, 0, [0]⟩,
      ⟨⟨(some 33), .mov (.t 8), none⟩, 0, [0]⟩,
      ⟨⟨(some 34), .b2s (.t 33), none⟩, 0, [0]⟩,
      ⟨⟨(some 4), .mov (.t 32), none⟩, 1, [0]⟩,
      ⟨⟨(some 5), .mov (.t 34), none⟩, 1, []⟩,
      ⟨⟨(some 6), .mov (.c (.p (.bool true))), none⟩, 1, []⟩])
    .ret)))))))
def r19 : List DR := [.tmp 4, .tmp 5, .tmp 6]
theorem c19_ok : Tryz.f19.body.bind (cCode Tryz.prog) = some c19 := by kernel_rfl
theorem r19_ok : cRes Tryz.prog Tryz.f19.results.toList = some r19 := by kernel_rfl

/-- given.example/pub-assaymark/spec.packHead -/
def c27 : DC :=
  (.seq (.rg [⟨(some 10), .mov (.c (.p (.string ⟨#[]⟩))), none⟩])
    (.seq (.rg [⟨(some 11), .mov (.c (.p (.slice none 0 0))), none⟩])
    (.seq (.seq (.rg [⟨(some 15), .mov (.t 0), none⟩,
      ⟨(some 16), .mov (.t 2), none⟩,
      ⟨(some 17), .cint .i64 (.t 16), none⟩,
      ⟨(some 18), .bin .leq (.t 15) (.t 17), none⟩])
    (.cond (.t 18) (.rg [⟨(some 19), .mov (.t 11), none⟩,
        ⟨(some 20), .mov (.t 1), none⟩,
        ⟨(some 21), .mov (.t 0), none⟩,
        ⟨(some 22), .cint .u8 (.t 21), none⟩,
        ⟨(some 23), .bin .or (.t 20) (.t 22), none⟩,
        ⟨(some 24), .lit 1 [(.t 23)], none⟩,
        ⟨(some 25), .b2s (.t 24), none⟩,
        ⟨(some 26), .lit 1 [(.t 25)], none⟩,
        ⟨(some 27), .app 1 16 (.t 19) (.t 26), none⟩,
        ⟨(some 11), .mov (.t 27), none⟩])
      .skip))
    (.seq (.seq (.rg [⟨(some 28), .mov (.t 3), none⟩,
      ⟨(some 29), .lenl (.t 28), none⟩,
      ⟨(some 30), .mov (.c (.p (.int .i64 0))), none⟩])
    (.block 0 (.loop (.seq (.rg [⟨(some 31), .bin .lss (.t 30) (.t 29), none⟩])
      (.seq (.cond (.t 31) .skip
        (.exit 0))
      (.seq (.block 1 (.seq (.rg [⟨(some 32), .mov (.t 30), none⟩,
         ⟨(some 33), .iaddr 1 (.t 28) (.t 30), none⟩,
         ⟨(some 34), .load false 1 (.t 33), none⟩,
         ⟨(some 12), .mov (.t 32), none⟩,
         ⟨(some 13), .mov (.t 34), none⟩])
       (.seq (.rg [⟨(some 35), .mov (.t 12), none⟩,
         ⟨(some 36), .bin .add (.t 35) (.c (.p (.int .i64 3))), none⟩,
         ⟨(some 37), .mov (.t 3), none⟩,
         ⟨(some 38), .lenl (.t 37), none⟩,
         ⟨(some 39), .bin .sub (.t 36) (.t 38), none⟩,
         ⟨(some 40), .bin .shl (.c (.p (.int .i64 1))) (.t 39), none⟩,
         ⟨(some 14), .mov (.t 40), none⟩])
       (.seq (.rg [⟨(some 41), .mov (.t 14), none⟩,
         ⟨(some 42), .bin .geq (.t 41) (.c (.p (.int .i64 4))), none⟩,
         ⟨(some 43), .mov (.t 42), none⟩,
         ⟨(some 44), .mov (.t 0), (some (43, false))⟩,
         ⟨(some 45), .mov (.t 14), (some (43, false))⟩,
         ⟨(some 46), .bin .mul (.c (.p (.int .i64 8))) (.t 45), (some (43, false))⟩,
         ⟨(some 47), .bin .shl (.c (.p (.int .i64 1))) (.t 46), (some (43, false))⟩,
         ⟨(some 48), .bin .lss (.t 44) (.t 47), (some (43, false))⟩,
         ⟨(some 49), .pick (.t 43) (.c (.p (.bool true))) (.t 48), none⟩])
       (.cond (.t 49) (.rgd [⟨⟨(some 50), .mov (.t 11), none⟩, 0, [0]⟩,
           ⟨⟨(some 51), .mov (.t 13), none⟩, 0, []⟩,
           ⟨⟨(some 52), .litz 1 [(.t 51)], none⟩, 0, []⟩,
           ⟨⟨(some 53), .b2s (.t 52), none⟩, 0, [0]⟩,
           ⟨⟨(some 54), .mov (.t 0), none⟩, 0, [0]⟩,
           ⟨⟨(some 55), .cint .u64 (.t 54), none⟩, 0, [0]⟩,
           ⟨⟨(some 56), .mov (.t 14), none⟩, 0, [0]⟩,
           ⟨⟨(some 57), .call 50 [(.t 55), (.t 56)], none⟩, 0, [0]⟩,
           ⟨⟨(some 58), .bin .add (.t 53) (.t 57), none⟩, 1, []⟩,
           ⟨⟨(some 59), .litz 1 [(.t 58)], none⟩, 1, []⟩,
           ⟨⟨(some 60), .app 1 16 (.t 50) (.t 59), none⟩, 1, []⟩,
           ⟨⟨(some 11), .mov (.t 60), none⟩, 2, []⟩])
         .skip)))))
      (.rg [⟨(some 61), .bin .add (.t 30) (.c (.p (.int .i64 1))), none⟩,
        ⟨(some 30), .mov (.t 61), none⟩])))))))
    (.seq (.rg [⟨(some 62), .mov (.t 11), none⟩,
      ⟨(some 63), .mov (.t 4), none⟩,
      ⟨(some 64), .mov (.t 11), none⟩,
      ⟨(some 65), .lenl (.t 64), none⟩,
      ⟨(some 66), .bin .rem (.t 63) (.t 65), none⟩,
      ⟨(some 67), .iaddr 1 (.t 62) (.t 66), none⟩,
      ⟨(some 68), .load false 1 (.t 67), none⟩,
      ⟨(some 10), .mov (.t 68), none⟩])
    .ret)))))
def r27 : List DR := [.tmp 10]
theorem c27_ok : Tryz.f27.body.bind (cCode Tryz.prog) = some c27 := by kernel_rfl
theorem r27_ok : cRes Tryz.prog Tryz.f27.results.toList = some r27 := by kernel_rfl

/-- given.example/pub-assaymark/pub/miniogo/pkg/set.CreateIntSet -/
def c28 : DC :=
  (.seq (.rg [⟨(some 2), .mov (.c (.p (.map none))), none⟩])
    (.seq (.rg [⟨(some 3), .mov (.t 0), none⟩,
      ⟨(some 4), .callr 51 [(.t 3)], none⟩,
      ⟨(some 2), .mov (.t 4), none⟩])
    .ret))
def r28 : List DR := [.tmp 2]
theorem c28_ok : Tryz.f28.body.bind (cCode Tryz.prog) = some c28 := by kernel_rfl
theorem r28_ok : cRes Tryz.prog Tryz.f28.results.toList = some r28 := by kernel_rfl

/-- (given.example/pub-assaymark/pub/miniogo/pkg/set.IntSet).MarshalJSON -/
def c29 : DC :=
  (.seq (.rg [⟨(some 2), .mov (.c (.p (.slice none 0 0))), none⟩,
      ⟨(some 3), .mov (.c (.p .nilIface)), none⟩])
    (.seq (.rg [⟨(some 4), .mov (.t 0), none⟩,
      ⟨(some 5), .callr 38 [(.t 4)], none⟩,
      ⟨(some 6), .ifc 90 (.t 5), none⟩,
      ⟨(some 7), .callr 52 [(.t 6)], none⟩,
      ⟨(some 8), .ext (.t 7) 0, none⟩,
      ⟨(some 9), .ext (.t 7) 1, none⟩,
      ⟨(some 2), .mov (.t 8), none⟩,
      ⟨(some 3), .mov (.t 9), none⟩])
    .ret))
def r29 : List DR := [.tmp 2, .tmp 3]
theorem c29_ok : Tryz.f29.body.bind (cCode Tryz.prog) = some c29 := by kernel_rfl
theorem r29_ok : cRes Tryz.prog Tryz.f29.results.toList = some r29 := by kernel_rfl

/-- (given.example/pub-assaymark/pub/miniogo/pkg/set.IntSet).MarshalMsg -/
def c30 : DC :=
  (.seq (.rg [⟨(some 4), .mov (.c (.p (.slice none 0 0))), none⟩,
      ⟨(some 5), .mov (.c (.p .nilIface)), none⟩])
    (.seq (.seq (.rg [⟨(some 8), .mov (.t 0), none⟩,
      ⟨(some 9), .eqn false .map (.t 8), none⟩])
    (.cond (.t 9) (.seq (.rg [⟨(some 10), .mov (.t 1), none⟩,
        ⟨(some 11), .callr 53 [(.t 10)], none⟩,
        ⟨(some 4), .mov (.t 11), none⟩,
        ⟨(some 5), .mov (.c (.p .nilIface)), none⟩])
      .ret)
      .skip))
    (.seq (.rg [⟨(some 12), .mov (.t 1), none⟩,
      ⟨(some 13), .mov (.t 0), none⟩,
      ⟨(some 14), .lenm (.t 13), none⟩,
      ⟨(some 15), .callr 54 [(.t 12), (.t 14)], none⟩,
      ⟨(some 1), .mov (.t 15), none⟩])
    (.seq (.seq (.rg [⟨(some 16), .mov (.t 0), none⟩,
      ⟨(some 17), .callr 38 [(.t 16)], none⟩,
      ⟨(some 18), .lenl (.t 17), none⟩,
      ⟨(some 19), .mov (.c (.p (.int .i64 0))), none⟩])
    (.block 0 (.loop (.seq (.rg [⟨(some 20), .bin .lss (.t 19) (.t 18), none⟩])
      (.seq (.cond (.t 20) .skip
        (.exit 0))
      (.seq (.block 1 (.seq (.rg [⟨(some 21), .iaddr 1 (.t 17) (.t 19), none⟩,
         ⟨(some 22), .load false 1 (.t 21), none⟩,
         ⟨(some 7), .mov (.t 22), none⟩])
       (.rg [⟨(some 23), .mov (.t 1), none⟩,
         ⟨(some 24), .mov (.t 7), none⟩,
         ⟨(some 25), .callr 55 [(.t 23), (.t 24)], none⟩,
         ⟨(some 1), .mov (.t 25), none⟩])))
      (.rg [⟨(some 26), .bin .add (.t 19) (.c (.p (.int .i64 1))), none⟩,
        ⟨(some 19), .mov (.t 26), none⟩])))))))
    (.seq (.rg [⟨(some 27), .mov (.t 1), none⟩,
      ⟨(some 4), .mov (.t 27), none⟩,
      ⟨(some 5), .mov (.c (.p .nilIface)), none⟩])
    .ret)))))
def r30 : List DR := [.tmp 4, .tmp 5]
theorem c30_ok : Tryz.f30.body.bind (cCode Tryz.prog) = some c30 := by kernel_rfl
theorem r30_ok : cRes Tryz.prog Tryz.f30.results.toList = some r30 := by kernel_rfl

/-- (given.example/pub-assaymark/pub/miniogo/pkg/set.IntSet).AppendBinary -/
def c31 : DC :=
  (.seq (.rg [⟨(some 4), .mov (.c (.p (.slice none 0 0))), none⟩,
      ⟨(some 5), .mov (.c (.p .nilIface)), none⟩])
    (.seq (.rg [⟨(some 6), .mov (.t 0), none⟩,
      ⟨(some 7), .mov (.t 1), none⟩,
      ⟨(some 8), .callr 30 [(.t 6), (.t 7)], none⟩,
      ⟨(some 9), .ext (.t 8) 0, none⟩,
      ⟨(some 10), .ext (.t 8) 1, none⟩,
      ⟨(some 4), .mov (.t 9), none⟩,
      ⟨(some 5), .mov (.t 10), none⟩])
    .ret))
def r31 : List DR := [.tmp 4, .tmp 5]
theorem c31_ok : Tryz.f31.body.bind (cCode Tryz.prog) = some c31 := by kernel_rfl
theorem r31_ok : cRes Tryz.prog Tryz.f31.results.toList = some r31 := by kernel_rfl

/-- (*given.example/pub-assaymark/spec.packReader).list -/
def c33 : DC :=
  (.seq (.rg [⟨(some 2), .mov (.c (.p (.int .i64 0))), none⟩])
    (.seq (.seq (.rg [⟨(some 4), .mov (.t 0), none⟩,
      ⟨(some 5), .callr 57 [(.t 4)], none⟩,
      ⟨(some 3), .mov (.t 5), none⟩])
    (.block 0 (.seq (.rg [⟨(some 7), .mov (.t 3), none⟩,
       ⟨(some 8), .bin .eql (.t 7) (.c (.p (.int .u8 192))), none⟩,
       ⟨(some 6), .mov (.t 8), none⟩])
     (.cond (.t 6) (.seq (.rg [⟨(some 2), .mov (.c (.p (.int .i64 (-1)))), none⟩])
       .ret)
       (.seq (.rg [⟨(some 10), .mov (.t 3), none⟩,
         ⟨(some 11), .bin .and (.t 10) (.c (.p (.int .u8 240))), none⟩,
         ⟨(some 12), .bin .eql (.t 11) (.c (.p (.int .u8 144))), none⟩,
         ⟨(some 9), .mov (.t 12), none⟩])
       (.cond (.t 9) (.seq (.rg [⟨(some 13), .mov (.t 3), none⟩,
           ⟨(some 14), .bin .and (.t 13) (.c (.p (.int .u8 15))), none⟩,
           ⟨(some 15), .cint .i64 (.t 14), none⟩,
           ⟨(some 2), .mov (.t 15), none⟩])
         .ret)
         (.seq (.rg [⟨(some 17), .mov (.t 3), none⟩,
           ⟨(some 18), .bin .eql (.t 17) (.c (.p (.int .u8 220))), none⟩,
           ⟨(some 16), .mov (.t 18), none⟩])
         (.cond (.t 16) (.seq (.rg [⟨(some 19), .mov (.t 0), none⟩,
             ⟨(some 20), .callr 58 [(.t 19), (.c (.p (.int .i64 2)))], none⟩,
             ⟨(some 21), .cint .i64 (.t 20), none⟩,
             ⟨(some 2), .mov (.t 21), none⟩])
           .ret)
           (.seq (.rg [⟨(some 23), .mov (.t 3), none⟩,
             ⟨(some 24), .bin .eql (.t 23) (.c (.p (.int .u8 221))), none⟩,
             ⟨(some 22), .mov (.t 24), none⟩])
           (.cond (.t 22) (.seq (.rg [⟨(some 25), .mov (.t 0), none⟩,
               ⟨(some 26), .callr 58 [(.t 25), (.c (.p (.int .i64 4)))], none⟩,
               ⟨(some 27), .cint .i64 (.t 26), none⟩,
               ⟨(some 2), .mov (.t 27), none⟩])
             .ret)
             .skip))))))))))
    (.seq (.rg [⟨(some 28), .mov (.t 0), none⟩,
      ⟨(some 29), .nilchk .ptr (.t 28), none⟩,
      ⟨(some 30), .faddr false 1 1 (.t 29), none⟩,
      ⟨none, .store 1 (.t 30) (.c (.p (.bool true))), none⟩])
    (.seq (.rg [⟨(some 2), .mov (.c (.p (.int .i64 0))), none⟩])
    .ret))))
def r33 : List DR := [.tmp 2]
theorem c33_ok : Tryz.f33.body.bind (cCode Tryz.prog) = some c33 := by kernel_rfl
theorem r33_ok : cRes Tryz.prog Tryz.f33.results.toList = some r33 := by kernel_rfl

/-- (*given.example/pub-assaymark/spec.packReader).number -/
def c34 : DC :=
  (.seq (.rg [⟨(some 2), .mov (.c (.p (.int .i64 0))), none⟩])
    (.seq (.seq (.rg [⟨(some 6), .mov (.t 0), none⟩,
      ⟨(some 7), .callr 57 [(.t 6)], none⟩,
      ⟨(some 3), .mov (.t 7), none⟩])
    (.block 0 (.seq (.rg [⟨(some 9), .mov (.t 3), none⟩,
       ⟨(some 10), .bin .lss (.t 9) (.c (.p (.int .u8 128))), none⟩,
       ⟨(some 11), .mov (.t 10), none⟩,
       ⟨(some 12), .mov (.t 3), (some (11, false))⟩,
       ⟨(some 13), .bin .geq (.t 12) (.c (.p (.int .u8 224))), (some (11, false))⟩,
       ⟨(some 14), .pick (.t 11) (.c (.p (.bool true))) (.t 13), none⟩,
       ⟨(some 8), .mov (.t 14), none⟩])
     (.cond (.t 8) (.seq (.rg [⟨(some 15), .mov (.t 3), none⟩,
         ⟨(some 16), .cint .i8 (.t 15), none⟩,
         ⟨(some 17), .cint .i64 (.t 16), none⟩,
         ⟨(some 2), .mov (.t 17), none⟩])
       .ret)
       (.seq (.rg [⟨(some 19), .mov (.t 3), none⟩,
         ⟨(some 20), .bin .geq (.t 19) (.c (.p (.int .u8 204))), none⟩,
         ⟨(some 21), .mov (.t 20), none⟩,
         ⟨(some 22), .mov (.t 3), (some (21, true))⟩,
         ⟨(some 23), .bin .leq (.t 22) (.c (.p (.int .u8 207))), (some (21, true))⟩,
         ⟨(some 24), .pick (.t 21) (.t 23) (.c (.p (.bool false))), none⟩,
         ⟨(some 18), .mov (.t 24), none⟩])
       (.cond (.t 18) (.seq (.rg [⟨(some 25), .mov (.t 0), none⟩,
           ⟨(some 26), .mov (.t 3), none⟩,
           ⟨(some 27), .bin .sub (.t 26) (.c (.p (.int .u8 204))), none⟩,
           ⟨(some 28), .bin .shl (.c (.p (.int .i64 1))) (.t 27), none⟩,
           ⟨(some 29), .callr 58 [(.t 25), (.t 28)], none⟩,
           ⟨(some 30), .cint .i64 (.t 29), none⟩,
           ⟨(some 2), .mov (.t 30), none⟩])
         .ret)
         (.seq (.rg [⟨(some 32), .mov (.t 3), none⟩,
           ⟨(some 33), .bin .geq (.t 32) (.c (.p (.int .u8 208))), none⟩,
           ⟨(some 34), .mov (.t 33), none⟩,
           ⟨(some 35), .mov (.t 3), (some (34, true))⟩,
           ⟨(some 36), .bin .leq (.t 35) (.c (.p (.int .u8 211))), (some (34, true))⟩,
           ⟨(some 37), .pick (.t 34) (.t 36) (.c (.p (.bool false))), none⟩,
           ⟨(some 31), .mov (.t 37), none⟩])
         (.cond (.t 31) (.seq (.rg [⟨(some 38), .mov (.t 3), none⟩,
             ⟨(some 39), .bin .sub (.t 38) (.c (.p (.int .u8 208))), none⟩,
             ⟨(some 40), .bin .shl (.c (.p (.int .i64 1))) (.t 39), none⟩,
             ⟨(some 4), .mov (.t 40), none⟩])
           (.seq (.rg [⟨(some 41), .mov (.t 0), none⟩,
             ⟨(some 42), .mov (.t 4), none⟩,
             ⟨(some 43), .callr 58 [(.t 41), (.t 42)], none⟩,
             ⟨(some 5), .mov (.t 43), none⟩])
           (.seq (.rg [⟨(some 44), .mov (.t 5), none⟩,
             ⟨(some 45), .mov (.t 4), none⟩,
             ⟨(some 46), .bin .mul (.c (.p (.int .i64 8))) (.t 45), none⟩,
             ⟨(some 47), .bin .sub (.c (.p (.int .i64 64))) (.t 46), none⟩,
             ⟨(some 48), .bin .shl (.t 44) (.t 47), none⟩,
             ⟨(some 49), .cint .i64 (.t 48), none⟩,
             ⟨(some 50), .mov (.t 4), none⟩,
             ⟨(some 51), .bin .mul (.c (.p (.int .i64 8))) (.t 50), none⟩,
             ⟨(some 52), .bin .sub (.c (.p (.int .i64 64))) (.t 51), none⟩,
             ⟨(some 53), .bin .shr (.t 49) (.t 52), none⟩,
             ⟨(some 2), .mov (.t 53), none⟩])
           .ret)))
           .skip))))))))
    (.seq (.rg [⟨(some 54), .mov (.t 0), none⟩,
      ⟨(some 55), .nilchk .ptr (.t 54), none⟩,
      ⟨(some 56), .faddr false 1 1 (.t 55), none⟩,
      ⟨none, .store 1 (.t 56) (.c (.p (.bool true))), none⟩])
    (.seq (.rg [⟨(some 2), .mov (.c (.p (.int .i64 0))), none⟩])
    .ret))))
def r34 : List DR := [.tmp 2]
theorem c34_ok : Tryz.f34.body.bind (cCode Tryz.prog) = some c34 := by kernel_rfl
theorem r34_ok : cRes Tryz.prog Tryz.f34.results.toList = some r34 := by kernel_rfl

/-- (*given.example/pub-assaymark/pub/miniogo/pkg/set.IntSet).UnmarshalMsg -/
def c36 : DC :=
  (.seq (.rg [⟨(some 4), .mov (.c (.p (.slice none 0 0))), none⟩,
      ⟨(some 5), .mov (.c (.p .nilIface)), none⟩])
    (.seq (.seq (.rg [⟨(some 10), .mov (.t 1), none⟩,
      ⟨(some 11), .lenl (.t 10), none⟩,
      ⟨(some 12), .bin .gtr (.t 11) (.c (.p (.int .i64 0))), none⟩,
      ⟨(some 13), .mov (.t 12), none⟩,
      ⟨(some 14), .mov (.t 1), (some (13, true))⟩,
      ⟨(some 15), .iaddr 1 (.t 14) (.c (.p (.int .i64 0))), (some (13, true))⟩,
      ⟨(some 16), .load false 1 (.t 15), (some (13, true))⟩,
      ⟨(some 17), .bin .eql (.t 16) (.c (.p (.int .u8 192))), (some (13, true))⟩,
      ⟨(some 18), .pick (.t 13) (.t 17) (.c (.p (.bool false))), none⟩])
    (.cond (.t 18) (.seq (.rg [⟨(some 19), .mov (.t 0), none⟩,
        ⟨(some 20), .nilchk .ptr (.t 19), none⟩,
        ⟨none, .store 1 (.t 20) (.c (.p (.map none))), none⟩])
      (.seq (.rg [⟨(some 21), .mov (.t 1), none⟩,
        ⟨(some 22), .slcl 1 (.t 21) (some (.c (.p (.int .i64 1)))) none, none⟩,
        ⟨(some 4), .mov (.t 22), none⟩,
        ⟨(some 5), .mov (.c (.p .nilIface)), none⟩])
      .ret))
      .skip))
    (.seq (.rg [⟨(some 24), .mov (.t 1), none⟩,
      ⟨(some 25), .callr 47 [(.t 24)], none⟩,
      ⟨(some 23), .mov (.t 25), none⟩,
      ⟨(some 26), .ext (.t 23) 0, none⟩,
      ⟨(some 27), .ext (.t 23) 1, none⟩,
      ⟨(some 28), .ext (.t 23) 2, none⟩,
      ⟨(some 6), .mov (.t 26), none⟩,
      ⟨(some 1), .mov (.t 27), none⟩,
      ⟨(some 7), .mov (.t 28), none⟩])
    (.seq (.seq (.rg [⟨(some 29), .mov (.t 7), none⟩,
      ⟨(some 30), .eqn true .iface (.t 29), none⟩])
    (.cond (.t 30) (.seq (.rg [⟨(some 31), .mov (.t 7), none⟩,
        ⟨(some 4), .mov (.c (.p (.slice none 0 0))), none⟩,
        ⟨(some 5), .mov (.t 31), none⟩])
      .ret)
      .skip))
    (.seq (.rg [⟨(some 32), .mkmap, none⟩,
      ⟨(some 8), .mov (.t 32), none⟩])
    (.seq (.seq (.rg [⟨(some 33), .mov (.t 6), none⟩,
      ⟨(some 34), .mov (.c (.p (.int .i64 0))), none⟩])
    (.block 0 (.loop (.seq (.rg [⟨(some 35), .bin .lss (.t 34) (.t 33), none⟩])
      (.seq (.cond (.t 35) .skip
        (.exit 0))
      (.seq (.block 1 (.seq (.rg [⟨(some 9), .mov (.c (.p (.int .i64 0))), none⟩])
       (.seq (.rg [⟨(some 37), .mov (.t 1), none⟩,
         ⟨(some 38), .callr 60 [(.t 37)], none⟩,
         ⟨(some 36), .mov (.t 38), none⟩,
         ⟨(some 39), .ext (.t 36) 0, none⟩,
         ⟨(some 40), .ext (.t 36) 1, none⟩,
         ⟨(some 41), .ext (.t 36) 2, none⟩,
         ⟨(some 9), .mov (.t 39), none⟩,
         ⟨(some 1), .mov (.t 40), none⟩,
         ⟨(some 7), .mov (.t 41), none⟩])
       (.seq (.seq (.rg [⟨(some 42), .mov (.t 7), none⟩,
         ⟨(some 43), .eqn true .iface (.t 42), none⟩])
       (.cond (.t 43) (.seq (.rg [⟨(some 44), .mov (.t 7), none⟩,
           ⟨(some 4), .mov (.c (.p (.slice none 0 0))), none⟩,
           ⟨(some 5), .mov (.t 44), none⟩])
         .ret)
         .skip))
       (.rg [⟨(some 45), .mov (.t 8), none⟩,
         ⟨(some 46), .mov (.t 9), none⟩,
         ⟨(some 47), .callr 59 [(.t 45), (.t 46)], none⟩])))))
      (.rg [⟨(some 48), .bin .add (.t 34) (.c (.p (.int .i64 1))), none⟩,
        ⟨(some 34), .mov (.t 48), none⟩])))))))
    (.seq (.rg [⟨(some 49), .mov (.t 0), none⟩,
      ⟨(some 50), .mov (.t 8), none⟩,
      ⟨(some 51), .nilchk .ptr (.t 49), none⟩,
      ⟨none, .store 1 (.t 51) (.t 50), none⟩])
    (.seq (.rg [⟨(some 52), .mov (.t 1), none⟩,
      ⟨(some 4), .mov (.t 52), none⟩,
      ⟨(some 5), .mov (.c (.p .nilIface)), none⟩])
    .ret))))))))
def r36 : List DR := [.tmp 4, .tmp 5]
theorem c36_ok : Tryz.f36.body.bind (cCode Tryz.prog) = some c36 := by kernel_rfl
theorem r36_ok : cRes Tryz.prog Tryz.f36.results.toList = some r36 := by kernel_rfl

/-- (*given.example/pub-assaymark/pub/miniogo/pkg/set.IntSet).UnmarshalBinary -/
def c37 : DC :=
  (.seq (.rg [⟨(some 4), .mov (.c (.p .nilIface)), none⟩])
    (.seq (.rg [⟨(some 8), .mov (.t 0), none⟩,
      ⟨(some 9), .mov (.t 1), none⟩,
      ⟨(some 10), .callr 36 [(.t 8), (.t 9)], none⟩,
      ⟨(some 7), .mov (.t 10), none⟩,
      ⟨(some 11), .ext (.t 7) 0, none⟩,
      ⟨(some 12), .ext (.t 7) 1, none⟩,
      ⟨(some 5), .mov (.t 11), none⟩,
      ⟨(some 6), .mov (.t 12), none⟩])
    (.seq (.rg [⟨(some 13), .mov (.t 6), none⟩,
      ⟨(some 4), .mov (.t 13), none⟩])
    .ret)))
def r37 : List DR := [.tmp 4]
theorem c37_ok : Tryz.f37.body.bind (cCode Tryz.prog) = some c37 := by kernel_rfl
theorem r37_ok : cRes Tryz.prog Tryz.f37.results.toList = some r37 := by kernel_rfl

/-- (given.example/pub-assaymark/pub/miniogo/pkg/set.IntSet).ToSlice -/
def c38 : DC :=
  (.seq (.rg [⟨(some 2), .mov (.c (.p (.slice none 0 0))), none⟩])
    (.seq (.rg [⟨(some 3), .mov (.t 0), none⟩,
      ⟨(some 4), .callr 61 [(.t 3)], none⟩,
      ⟨(some 2), .mov (.t 4), none⟩])
    .ret))
def r38 : List DR := [.tmp 2]
theorem c38_ok : Tryz.f38.body.bind (cCode Tryz.prog) = some c38 := by kernel_rfl
theorem r38_ok : cRes Tryz.prog Tryz.f38.results.toList = some r38 := by kernel_rfl

/-- given.example/pub-assaymark/pub/zzmsgp.ReadArrayHeader -/
def c47 : DC :=
  (.seq (.rg [⟨(some 2), .mov (.c (.p (.int .i64 0))), none⟩,
      ⟨(some 3), .mov (.c (.p (.slice none 0 0))), none⟩,
      ⟨(some 4), .mov (.c (.p .nilIface)), none⟩])
    (.seq (.seq (.rg [⟨(some 9), .mov (.t 0), none⟩,
      ⟨(some 10), .lenl (.t 9), none⟩,
      ⟨(some 11), .bin .eql (.t 10) (.c (.p (.int .i64 0))), none⟩])
    (.cond (.t 11) (.seq (.rg [⟨(some 12), .mov (.t 0), none⟩,
        ⟨(some 13), .ifc 117 (.c (.p (.string ⟨#[116, 111, 111, 32, 102, 101, 119, 32, 98, 121, 116, 101, 115, 32, 108, 101, 102, 116, 32, 116, 111, 32, 114, 101, 97, 100, 32, 111, 98, 106, 101, 99, 116]⟩))), none⟩,
        ⟨(some 2), .mov (.c (.p (.int .i64 0))), none⟩,
        ⟨(some 3), .mov (.t 12), none⟩,
        ⟨(some 4), .mov (.t 13), none⟩])
      .ret)
      .skip))
    (.seq (.seq (.rg [⟨(some 14), .mov (.t 0), none⟩,
      ⟨(some 15), .iaddr 1 (.t 14) (.c (.p (.int .i64 0))), none⟩,
      ⟨(some 16), .load false 1 (.t 15), none⟩,
      ⟨(some 5), .mov (.t 16), none⟩])
    (.block 0 (.seq (.rg [⟨(some 18), .mov (.t 5), none⟩,
       ⟨(some 19), .bin .and (.t 18) (.c (.p (.int .u8 240))), none⟩,
       ⟨(some 20), .bin .eql (.t 19) (.c (.p (.int .u8 144))), none⟩,
       ⟨(some 17), .mov (.t 20), none⟩])
     (.cond (.t 17) (.seq (.rgd [⟨⟨(some 21), .mov (.t 5), none⟩, 0, [0]⟩,
         ⟨⟨(some 22), .bin .and (.t 21) (.c (.p (.int .u8 15))), none⟩, 0, [0]⟩,
         ⟨⟨(some 23), .cint .i64 (.t 22), none⟩, 0, [0]⟩,
         ⟨⟨(some 24), .mov (.t 0), none⟩, 0, []⟩,
         ⟨⟨(some 25), .slcl 1 (.t 24) (some (.c (.p (.int .i64 1)))) none, none⟩, 0, [0]⟩,
         ⟨⟨(some 2), .mov (.t 23), none⟩, 0, [0]⟩,
         ⟨⟨(some 3), .mov (.t 25), none⟩, 0, []⟩,
         ⟨⟨(some 4), .mov (.c (.p .nilIface)), none⟩, 0, []⟩])
       .ret)
       (.seq (.rg [⟨(some 27), .mov (.t 5), none⟩,
         ⟨(some 28), .bin .eql (.t 27) (.c (.p (.int .u8 220))), none⟩,
         ⟨(some 29), .mov (.t 28), none⟩,
         ⟨(some 30), .mov (.t 5), (some (29, false))⟩,
         ⟨(some 31), .bin .eql (.t 30) (.c (.p (.int .u8 221))), (some (29, false))⟩,
         ⟨(some 32), .pick (.t 29) (.c (.p (.bool true))) (.t 31), none⟩,
         ⟨(some 26), .mov (.t 32), none⟩])
       (.cond (.t 26) (.seq (.rg [⟨(some 34), .mov (.t 0), none⟩,
           ⟨(some 35), .mov (.t 5), none⟩,
           ⟨(some 36), .bin .sub (.t 35) (.c (.p (.int .u8 220))), none⟩,
           ⟨(some 37), .cint .i64 (.t 36), none⟩,
           ⟨(some 38), .bin .mul (.t 37) (.c (.p (.int .i64 2))), none⟩,
           ⟨(some 39), .bin .add (.t 38) (.c (.p (.int .i64 2))), none⟩,
           ⟨(some 40), .callr 68 [(.t 34), (.t 39)], none⟩,
           ⟨(some 33), .mov (.t 40), none⟩,
           ⟨(some 41), .ext (.t 33) 0, none⟩,
           ⟨(some 42), .ext (.t 33) 1, none⟩,
           ⟨(some 43), .ext (.t 33) 2, none⟩,
           ⟨(some 6), .mov (.t 41), none⟩,
           ⟨(some 7), .mov (.t 42), none⟩,
           ⟨(some 8), .mov (.t 43), none⟩])
         (.seq (.rg [⟨(some 44), .mov (.t 6), none⟩,
           ⟨(some 45), .cint .i64 (.t 44), none⟩,
           ⟨(some 46), .mov (.t 7), none⟩,
           ⟨(some 47), .mov (.t 8), none⟩,
           ⟨(some 2), .mov (.t 45), none⟩,
           ⟨(some 3), .mov (.t 46), none⟩,
           ⟨(some 4), .mov (.t 47), none⟩])
         .ret))
         .skip))))))
    (.seq (.rg [⟨(some 48), .mov (.t 0), none⟩,
      ⟨(some 49), .ifc 117 (.c (.p (.string ⟨#[117, 110, 114, 101, 99, 111, 103, 110, 105, 122, 101, 100, 32, 116, 121, 112, 101, 32, 112, 114, 101, 102, 105, 120]⟩))), none⟩,
      ⟨(some 2), .mov (.c (.p (.int .i64 0))), none⟩,
      ⟨(some 3), .mov (.t 48), none⟩,
      ⟨(some 4), .mov (.t 49), none⟩])
    .ret))))
def r47 : List DR := [.tmp 2, .tmp 3, .tmp 4]
theorem c47_ok : Tryz.f47.body.bind (cCode Tryz.prog) = some c47 := by kernel_rfl
theorem r47_ok : cRes Tryz.prog Tryz.f47.results.toList = some r47 := by kernel_rfl

/-- given.example/pub-assaymark/spec.packBig -/
def c50 : DC :=
  (.seq (.rg [⟨(some 4), .mov (.c (.p (.string ⟨#[]⟩))), none⟩])
    (.seq (.rg [⟨(some 7), .mov (.t 1), none⟩,
      ⟨(some 8), .mks false 1 1 (.p (.int .u8 0)) (.t 7) (.t 7), none⟩,
      ⟨(some 5), .mov (.t 8), none⟩])
    (.seq (.seq (.rg [⟨(some 9), .mov (.t 5), none⟩,
      ⟨(some 10), .lenl (.t 9), none⟩,
      ⟨(some 11), .mov (.c (.p (.int .i64 0))), none⟩])
    (.block 0 (.loop (.seq (.rg [⟨(some 12), .bin .lss (.t 11) (.t 10), none⟩])
      (.seq (.cond (.t 12) .skip
        (.exit 0))
      (.seq (.block 1 (.seq (.rg [⟨(some 13), .mov (.t 11), none⟩,
         ⟨(some 6), .mov (.t 13), none⟩])
       (.rg [⟨(some 14), .mov (.t 5), none⟩,
         ⟨(some 15), .mov (.t 6), none⟩,
         ⟨(some 16), .mov (.t 0), none⟩,
         ⟨(some 17), .mov (.t 1), none⟩,
         ⟨(some 18), .bin .sub (.t 17) (.c (.p (.int .i64 1))), none⟩,
         ⟨(some 19), .mov (.t 6), none⟩,
         ⟨(some 20), .bin .sub (.t 18) (.t 19), none⟩,
         ⟨(some 21), .bin .mul (.c (.p (.int .i64 8))) (.t 20), none⟩,
         ⟨(some 22), .bin .shr (.t 16) (.t 21), none⟩,
         ⟨(some 23), .cint .u8 (.t 22), none⟩,
         ⟨(some 24), .iaddr 1 (.t 14) (.t 15), none⟩,
         ⟨none, .store 1 (.t 24) (.t 23), none⟩])))
      (.rg [⟨(some 25), .bin .add (.t 11) (.c (.p (.int .i64 1))), none⟩,
        ⟨(some 11), .mov (.t 25), none⟩])))))))
    (.seq (.rg [⟨(some 26), .mov (.t 5), none⟩,
      ⟨(some 27), .b2s (.t 26), none⟩,
      ⟨(some 4), .mov (.t 27), none⟩])
    .ret))))
def r50 : List DR := [.tmp 4]
theorem c50_ok : Tryz.f50.body.bind (cCode Tryz.prog) = some c50 := by kernel_rfl
theorem r50_ok : cRes Tryz.prog Tryz.f50.results.toList = some r50 := by kernel_rfl

/-- given.example/pub-assaymark/pub/miniogo/pkg/set.Create[int] -/
def c51 : DC :=
  (.seq (.rg [⟨(some 2), .mov (.c (.p (.map none))), none⟩])
    (.seq (.rg [⟨(some 6), .mov (.t 0), none⟩,
      ⟨(some 7), .lenl (.t 6), none⟩,
      ⟨(some 8), .mkmapr (.t 7), none⟩,
      ⟨(some 3), .mov (.t 8), none⟩])
    (.seq (.seq (.rg [⟨(some 9), .mov (.t 0), none⟩,
      ⟨(some 10), .lenl (.t 9), none⟩,
      ⟨(some 11), .mov (.c (.p (.int .i64 0))), none⟩])
    (.block 0 (.loop (.seq (.rg [⟨(some 12), .bin .lss (.t 11) (.t 10), none⟩])
      (.seq (.cond (.t 12) .skip
        (.exit 0))
      (.seq (.block 1 (.seq (.rg [⟨(some 13), .iaddr 1 (.t 9) (.t 11), none⟩,
         ⟨(some 14), .load false 1 (.t 13), none⟩,
         ⟨(some 5), .mov (.t 14), none⟩])
       (.rg [⟨(some 15), .mov (.t 3), none⟩,
         ⟨(some 16), .mov (.t 5), none⟩,
         ⟨(some 17), .callr 70 [(.t 15), (.t 16)], none⟩])))
      (.rg [⟨(some 18), .bin .add (.t 11) (.c (.p (.int .i64 1))), none⟩,
        ⟨(some 11), .mov (.t 18), none⟩])))))))
    (.seq (.rg [⟨(some 19), .mov (.t 3), none⟩,
      ⟨(some 2), .mov (.t 19), none⟩])
    .ret))))
def r51 : List DR := [.tmp 2]
theorem c51_ok : Tryz.f51.body.bind (cCode Tryz.prog) = some c51 := by kernel_rfl
theorem r51_ok : cRes Tryz.prog Tryz.f51.results.toList = some r51 := by kernel_rfl

/-- given.example/pub-assaymark/pub/zzjson.Marshal -/
def c52 : DC :=
  (.seq (.rg [⟨(some 2), .mov (.c (.p (.slice none 0 0))), none⟩,
      ⟨(some 3), .mov (.c (.p .nilIface)), none⟩])
    (.seq (.rg [⟨(some 5), .bld [.p (.bool false), .p (.slice none 0 0), .p (.bool false)] [], none⟩,
      ⟨(some 6), .box (.t 5), none⟩,
      ⟨(some 4), .mov (.t 6), none⟩])
    (.seq (.rg [⟨(some 7), .mov (.t 0), none⟩,
      ⟨(some 8), .mov (.t 4), none⟩,
      ⟨(some 9), .inv true "ZzPut" (.t 7) [(.t 8)], none⟩])
    (.seq (.seq (.rg [⟨(some 10), .mov (.t 4), none⟩,
      ⟨(some 11), .nilchk .ptr (.t 10), none⟩,
      ⟨(some 12), .faddr false 0 1 (.t 11), none⟩,
      ⟨(some 13), .load false 1 (.t 12), none⟩])
    (.cond (.t 13) (.seq (.rg [⟨(some 14), .ifc 117 (.c (.p (.string ⟨#[118, 97, 108, 117, 101, 32, 116, 104, 97, 116, 32, 99, 97, 110, 39, 116, 32, 98, 101, 32, 112, 117, 116]⟩))), none⟩,
        ⟨(some 2), .mov (.c (.p (.slice none 0 0))), none⟩,
        ⟨(some 3), .mov (.t 14), none⟩])
      .ret)
      .skip))
    (.seq (.rg [⟨(some 15), .mov (.t 4), none⟩,
      ⟨(some 16), .nilchk .ptr (.t 15), none⟩,
      ⟨(some 17), .faddr false 1 1 (.t 16), none⟩,
      ⟨(some 18), .load false 1 (.t 17), none⟩,
      ⟨(some 2), .mov (.t 18), none⟩,
      ⟨(some 3), .mov (.c (.p .nilIface)), none⟩])
    .ret)))))
def r52 : List DR := [.tmp 2, .tmp 3]
theorem c52_ok : Tryz.f52.body.bind (cCode Tryz.prog) = some c52 := by kernel_rfl
theorem r52_ok : cRes Tryz.prog Tryz.f52.results.toList = some r52 := by kernel_rfl

/-- given.example/pub-assaymark/pub/zzmsgp.AppendArrayHeader -/
def c54 : DC :=
  (.seq (.rg [⟨(some 4), .mov (.c (.p (.slice none 0 0))), none⟩])
    (.seq (.block 0 (.seq (.rg [⟨(some 6), .mov (.t 1), none⟩,
       ⟨(some 7), .bin .lss (.t 6) (.c (.p (.int .i64 16))), none⟩,
       ⟨(some 5), .mov (.t 7), none⟩])
     (.cond (.t 5) (.seq (.rg [⟨(some 8), .mov (.t 0), none⟩,
         ⟨(some 9), .mov (.t 1), none⟩,
         ⟨(some 10), .cint .u8 (.t 9), none⟩,
         ⟨(some 11), .bin .or (.c (.p (.int .u8 144))) (.t 10), none⟩,
         ⟨(some 12), .lit 1 [(.t 11)], none⟩,
         ⟨(some 13), .app 1 1 (.t 8) (.t 12), none⟩,
         ⟨(some 4), .mov (.t 13), none⟩])
       .ret)
       (.seq (.rg [⟨(some 15), .mov (.t 1), none⟩,
         ⟨(some 16), .bin .lss (.t 15) (.c (.p (.int .i64 65536))), none⟩,
         ⟨(some 14), .mov (.t 16), none⟩])
       (.cond (.t 14) (.seq (.rg [⟨(some 17), .mov (.t 0), none⟩,
           ⟨(some 18), .lit 1 [(.c (.p (.int .u8 220)))], none⟩,
           ⟨(some 19), .app 1 1 (.t 17) (.t 18), none⟩,
           ⟨(some 20), .mov (.t 1), none⟩,
           ⟨(some 21), .cint .u64 (.t 20), none⟩,
           ⟨(some 22), .callr 71 [(.t 19), (.t 21), (.c (.p (.int .i64 2)))], none⟩,
           ⟨(some 4), .mov (.t 22), none⟩])
         .ret)
         .skip)))))
    (.seq (.rg [⟨(some 23), .mov (.t 0), none⟩,
      ⟨(some 24), .lit 1 [(.c (.p (.int .u8 221)))], none⟩,
      ⟨(some 25), .app 1 1 (.t 23) (.t 24), none⟩,
      ⟨(some 26), .mov (.t 1), none⟩,
      ⟨(some 27), .cint .u64 (.t 26), none⟩,
      ⟨(some 28), .callr 71 [(.t 25), (.t 27), (.c (.p (.int .i64 4)))], none⟩,
      ⟨(some 4), .mov (.t 28), none⟩])
    .ret)))
def r54 : List DR := [.tmp 4]
theorem c54_ok : Tryz.f54.body.bind (cCode Tryz.prog) = some c54 := by kernel_rfl
theorem r54_ok : cRes Tryz.prog Tryz.f54.results.toList = some r54 := by kernel_rfl

/-- given.example/pub-assaymark/pub/zzmsgp.AppendInt -/
def c55 : DC :=
  (.seq (.rg [⟨(some 4), .mov (.c (.p (.slice none 0 0))), none⟩])
    (.seq (.block 0 (.seq (.rg [⟨(some 6), .mov (.t 1), none⟩,
       ⟨(some 7), .bin .geq (.t 6) (.c (.p (.int .i64 (-32)))), none⟩,
       ⟨(some 8), .mov (.t 7), none⟩,
       ⟨(some 9), .mov (.t 1), (some (8, true))⟩,
       ⟨(some 10), .bin .lss (.t 9) (.c (.p (.int .i64 128))), (some (8, true))⟩,
       ⟨(some 11), .pick (.t 8) (.t 10) (.c (.p (.bool false))), none⟩,
       ⟨(some 5), .mov (.t 11), none⟩])
     (.cond (.t 5) (.seq (.rg [⟨(some 12), .mov (.t 0), none⟩,
         ⟨(some 13), .mov (.t 1), none⟩,
         ⟨(some 14), .cint .u8 (.t 13), none⟩,
         ⟨(some 15), .lit 1 [(.t 14)], none⟩,
         ⟨(some 16), .app 1 1 (.t 12) (.t 15), none⟩,
         ⟨(some 4), .mov (.t 16), none⟩])
       .ret)
       (.seq (.rg [⟨(some 18), .mov (.t 1), none⟩,
         ⟨(some 19), .bin .geq (.t 18) (.c (.p (.int .i64 (-128)))), none⟩,
         ⟨(some 20), .mov (.t 19), none⟩,
         ⟨(some 21), .mov (.t 1), (some (20, true))⟩,
         ⟨(some 22), .bin .lss (.t 21) (.c (.p (.int .i64 128))), (some (20, true))⟩,
         ⟨(some 23), .pick (.t 20) (.t 22) (.c (.p (.bool false))), none⟩,
         ⟨(some 17), .mov (.t 23), none⟩])
       (.cond (.t 17) (.seq (.rg [⟨(some 24), .mov (.t 0), none⟩,
           ⟨(some 25), .mov (.t 1), none⟩,
           ⟨(some 26), .cint .u8 (.t 25), none⟩,
           ⟨(some 27), .lit 1 [(.c (.p (.int .u8 208))), (.t 26)], none⟩,
           ⟨(some 28), .app 1 1 (.t 24) (.t 27), none⟩,
           ⟨(some 4), .mov (.t 28), none⟩])
         .ret)
         (.seq (.rg [⟨(some 30), .mov (.t 1), none⟩,
           ⟨(some 31), .bin .geq (.t 30) (.c (.p (.int .i64 (-32768)))), none⟩,
           ⟨(some 32), .mov (.t 31), none⟩,
           ⟨(some 33), .mov (.t 1), (some (32, true))⟩,
           ⟨(some 34), .bin .lss (.t 33) (.c (.p (.int .i64 32768))), (some (32, true))⟩,
           ⟨(some 35), .pick (.t 32) (.t 34) (.c (.p (.bool false))), none⟩,
           ⟨(some 29), .mov (.t 35), none⟩])
         (.cond (.t 29) (.seq (.rg [⟨(some 36), .mov (.t 0), none⟩,
             ⟨(some 37), .lit 1 [(.c (.p (.int .u8 209)))], none⟩,
             ⟨(some 38), .app 1 1 (.t 36) (.t 37), none⟩,
             ⟨(some 39), .mov (.t 1), none⟩,
             ⟨(some 40), .cint .u64 (.t 39), none⟩,
             ⟨(some 41), .callr 71 [(.t 38), (.t 40), (.c (.p (.int .i64 2)))], none⟩,
             ⟨(some 4), .mov (.t 41), none⟩])
           .ret)
           (.seq (.rg [⟨(some 43), .mov (.t 1), none⟩,
             ⟨(some 44), .bin .geq (.t 43) (.c (.p (.int .i64 (-2147483648)))), none⟩,
             ⟨(some 45), .mov (.t 44), none⟩,
             ⟨(some 46), .mov (.t 1), (some (45, true))⟩,
             ⟨(some 47), .bin .lss (.t 46) (.c (.p (.int .i64 2147483648))), (some (45, true))⟩,
             ⟨(some 48), .pick (.t 45) (.t 47) (.c (.p (.bool false))), none⟩,
             ⟨(some 42), .mov (.t 48), none⟩])
           (.cond (.t 42) (.seq (.rg [⟨(some 49), .mov (.t 0), none⟩,
               ⟨(some 50), .lit 1 [(.c (.p (.int .u8 210)))], none⟩,
               ⟨(some 51), .app 1 1 (.t 49) (.t 50), none⟩,
               ⟨(some 52), .mov (.t 1), none⟩,
               ⟨(some 53), .cint .u64 (.t 52), none⟩,
               ⟨(some 54), .callr 71 [(.t 51), (.t 53), (.c (.p (.int .i64 4)))], none⟩,
               ⟨(some 4), .mov (.t 54), none⟩])
             .ret)
             .skip)))))))))
    (.seq (.rg [⟨(some 55), .mov (.t 0), none⟩,
      ⟨(some 56), .lit 1 [(.c (.p (.int .u8 211)))], none⟩,
      ⟨(some 57), .app 1 1 (.t 55) (.t 56), none⟩,
      ⟨(some 58), .mov (.t 1), none⟩,
      ⟨(some 59), .cint .u64 (.t 58), none⟩,
      ⟨(some 60), .callr 71 [(.t 57), (.t 59), (.c (.p (.int .i64 8)))], none⟩,
      ⟨(some 4), .mov (.t 60), none⟩])
    .ret)))
def r55 : List DR := [.tmp 4]
theorem c55_ok : Tryz.f55.body.bind (cCode Tryz.prog) = some c55 := by kernel_rfl
theorem r55_ok : cRes Tryz.prog Tryz.f55.results.toList = some r55 := by kernel_rfl

/-- (*given.example/pub-assaymark/spec.packReader).byte -/
def c57 : DC :=
  (.seq (.rg [⟨(some 2), .mov (.c (.p (.int .u8 0))), none⟩])
    (.seq (.seq (.rg [⟨(some 4), .mov (.t 0), none⟩,
      ⟨(some 5), .callr 64 [(.t 4), (.c (.p (.int .i64 1)))], none⟩,
      ⟨(some 3), .mov (.t 5), none⟩])
    (.seq (.rg [⟨(some 6), .mov (.t 3), none⟩,
      ⟨(some 7), .bin .neq (.t 6) (.c (.p (.string ⟨#[]⟩))), none⟩])
    (.cond (.t 7) (.seq (.rg [⟨(some 8), .mov (.t 3), none⟩,
        ⟨(some 9), .idxs (.t 8) (.c (.p (.int .i64 0))), none⟩,
        ⟨(some 2), .mov (.t 9), none⟩])
      .ret)
      .skip)))
    (.seq (.rg [⟨(some 2), .mov (.c (.p (.int .u8 193))), none⟩])
    .ret)))
def r57 : List DR := [.tmp 2]
theorem c57_ok : Tryz.f57.body.bind (cCode Tryz.prog) = some c57 := by kernel_rfl
theorem r57_ok : cRes Tryz.prog Tryz.f57.results.toList = some r57 := by kernel_rfl

/-- (*given.example/pub-assaymark/spec.packReader).big -/
def c58 : DC :=
  (.seq (.rg [⟨(some 4), .mov (.c (.p (.int .u64 0))), none⟩])
    (.seq (.rg [⟨(some 5), .mov (.c (.p (.int .u64 0))), none⟩])
    (.seq (.seq (.rg [⟨(some 8), .mov (.t 0), none⟩,
      ⟨(some 9), .mov (.t 1), none⟩,
      ⟨(some 10), .callr 64 [(.t 8), (.t 9)], none⟩,
      ⟨(some 11), .s2b (.t 10), none⟩,
      ⟨(some 12), .lenl (.t 11), none⟩,
      ⟨(some 13), .mov (.c (.p (.int .i64 0))), none⟩])
    (.block 0 (.loop (.seq (.rg [⟨(some 14), .bin .lss (.t 13) (.t 12), none⟩])
      (.seq (.cond (.t 14) .skip
        (.exit 0))
      (.seq (.block 1 (.seq (.rg [⟨(some 15), .iaddr 1 (.t 11) (.t 13), none⟩,
         ⟨(some 16), .load false 1 (.t 15), none⟩,
         ⟨(some 7), .mov (.t 16), none⟩])
       (.rg [⟨(some 17), .mov (.t 5), none⟩,
         ⟨(some 18), .bin .shl (.t 17) (.c (.p (.int .u64 8))), none⟩,
         ⟨(some 19), .mov (.t 7), none⟩,
         ⟨(some 20), .cint .u64 (.t 19), none⟩,
         ⟨(some 21), .bin .or (.t 18) (.t 20), none⟩,
         ⟨(some 5), .mov (.t 21), none⟩])))
      (.rg [⟨(some 22), .bin .add (.t 13) (.c (.p (.int .i64 1))), none⟩,
        ⟨(some 13), .mov (.t 22), none⟩])))))))
    (.seq (.rg [⟨(some 23), .mov (.t 5), none⟩,
      ⟨(some 4), .mov (.t 23), none⟩])
    .ret))))
def r58 : List DR := [.tmp 4]
theorem c58_ok : Tryz.f58.body.bind (cCode Tryz.prog) = some c58 := by kernel_rfl
theorem r58_ok : cRes Tryz.prog Tryz.f58.results.toList = some r58 := by kernel_rfl

/-- (given.example/pub-assaymark/pub/miniogo/pkg/set.IntSet).Add -/
def c59 : DC :=
  (.rg [⟨(some 4), .mov (.t 0), none⟩,
      ⟨(some 5), .mov (.t 1), none⟩,
      ⟨(some 6), .callr 70 [(.t 4), (.t 5)], none⟩])
def r59 : List DR := []
theorem c59_ok : Tryz.f59.body.bind (cCode Tryz.prog) = some c59 := by kernel_rfl
theorem r59_ok : cRes Tryz.prog Tryz.f59.results.toList = some r59 := by kernel_rfl

/-- given.example/pub-assaymark/pub/zzmsgp.ReadInt -/
def c60 : DC :=
  (.seq (.rg [⟨(some 2), .mov (.c (.p (.int .i64 0))), none⟩,
      ⟨(some 3), .mov (.c (.p (.slice none 0 0))), none⟩,
      ⟨(some 4), .mov (.c (.p .nilIface)), none⟩])
    (.seq (.seq (.rg [⟨(some 13), .mov (.t 0), none⟩,
      ⟨(some 14), .lenl (.t 13), none⟩,
      ⟨(some 15), .bin .eql (.t 14) (.c (.p (.int .i64 0))), none⟩])
    (.cond (.t 15) (.seq (.rg [⟨(some 16), .mov (.t 0), none⟩,
        ⟨(some 17), .ifc 117 (.c (.p (.string ⟨#[116, 111, 111, 32, 102, 101, 119, 32, 98, 121, 116, 101, 115, 32, 108, 101, 102, 116, 32, 116, 111, 32, 114, 101, 97, 100, 32, 111, 98, 106, 101, 99, 116]⟩))), none⟩,
        ⟨(some 2), .mov (.c (.p (.int .i64 0))), none⟩,
        ⟨(some 3), .mov (.t 16), none⟩,
        ⟨(some 4), .mov (.t 17), none⟩])
      .ret)
      .skip))
    (.seq (.rg [⟨(some 18), .mov (.t 0), none⟩,
      ⟨(some 19), .iaddr 1 (.t 18) (.c (.p (.int .i64 0))), none⟩,
      ⟨(some 20), .load false 1 (.t 19), none⟩,
      ⟨(some 5), .mov (.t 20), none⟩])
    (.seq (.block 0 (.seq (.rg [⟨(some 22), .mov (.t 5), none⟩,
       ⟨(some 23), .bin .lss (.t 22) (.c (.p (.int .u8 128))), none⟩,
       ⟨(some 24), .mov (.t 23), none⟩,
       ⟨(some 25), .mov (.t 5), (some (24, false))⟩,
       ⟨(some 26), .bin .geq (.t 25) (.c (.p (.int .u8 224))), (some (24, false))⟩,
       ⟨(some 27), .pick (.t 24) (.c (.p (.bool true))) (.t 26), none⟩,
       ⟨(some 21), .mov (.t 27), none⟩])
     (.cond (.t 21) (.seq (.rgd [⟨⟨(some 28), .mov (.t 5), none⟩, 0, [0]⟩,
         ⟨⟨(some 29), .cint .i8 (.t 28), none⟩, 0, [0]⟩,
         ⟨⟨(some 30), .cint .i64 (.t 29), none⟩, 0, [0]⟩,
         ⟨⟨(some 31), .mov (.t 0), none⟩, 0, []⟩,
         ⟨⟨(some 32), .slcl 1 (.t 31) (some (.c (.p (.int .i64 1)))) none, none⟩, 0, [0]⟩,
         ⟨⟨(some 2), .mov (.t 30), none⟩, 0, [0]⟩,
         ⟨⟨(some 3), .mov (.t 32), none⟩, 0, []⟩,
         ⟨⟨(some 4), .mov (.c (.p .nilIface)), none⟩, 0, []⟩])
       .ret)
       (.seq (.rg [⟨(some 34), .mov (.t 5), none⟩,
         ⟨(some 35), .bin .geq (.t 34) (.c (.p (.int .u8 204))), none⟩,
         ⟨(some 36), .mov (.t 35), none⟩,
         ⟨(some 37), .mov (.t 5), (some (36, true))⟩,
         ⟨(some 38), .bin .leq (.t 37) (.c (.p (.int .u8 207))), (some (36, true))⟩,
         ⟨(some 39), .pick (.t 36) (.t 38) (.c (.p (.bool false))), none⟩,
         ⟨(some 33), .mov (.t 39), none⟩])
       (.cond (.t 33) (.seq (.rg [⟨(some 41), .mov (.t 0), none⟩,
           ⟨(some 42), .mov (.t 5), none⟩,
           ⟨(some 43), .bin .sub (.t 42) (.c (.p (.int .u8 204))), none⟩,
           ⟨(some 44), .bin .shl (.c (.p (.int .i64 1))) (.t 43), none⟩,
           ⟨(some 45), .callr 68 [(.t 41), (.t 44)], none⟩,
           ⟨(some 40), .mov (.t 45), none⟩,
           ⟨(some 46), .ext (.t 40) 0, none⟩,
           ⟨(some 47), .ext (.t 40) 1, none⟩,
           ⟨(some 48), .ext (.t 40) 2, none⟩,
           ⟨(some 6), .mov (.t 46), none⟩,
           ⟨(some 7), .mov (.t 47), none⟩,
           ⟨(some 8), .mov (.t 48), none⟩])
         (.seq (.seq (.rg [⟨(some 49), .mov (.t 8), none⟩,
           ⟨(some 50), .eqn false .iface (.t 49), none⟩,
           ⟨(some 51), .mov (.t 50), none⟩,
           ⟨(some 52), .mov (.t 6), (some (51, true))⟩,
           ⟨(some 53), .bin .gtr (.t 52) (.c (.p (.int .u64 9223372036854775807))), (some (51, true))⟩,
           ⟨(some 54), .pick (.t 51) (.t 53) (.c (.p (.bool false))), none⟩])
         (.cond (.t 54) (.seq (.rg [⟨(some 55), .mov (.t 0), none⟩,
             ⟨(some 56), .ifc 117 (.c (.p (.string ⟨#[110, 117, 109, 98, 101, 114, 32, 111, 118, 101, 114, 102, 108, 111, 119, 115, 32, 105, 110, 116, 54, 52]⟩))), none⟩,
             ⟨(some 2), .mov (.c (.p (.int .i64 0))), none⟩,
             ⟨(some 3), .mov (.t 55), none⟩,
             ⟨(some 4), .mov (.t 56), none⟩])
           .ret)
           .skip))
         (.seq (.rg [⟨(some 57), .mov (.t 6), none⟩,
           ⟨(some 58), .cint .i64 (.t 57), none⟩,
           ⟨(some 59), .mov (.t 7), none⟩,
           ⟨(some 60), .mov (.t 8), none⟩,
           ⟨(some 2), .mov (.t 58), none⟩,
           ⟨(some 3), .mov (.t 59), none⟩,
           ⟨(some 4), .mov (.t 60), none⟩])
         .ret)))
         (.seq (.rg [⟨(some 62), .mov (.t 5), none⟩,
           ⟨(some 63), .bin .geq (.t 62) (.c (.p (.int .u8 208))), none⟩,
           ⟨(some 64), .mov (.t 63), none⟩,
           ⟨(some 65), .mov (.t 5), (some (64, true))⟩,
           ⟨(some 66), .bin .leq (.t 65) (.c (.p (.int .u8 211))), (some (64, true))⟩,
           ⟨(some 67), .pick (.t 64) (.t 66) (.c (.p (.bool false))), none⟩,
           ⟨(some 61), .mov (.t 67), none⟩])
         (.cond (.t 61) (.seq (.rg [⟨(some 68), .mov (.t 5), none⟩,
             ⟨(some 69), .bin .sub (.t 68) (.c (.p (.int .u8 208))), none⟩,
             ⟨(some 70), .bin .shl (.c (.p (.int .i64 1))) (.t 69), none⟩,
             ⟨(some 9), .mov (.t 70), none⟩])
           (.seq (.rg [⟨(some 72), .mov (.t 0), none⟩,
             ⟨(some 73), .mov (.t 9), none⟩,
             ⟨(some 74), .callr 68 [(.t 72), (.t 73)], none⟩,
             ⟨(some 71), .mov (.t 74), none⟩,
             ⟨(some 75), .ext (.t 71) 0, none⟩,
             ⟨(some 76), .ext (.t 71) 1, none⟩,
             ⟨(some 77), .ext (.t 71) 2, none⟩,
             ⟨(some 10), .mov (.t 75), none⟩,
             ⟨(some 11), .mov (.t 76), none⟩,
             ⟨(some 12), .mov (.t 77), none⟩])
           (.seq (.rg [⟨(some 78), .mov (.t 10), none⟩,
             ⟨(some 79), .mov (.t 9), none⟩,
             ⟨(some 80), .bin .mul (.c (.p (.int .i64 8))) (.t 79), none⟩,
             ⟨(some 81), .bin .sub (.c (.p (.int .i64 64))) (.t 80), none⟩,
             ⟨(some 82), .bin .shl (.t 78) (.t 81), none⟩,
             ⟨(some 83), .cint .i64 (.t 82), none⟩,
             ⟨(some 84), .mov (.t 9), none⟩,
             ⟨(some 85), .bin .mul (.c (.p (.int .i64 8))) (.t 84), none⟩,
             ⟨(some 86), .bin .sub (.c (.p (.int .i64 64))) (.t 85), none⟩,
             ⟨(some 87), .bin .shr (.t 83) (.t 86), none⟩,
             ⟨(some 88), .mov (.t 11), none⟩,
             ⟨(some 89), .mov (.t 12), none⟩,
             ⟨(some 2), .mov (.t 87), none⟩,
             ⟨(some 3), .mov (.t 88), none⟩,
             ⟨(some 4), .mov (.t 89), none⟩])
           .ret)))
           .skip)))))))
    (.seq (.rg [⟨(some 90), .mov (.t 0), none⟩,
      ⟨(some 91), .ifc 117 (.c (.p (.string ⟨#[117, 110, 114, 101, 99, 111, 103, 110, 105, 122, 101, 100, 32, 116, 121, 112, 101, 32, 112, 114, 101, 102, 105, 120]⟩))), none⟩,
      ⟨(some 2), .mov (.c (.p (.int .i64 0))), none⟩,
      ⟨(some 3), .mov (.t 90), none⟩,
      ⟨(some 4), .mov (.t 91), none⟩])
    .ret)))))
def r60 : List DR := [.tmp 2, .tmp 3, .tmp 4]
theorem c60_ok : Tryz.f60.body.bind (cCode Tryz.prog) = some c60 := by kernel_rfl
theorem r60_ok : cRes Tryz.prog Tryz.f60.results.toList = some r60 := by kernel_rfl

/-- given.example/pub-assaymark/pub/miniogo/pkg/set.ToSliceOrdered[int] -/
def c61 : DC :=
  (.seq (.rg [⟨(some 2), .mov (.c (.p (.slice none 0 0))), none⟩])
    (.seq (.rg [⟨(some 5), .mov (.t 0), none⟩,
      ⟨(some 6), .lenm (.t 5), none⟩,
      ⟨(some 7), .mks false 1 8 (.p (.int .i64 0)) (.c (.p (.int .i64 0))) (.t 6), none⟩,
      ⟨(some 3), .mov (.t 7), none⟩])
    (.seq (.seq (.rg [⟨(some 8), .mov (.t 0), none⟩,
      ⟨(some 9), .rngm (.t 8), none⟩])
    (.block 0 (.loop (.seq (.rg [⟨(some 10), .nxtm (.t 9), none⟩,
        ⟨(some 11), .ext (.t 10) 0, none⟩])
      (.seq (.cond (.t 11) .skip
        (.exit 0))
      (.block 1 (.seq (.rg [⟨(some 12), .ent (.t 9), none⟩,
         ⟨(some 13), .ext (.t 12) 0, none⟩,
         ⟨(some 4), .mov (.t 13), none⟩])
       (.rg [⟨(some 14), .mov (.t 3), none⟩,
         ⟨(some 15), .mov (.t 4), none⟩,
         ⟨(some 16), .lit 1 [(.t 15)], none⟩,
         ⟨(some 17), .app 1 8 (.t 14) (.t 16), none⟩,
         ⟨(some 3), .mov (.t 17), none⟩]))))))))
    (.seq (.rg [⟨(some 18), .mov (.t 3), none⟩,
      ⟨(some 19), .callr 76 [(.t 18)], none⟩])
    (.seq (.rg [⟨(some 20), .mov (.t 3), none⟩,
      ⟨(some 2), .mov (.t 20), none⟩])
    .ret)))))
def r61 : List DR := [.tmp 2]
theorem c61_ok : Tryz.f61.body.bind (cCode Tryz.prog) = some c61 := by kernel_rfl
theorem r61_ok : cRes Tryz.prog Tryz.f61.results.toList = some r61 := by kernel_rfl

/-- (*given.example/pub-assaymark/spec.packReader).take -/
def c64 : DC :=
  (.seq (.rg [⟨(some 4), .mov (.c (.p (.string ⟨#[]⟩))), none⟩])
    (.seq (.seq (.rg [⟨(some 6), .mov (.t 0), none⟩,
      ⟨(some 7), .nilchk .ptr (.t 6), none⟩,
      ⟨(some 8), .faddr false 1 1 (.t 7), none⟩,
      ⟨(some 9), .load false 1 (.t 8), none⟩,
      ⟨(some 10), .mov (.t 9), none⟩,
      ⟨(some 11), .mov (.t 1), (some (10, false))⟩,
      ⟨(some 12), .mov (.t 0), (some (10, false))⟩,
      ⟨(some 13), .nilchk .ptr (.t 12), (some (10, false))⟩,
      ⟨(some 14), .faddr false 0 1 (.t 13), (some (10, false))⟩,
      ⟨(some 15), .load false 1 (.t 14), (some (10, false))⟩,
      ⟨(some 16), .lens (.t 15), (some (10, false))⟩,
      ⟨(some 17), .bin .gtr (.t 11) (.t 16), (some (10, false))⟩,
      ⟨(some 18), .pick (.t 10) (.c (.p (.bool true))) (.t 17), none⟩])
    (.cond (.t 18) (.seq (.rg [⟨(some 19), .mov (.t 0), none⟩,
        ⟨(some 20), .nilchk .ptr (.t 19), none⟩,
        ⟨(some 21), .faddr false 1 1 (.t 20), none⟩,
        ⟨none, .store 1 (.t 21) (.c (.p (.bool true))), none⟩])
      (.seq (.rg [⟨(some 4), .mov (.c (.p (.string ⟨#[]⟩))), none⟩])
      .ret))
      .skip))
    (.seq (.rg [⟨(some 22), .mov (.t 0), none⟩,
      ⟨(some 23), .nilchk .ptr (.t 22), none⟩,
      ⟨(some 24), .faddr false 0 1 (.t 23), none⟩,
      ⟨(some 25), .load false 1 (.t 24), none⟩,
      ⟨(some 26), .mov (.t 1), none⟩,
      ⟨(some 27), .slcs (.t 25) none (some (.t 26)), none⟩,
      ⟨(some 5), .mov (.t 27), none⟩])
    (.seq (.rg [⟨(some 28), .mov (.t 0), none⟩,
      ⟨(some 29), .mov (.t 0), none⟩,
      ⟨(some 30), .nilchk .ptr (.t 29), none⟩,
      ⟨(some 31), .faddr false 0 1 (.t 30), none⟩,
      ⟨(some 32), .load false 1 (.t 31), none⟩,
      ⟨(some 33), .mov (.t 1), none⟩,
      ⟨(some 34), .slcs (.t 32) (some (.t 33)) none, none⟩,
      ⟨(some 35), .nilchk .ptr (.t 28), none⟩,
      ⟨(some 36), .faddr false 0 1 (.t 35), none⟩,
      ⟨none, .store 1 (.t 36) (.t 34), none⟩])
    (.seq (.rg [⟨(some 37), .mov (.t 5), none⟩,
      ⟨(some 4), .mov (.t 37), none⟩])
    .ret)))))
def r64 : List DR := [.tmp 4]
theorem c64_ok : Tryz.f64.body.bind (cCode Tryz.prog) = some c64 := by kernel_rfl
theorem r64_ok : cRes Tryz.prog Tryz.f64.results.toList = some r64 := by kernel_rfl

/-- given.example/pub-assaymark/pub/zzmsgp.number -/
def c68 : DC :=
  (.seq (.rg [⟨(some 4), .mov (.c (.p (.int .u64 0))), none⟩,
      ⟨(some 5), .mov (.c (.p (.slice none 0 0))), none⟩,
      ⟨(some 6), .mov (.c (.p .nilIface)), none⟩])
    (.seq (.seq (.rg [⟨(some 9), .mov (.t 0), none⟩,
      ⟨(some 10), .lenl (.t 9), none⟩,
      ⟨(some 11), .mov (.t 1), none⟩,
      ⟨(some 12), .bin .add (.c (.p (.int .i64 1))) (.t 11), none⟩,
      ⟨(some 13), .bin .lss (.t 10) (.t 12), none⟩])
    (.cond (.t 13) (.seq (.rg [⟨(some 14), .mov (.t 0), none⟩,
        ⟨(some 15), .ifc 117 (.c (.p (.string ⟨#[116, 111, 111, 32, 102, 101, 119, 32, 98, 121, 116, 101, 115, 32, 108, 101, 102, 116, 32, 116, 111, 32, 114, 101, 97, 100, 32, 111, 98, 106, 101, 99, 116]⟩))), none⟩,
        ⟨(some 4), .mov (.c (.p (.int .u64 0))), none⟩,
        ⟨(some 5), .mov (.t 14), none⟩,
        ⟨(some 6), .mov (.t 15), none⟩])
      .ret)
      .skip))
    (.seq (.seq (.rg [⟨(some 16), .mov (.t 0), none⟩,
      ⟨(some 17), .mov (.t 1), none⟩,
      ⟨(some 18), .bin .add (.c (.p (.int .i64 1))) (.t 17), none⟩,
      ⟨(some 19), .slcl 1 (.t 16) (some (.c (.p (.int .i64 1)))) (some (.t 18)), none⟩,
      ⟨(some 20), .lenl (.t 19), none⟩,
      ⟨(some 21), .mov (.c (.p (.int .i64 0))), none⟩])
    (.block 0 (.loop (.seq (.rg [⟨(some 22), .bin .lss (.t 21) (.t 20), none⟩])
      (.seq (.cond (.t 22) .skip
        (.exit 0))
      (.seq (.block 1 (.seq (.rg [⟨(some 23), .iaddr 1 (.t 19) (.t 21), none⟩,
         ⟨(some 24), .load false 1 (.t 23), none⟩,
         ⟨(some 8), .mov (.t 24), none⟩])
       (.rg [⟨(some 25), .mov (.t 4), none⟩,
         ⟨(some 26), .bin .shl (.t 25) (.c (.p (.int .u64 8))), none⟩,
         ⟨(some 27), .mov (.t 8), none⟩,
         ⟨(some 28), .cint .u64 (.t 27), none⟩,
         ⟨(some 29), .bin .or (.t 26) (.t 28), none⟩,
         ⟨(some 4), .mov (.t 29), none⟩])))
      (.rg [⟨(some 30), .bin .add (.t 21) (.c (.p (.int .i64 1))), none⟩,
        ⟨(some 21), .mov (.t 30), none⟩])))))))
    (.seq (.rgd [⟨⟨(some 31), .mov (.t 4), none⟩, 0, [0]⟩,
      ⟨⟨(some 32), .mov (.t 0), none⟩, 0, []⟩,
      ⟨⟨(some 33), .mov (.t 1), none⟩, 0, []⟩,
      ⟨⟨(some 34), .bin .add (.c (.p (.int .i64 1))) (.t 33), none⟩, 0, []⟩,
      ⟨⟨(some 35), .slcl 1 (.t 32) (some (.t 34)) none, none⟩, 0, [0]⟩,
      ⟨⟨(some 4), .mov (.t 31), none⟩, 0, [0]⟩,
      ⟨⟨(some 5), .mov (.t 35), none⟩, 0, []⟩,
      ⟨⟨(some 6), .mov (.c (.p .nilIface)), none⟩, 0, []⟩])
    .ret))))
def r68 : List DR := [.tmp 4, .tmp 5, .tmp 6]
theorem c68_ok : Tryz.f68.body.bind (cCode Tryz.prog) = some c68 := by kernel_rfl
theorem r68_ok : cRes Tryz.prog Tryz.f68.results.toList = some r68 := by kernel_rfl

/-- (given.example/pub-assaymark/pub/miniogo/pkg/set.Set[int]).Add -/
def c70 : DC :=
  (.rg [⟨(some 4), .mov (.t 0), none⟩,
      ⟨(some 5), .mov (.t 1), none⟩,
      ⟨(some 6), .bld [] [], none⟩,
      ⟨none, .mupd .int (.t 4) (.t 5) (.t 6), none⟩])
def r70 : List DR := []
theorem c70_ok : Tryz.f70.body.bind (cCode Tryz.prog) = some c70 := by kernel_rfl
theorem r70_ok : cRes Tryz.prog Tryz.f70.results.toList = some r70 := by kernel_rfl

/-- given.example/pub-assaymark/pub/zzmsgp.big -/
def c71 : DC :=
  (.seq (.rg [⟨(some 6), .mov (.c (.p (.slice none 0 0))), none⟩])
    (.seq (.seq (.rg [⟨(some 8), .mov (.t 2), none⟩,
      ⟨(some 9), .bin .sub (.t 8) (.c (.p (.int .i64 1))), none⟩,
      ⟨(some 7), .mov (.t 9), none⟩])
    (.block 0 (.loop (.seq (.seq (.rg [⟨(some 10), .mov (.t 7), none⟩,
        ⟨(some 11), .bin .geq (.t 10) (.c (.p (.int .i64 0))), none⟩])
      (.cond (.t 11) .skip
        (.exit 0)))
      (.seq (.block 1 (.rg [⟨(some 14), .mov (.t 0), none⟩,
         ⟨(some 15), .mov (.t 1), none⟩,
         ⟨(some 16), .mov (.t 7), none⟩,
         ⟨(some 17), .bin .mul (.c (.p (.int .i64 8))) (.t 16), none⟩,
         ⟨(some 18), .bin .shr (.t 15) (.t 17), none⟩,
         ⟨(some 19), .cint .u8 (.t 18), none⟩,
         ⟨(some 20), .lit 1 [(.t 19)], none⟩,
         ⟨(some 21), .app 1 1 (.t 14) (.t 20), none⟩,
         ⟨(some 0), .mov (.t 21), none⟩]))
      (.rg [⟨(some 12), .mov (.t 7), none⟩,
        ⟨(some 13), .bin .sub (.t 12) (.c (.p (.int .i64 1))), none⟩,
        ⟨(some 7), .mov (.t 13), none⟩]))))))
    (.seq (.rg [⟨(some 22), .mov (.t 0), none⟩,
      ⟨(some 6), .mov (.t 22), none⟩])
    .ret)))
def r71 : List DR := [.tmp 6]
theorem c71_ok : Tryz.f71.body.bind (cCode Tryz.prog) = some c71 := by kernel_rfl
theorem r71_ok : cRes Tryz.prog Tryz.f71.results.toList = some r71 := by kernel_rfl

/-- given.example/pub-assaymark/pub/lightstrconv.FormatUint -/
def c177 : DC :=
  (.seq (.rg [⟨(some 4), .mov (.c (.p (.string ⟨#[]⟩))), none⟩])
    (.seq (.seq (.rg [⟨(some 7), .mov (.t 1), none⟩,
      ⟨(some 8), .bin .lss (.t 7) (.c (.p (.int .i64 2))), none⟩,
      ⟨(some 9), .mov (.t 8), none⟩,
      ⟨(some 10), .mov (.t 1), (some (9, false))⟩,
      ⟨(some 11), .bin .gtr (.t 10) (.c (.p (.int .i64 36))), (some (9, false))⟩,
      ⟨(some 12), .pick (.t 9) (.c (.p (.bool true))) (.t 11), none⟩])
    (.cond (.t 12) (.rg [⟨(some 13), .ifc 9 (.c (.p (.string ⟨#[115, 116, 114, 99, 111, 110, 118, 58, 32, 105, 108, 108, 101, 103, 97, 108, 32, 65, 112, 112, 101, 110, 100, 73, 110, 116, 47, 70, 111, 114, 109, 97, 116, 73, 110, 116, 32, 98, 97, 115, 101]⟩))), none⟩,
        ⟨none, .stop, none⟩])
      .skip))
    (.seq (.rg [⟨(some 5), .alloc 64 (.agg [.p (.int .u8 0), .p (.int .u8 0), .p (.int .u8 0), .p (.int .u8 0), .p (.int .u8 0), .p (.int .u8 0), .p (.int .u8 0), .p (.int .u8 0), .p (.int .u8 0), .p (.int .u8 0), .p (.int .u8 0), .p (.int .u8 0), .p (.int .u8 0), .p (.int .u8 0), .p (.int .u8 0), .p (.int .u8 0), .p (.int .u8 0), .p (.int .u8 0), .p (.int .u8 0), .p (.int .u8 0), .p (.int .u8 0), .p (.int .u8 0), .p (.int .u8 0), .p (.int .u8 0), .p (.int .u8 0), .p (.int .u8 0), .p (.int .u8 0), .p (.int .u8 0), .p (.int .u8 0), .p (.int .u8 0), .p (.int .u8 0), .p (.int .u8 0), .p (.int .u8 0), .p (.int .u8 0), .p (.int .u8 0), .p (.int .u8 0), .p (.int .u8 0), .p (.int .u8 0), .p (.int .u8 0), .p (.int .u8 0), .p (.int .u8 0), .p (.int .u8 0), .p (.int .u8 0), .p (.int .u8 0), .p (.int .u8 0), .p (.int .u8 0), .p (.int .u8 0), .p (.int .u8 0), .p (.int .u8 0), .p (.int .u8 0), .p (.int .u8 0), .p (.int .u8 0), .p (.int .u8 0), .p (.int .u8 0), .p (.int .u8 0), .p (.int .u8 0), .p (.int .u8 0), .p (.int .u8 0), .p (.int .u8 0), .p (.int .u8 0), .p (.int .u8 0), .p (.int .u8 0), .p (.int .u8 0), .p (.int .u8 0)]), none⟩])
    (.seq (.rg [⟨(some 6), .mov (.c (.p (.int .i64 64))), none⟩])
    (.seq (.block 0 (.loop (.seq (.seq (.rg [⟨(some 14), .mov (.t 6), none⟩,
        ⟨(some 15), .bin .eql (.t 14) (.c (.p (.int .i64 64))), none⟩,
        ⟨(some 16), .mov (.t 15), none⟩,
        ⟨(some 17), .mov (.t 0), (some (16, false))⟩,
        ⟨(some 18), .bin .gtr (.t 17) (.c (.p (.int .u64 0))), (some (16, false))⟩,
        ⟨(some 19), .pick (.t 16) (.c (.p (.bool true))) (.t 18), none⟩])
      (.cond (.t 19) .skip
        (.exit 0)))
      (.block 1 (.seq (.rg [⟨(some 20), .mov (.t 6), none⟩,
         ⟨(some 21), .bin .sub (.t 20) (.c (.p (.int .i64 1))), none⟩,
         ⟨(some 6), .mov (.t 21), none⟩])
       (.seq (.rg [⟨(some 22), .mov (.t 6), none⟩,
         ⟨(some 23), .mov (.t 0), none⟩,
         ⟨(some 24), .mov (.t 1), none⟩,
         ⟨(some 25), .cint .u64 (.t 24), none⟩,
         ⟨(some 26), .bin .rem (.t 23) (.t 25), none⟩,
         ⟨(some 27), .idxs (.c (.p (.string ⟨#[48, 49, 50, 51, 52, 53, 54, 55, 56, 57, 97, 98, 99, 100, 101, 102, 103, 104, 105, 106, 107, 108, 109, 110, 111, 112, 113, 114, 115, 116, 117, 118, 119, 120, 121, 122]⟩))) (.t 26), none⟩,
         ⟨(some 28), .iaddra 64 1 false (.t 5) (.t 22), none⟩,
         ⟨none, .store 1 (.t 28) (.t 27), none⟩])
       (.rg [⟨(some 29), .mov (.t 0), none⟩,
         ⟨(some 30), .mov (.t 1), none⟩,
         ⟨(some 31), .cint .u64 (.t 30), none⟩,
         ⟨(some 32), .bin .quo (.t 29) (.t 31), none⟩,
         ⟨(some 0), .mov (.t 32), none⟩])))))))
    (.seq (.rg [⟨(some 33), .mov (.t 6), none⟩,
      ⟨(some 34), .slca 64 1 false (.t 5) (some (.t 33)) none, none⟩,
      ⟨(some 35), .b2s (.t 34), none⟩,
      ⟨(some 4), .mov (.t 35), none⟩])
    .ret))))))
def r177 : List DR := [.tmp 4]
theorem c177_ok : Tryz.f177.body.bind (cCode Tryz.prog) = some c177 := by kernel_rfl
theorem r177_ok : cRes Tryz.prog Tryz.f177.results.toList = some r177 := by kernel_rfl

/-- given.example/pub-assaymark/pub/lightstrconv.FormatInt -/
def c187 : DC :=
  (.seq (.rg [⟨(some 4), .mov (.c (.p (.string ⟨#[]⟩))), none⟩])
    (.seq (.seq (.rg [⟨(some 5), .mov (.t 0), none⟩,
      ⟨(some 6), .bin .lss (.t 5) (.c (.p (.int .i64 0))), none⟩])
    (.cond (.t 6) (.seq (.rg [⟨(some 7), .mov (.t 0), none⟩,
        ⟨(some 8), .cint .u64 (.t 7), none⟩,
        ⟨(some 9), .un .neg (.t 8), none⟩,
        ⟨(some 10), .mov (.t 1), none⟩,
        ⟨(some 11), .callr 177 [(.t 9), (.t 10)], none⟩,
        ⟨(some 12), .bin .add (.c (.p (.string ⟨#[45]⟩))) (.t 11), none⟩,
        ⟨(some 4), .mov (.t 12), none⟩])
      .ret)
      .skip))
    (.seq (.rg [⟨(some 13), .mov (.t 0), none⟩,
      ⟨(some 14), .cint .u64 (.t 13), none⟩,
      ⟨(some 15), .mov (.t 1), none⟩,
      ⟨(some 16), .callr 177 [(.t 14), (.t 15)], none⟩,
      ⟨(some 4), .mov (.t 16), none⟩])
    .ret)))
def r187 : List DR := [.tmp 4]
theorem c187_ok : Tryz.f187.body.bind (cCode Tryz.prog) = some c187 := by kernel_rfl
theorem r187_ok : cRes Tryz.prog Tryz.f187.results.toList = some r187 := by kernel_rfl

/-- (given.example/pub-assaymark/pub/miniogo/pkg/set.zzInts).ZzPut -/
def c193 : DC :=
  (.seq (.rg [⟨(some 2), .box (.t 0), none⟩,
      ⟨(some 3), .box (.t 1), none⟩])
    (.rg [⟨(some 4), .load false 1 (.t 3), none⟩,
      ⟨(some 5), .mkf (.func 195) [] [(.t 2), (.t 3)], none⟩,
      ⟨(some 6), .callr 194 [(.t 4), (.t 5)], none⟩]))
def r193 : List DR := []
theorem c193_ok : Tryz.f193.body.bind (cCode Tryz.prog) = some c193 := by kernel_rfl
theorem r193_ok : cRes Tryz.prog Tryz.f193.results.toList = some r193 := by kernel_rfl

/-- (*given.example/pub-assaymark/pub/zzjson.Writer).List -/
def c194 : DC :=
  (.rg [⟨(some 4), .mov (.t 0), none⟩,
      ⟨(some 5), .mov (.t 1), none⟩,
      ⟨(some 6), .callr 198 [(.t 4), (.c (.p (.int .u8 91))), (.c (.p (.int .u8 93))), (.t 5)], none⟩])
def r194 : List DR := []
theorem c194_ok : Tryz.f194.body.bind (cCode Tryz.prog) = some c194 := by kernel_rfl
theorem r194_ok : cRes Tryz.prog Tryz.f194.results.toList = some r194 := by kernel_rfl

/-- (given.example/pub-assaymark/pub/miniogo/pkg/set.zzInts).ZzPut$1 -/
def c195 : DC :=
  (.seq (.rg [⟨(some 4), .load false 1 (.t 0), none⟩,
      ⟨(some 5), .lenl (.t 4), none⟩,
      ⟨(some 6), .mov (.c (.p (.int .i64 0))), none⟩])
    (.block 0 (.loop (.seq (.rg [⟨(some 7), .bin .lss (.t 6) (.t 5), none⟩])
      (.seq (.cond (.t 7) .skip
        (.exit 0))
      (.seq (.block 1 (.seq (.rg [⟨(some 8), .iaddr 1 (.t 4) (.t 6), none⟩,
         ⟨(some 9), .load false 1 (.t 8), none⟩,
         ⟨(some 3), .mov (.t 9), none⟩])
       (.seq (.rg [⟨(some 10), .load false 1 (.t 1), none⟩,
         ⟨(some 11), .callr 196 [(.t 10)], none⟩])
       (.rg [⟨(some 12), .load false 1 (.t 1), none⟩,
         ⟨(some 13), .mov (.t 3), none⟩,
         ⟨(some 14), .callr 197 [(.t 12), (.t 13)], none⟩]))))
      (.rg [⟨(some 15), .bin .add (.t 6) (.c (.p (.int .i64 1))), none⟩,
        ⟨(some 6), .mov (.t 15), none⟩])))))))
def r195 : List DR := []
theorem c195_ok : Tryz.f195.body.bind (cCode Tryz.prog) = some c195 := by kernel_rfl
theorem r195_ok : cRes Tryz.prog Tryz.f195.results.toList = some r195 := by kernel_rfl

/-- (*given.example/pub-assaymark/pub/zzjson.Writer).Next -/
def c196 : DC :=
  (.seq (.seq (.rg [⟨(some 2), .mov (.t 0), none⟩,
      ⟨(some 3), .nilchk .ptr (.t 2), none⟩,
      ⟨(some 4), .faddr false 2 1 (.t 3), none⟩,
      ⟨(some 5), .load false 1 (.t 4), none⟩])
    (.cond (.t 5) (.rg [⟨(some 6), .mov (.t 0), none⟩,
        ⟨(some 7), .mov (.t 0), none⟩,
        ⟨(some 8), .nilchk .ptr (.t 7), none⟩,
        ⟨(some 9), .faddr false 1 1 (.t 8), none⟩,
        ⟨(some 10), .load false 1 (.t 9), none⟩,
        ⟨(some 11), .lit 1 [(.c (.p (.int .u8 44)))], none⟩,
        ⟨(some 12), .app 1 1 (.t 10) (.t 11), none⟩,
        ⟨(some 13), .nilchk .ptr (.t 6), none⟩,
        ⟨(some 14), .faddr false 1 1 (.t 13), none⟩,
        ⟨none, .store 1 (.t 14) (.t 12), none⟩])
      .skip))
    (.rg [⟨(some 15), .mov (.t 0), none⟩,
      ⟨(some 16), .nilchk .ptr (.t 15), none⟩,
      ⟨(some 17), .faddr false 2 1 (.t 16), none⟩,
      ⟨none, .store 1 (.t 17) (.c (.p (.bool true))), none⟩]))
def r196 : List DR := []
theorem c196_ok : Tryz.f196.body.bind (cCode Tryz.prog) = some c196 := by kernel_rfl
theorem r196_ok : cRes Tryz.prog Tryz.f196.results.toList = some r196 := by kernel_rfl

/-- (*given.example/pub-assaymark/pub/zzjson.Writer).Int -/
def c197 : DC :=
  (.rg [⟨(some 4), .mov (.t 0), none⟩,
      ⟨(some 5), .mov (.t 0), none⟩,
      ⟨(some 6), .nilchk .ptr (.t 5), none⟩,
      ⟨(some 7), .faddr false 1 1 (.t 6), none⟩,
      ⟨(some 8), .load false 1 (.t 7), none⟩,
      ⟨(some 9), .mov (.t 1), none⟩,
      ⟨(some 10), .callr 199 [(.t 8), (.t 9), (.c (.p (.int .i64 10)))], none⟩,
      ⟨(some 11), .nilchk .ptr (.t 4), none⟩,
      ⟨(some 12), .faddr false 1 1 (.t 11), none⟩,
      ⟨none, .store 1 (.t 12) (.t 10), none⟩])
def r197 : List DR := []
theorem c197_ok : Tryz.f197.body.bind (cCode Tryz.prog) = some c197 := by kernel_rfl
theorem r197_ok : cRes Tryz.prog Tryz.f197.results.toList = some r197 := by kernel_rfl

/-- (*given.example/pub-assaymark/pub/zzjson.Writer).within -/
def c198 : DC :=
  (.seq (.rg [⟨(some 8), .mov (.t 0), none⟩,
      ⟨(some 9), .mov (.t 0), none⟩,
      ⟨(some 10), .nilchk .ptr (.t 9), none⟩,
      ⟨(some 11), .faddr false 1 1 (.t 10), none⟩,
      ⟨(some 12), .load false 1 (.t 11), none⟩,
      ⟨(some 13), .mov (.t 1), none⟩,
      ⟨(some 14), .lit 1 [(.t 13)], none⟩,
      ⟨(some 15), .app 1 1 (.t 12) (.t 14), none⟩,
      ⟨(some 16), .nilchk .ptr (.t 8), none⟩,
      ⟨(some 17), .faddr false 1 1 (.t 16), none⟩,
      ⟨none, .store 1 (.t 17) (.t 15), none⟩])
    (.seq (.rg [⟨(some 18), .mov (.t 0), none⟩,
      ⟨(some 19), .nilchk .ptr (.t 18), none⟩,
      ⟨(some 20), .faddr false 2 1 (.t 19), none⟩,
      ⟨none, .store 1 (.t 20) (.c (.p (.bool false))), none⟩])
    (.seq (.rg [⟨(some 21), .mov (.t 3), none⟩,
      ⟨(some 22), .callv true (.t 21) [], none⟩])
    (.seq (.rg [⟨(some 23), .mov (.t 0), none⟩,
      ⟨(some 24), .mov (.t 0), none⟩,
      ⟨(some 25), .nilchk .ptr (.t 24), none⟩,
      ⟨(some 26), .faddr false 1 1 (.t 25), none⟩,
      ⟨(some 27), .load false 1 (.t 26), none⟩,
      ⟨(some 28), .mov (.t 2), none⟩,
      ⟨(some 29), .lit 1 [(.t 28)], none⟩,
      ⟨(some 30), .app 1 1 (.t 27) (.t 29), none⟩,
      ⟨(some 31), .nilchk .ptr (.t 23), none⟩,
      ⟨(some 32), .faddr false 1 1 (.t 31), none⟩,
      ⟨none, .store 1 (.t 32) (.t 30), none⟩])
    (.rg [⟨(some 33), .mov (.t 0), none⟩,
      ⟨(some 34), .nilchk .ptr (.t 33), none⟩,
      ⟨(some 35), .faddr false 2 1 (.t 34), none⟩,
      ⟨none, .store 1 (.t 35) (.c (.p (.bool true))), none⟩])))))
def r198 : List DR := []
theorem c198_ok : Tryz.f198.body.bind (cCode Tryz.prog) = some c198 := by kernel_rfl
theorem r198_ok : cRes Tryz.prog Tryz.f198.results.toList = some r198 := by kernel_rfl

/-- given.example/pub-assaymark/pub/lightstrconv.AppendInt -/
def c199 : DC :=
  (.seq (.rg [⟨(some 6), .mov (.c (.p (.slice none 0 0))), none⟩])
    (.seq (.rg [⟨(some 7), .mov (.t 0), none⟩,
      ⟨(some 8), .mov (.t 1), none⟩,
      ⟨(some 9), .mov (.t 2), none⟩,
      ⟨(some 10), .callr 187 [(.t 8), (.t 9)], none⟩,
      ⟨(some 11), .app 1 1 (.t 7) (.t 10), none⟩,
      ⟨(some 6), .mov (.t 11), none⟩])
    .ret))
def r199 : List DR := [.tmp 6]
theorem c199_ok : Tryz.f199.body.bind (cCode Tryz.prog) = some c199 := by kernel_rfl
theorem r199_ok : cRes Tryz.prog Tryz.f199.results.toList = some r199 := by kernel_rfl

end Go.Proofs.YtppjcnaffphakaaGreatDoor
