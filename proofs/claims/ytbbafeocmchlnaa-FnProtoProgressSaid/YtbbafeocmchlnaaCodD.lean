/- The codes of the functions, in the small language of Den. -/
import Derived.Test.YtbbafeocmchlnaaPvA
import Derived.Test.YtbbafeocmchlnaaLibE
set_option linter.unusedVariables false
set_option linter.unusedSimpArgs false
set_option maxRecDepth 100000
namespace Go.Proofs.Ytbbafeocmchlnaa
open Go Go.Den Go.Proofs

/-- (given.example/pub-assaymark/pub/gotime.Duration).String -/
def c118 : DC :=
  (.seq (.rg [⟨(some 2), .mov (.c (.p (.string ⟨#[]⟩))), none⟩])
    (.seq (.rg [⟨(some 3), .alloc 32 (.agg [.p (.int .u8 0), .p (.int .u8 0), .p (.int .u8 0), .p (.int .u8 0), .p (.int .u8 0), .p (.int .u8 0), .p (.int .u8 0), .p (.int .u8 0), .p (.int .u8 0), .p (.int .u8 0), .p (.int .u8 0), .p (.int .u8 0), .p (.int .u8 0), .p (.int .u8 0), .p (.int .u8 0), .p (.int .u8 0), .p (.int .u8 0), .p (.int .u8 0), .p (.int .u8 0), .p (.int .u8 0), .p (.int .u8 0), .p (.int .u8 0), .p (.int .u8 0), .p (.int .u8 0), .p (.int .u8 0), .p (.int .u8 0), .p (.int .u8 0), .p (.int .u8 0), .p (.int .u8 0), .p (.int .u8 0), .p (.int .u8 0), .p (.int .u8 0)]), none⟩])
    (.seq (.rg [⟨(some 5), .mov (.t 0), none⟩,
      ⟨(some 6), .callr 151 [(.t 5), (.t 3)], none⟩,
      ⟨(some 4), .mov (.t 6), none⟩])
    (.seq (.rg [⟨(some 7), .mov (.t 4), none⟩,
      ⟨(some 8), .slca 32 1 false (.t 3) (some (.t 7)) none, none⟩,
      ⟨(some 9), .b2s (.t 8), none⟩,
      ⟨(some 2), .mov (.t 9), none⟩])
    .ret))))
def r118 : List DR := [.tmp 2]
theorem c118_ok : Try.f118.body.bind (cCode Try.prog) = some c118 := by kernel_rfl
theorem r118_ok : cRes Try.prog Try.f118.results.toList = some r118 := by kernel_rfl

/-- (given.example/pub-assaymark/pub/gotime.Duration).format -/
def c151 : DC :=
  (.seq (.rg [⟨(some 4), .mov (.c (.p (.int .i64 0))), none⟩])
    (.seq (.rg [⟨(some 5), .mov (.c (.p (.int .i64 32))), none⟩])
    (.seq (.rg [⟨(some 9), .mov (.t 0), none⟩,
      ⟨(some 10), .cint .u64 (.t 9), none⟩,
      ⟨(some 6), .mov (.t 10), none⟩])
    (.seq (.rg [⟨(some 11), .mov (.t 0), none⟩,
      ⟨(some 12), .bin .lss (.t 11) (.c (.p (.int .i64 0))), none⟩,
      ⟨(some 7), .mov (.t 12), none⟩])
    (.seq (.seq (.rg [⟨(some 13), .mov (.t 7), none⟩])
    (.cond (.t 13) (.rg [⟨(some 14), .mov (.t 6), none⟩,
        ⟨(some 15), .un .neg (.t 14), none⟩,
        ⟨(some 6), .mov (.t 15), none⟩])
      .skip))
    (.seq (.seq (.rg [⟨(some 16), .mov (.t 6), none⟩,
      ⟨(some 17), .bin .lss (.t 16) (.c (.p (.int .u64 1000000000))), none⟩])
    (.cond (.t 17) (.seq (.rg [⟨(some 8), .mov (.c (.p (.int .i64 0))), none⟩])
      (.seq (.rg [⟨(some 18), .mov (.t 5), none⟩,
        ⟨(some 19), .bin .sub (.t 18) (.c (.p (.int .i64 1))), none⟩,
        ⟨(some 5), .mov (.t 19), none⟩])
      (.seq (.rg [⟨(some 20), .mov (.t 1), none⟩,
        ⟨(some 21), .mov (.t 5), none⟩,
        ⟨(some 22), .nilchk .ptr (.t 20), none⟩,
        ⟨(some 23), .iaddra 32 1 false (.t 22) (.t 21), none⟩,
        ⟨none, .store 1 (.t 23) (.c (.p (.int .u8 115))), none⟩])
      (.seq (.rg [⟨(some 24), .mov (.t 5), none⟩,
        ⟨(some 25), .bin .sub (.t 24) (.c (.p (.int .i64 1))), none⟩,
        ⟨(some 5), .mov (.t 25), none⟩])
      (.seq (.block 0 (.seq (.rg [⟨(some 31), .mov (.t 6), none⟩,
         ⟨(some 32), .bin .eql (.t 31) (.c (.p (.int .u64 0))), none⟩,
         ⟨(some 30), .mov (.t 32), none⟩])
       (.cond (.t 30) (.seq (.rg [⟨(some 33), .mov (.t 1), none⟩,
           ⟨(some 34), .mov (.t 5), none⟩,
           ⟨(some 35), .nilchk .ptr (.t 33), none⟩,
           ⟨(some 36), .iaddra 32 1 false (.t 35) (.t 34), none⟩,
           ⟨none, .store 1 (.t 36) (.c (.p (.int .u8 48))), none⟩])
         (.seq (.rg [⟨(some 37), .mov (.t 5), none⟩,
           ⟨(some 4), .mov (.t 37), none⟩])
         .ret))
         (.seq (.rg [⟨(some 39), .mov (.t 6), none⟩,
           ⟨(some 40), .bin .lss (.t 39) (.c (.p (.int .u64 1000))), none⟩,
           ⟨(some 38), .mov (.t 40), none⟩])
         (.cond (.t 38) (.seq (.rg [⟨(some 8), .mov (.c (.p (.int .i64 0))), none⟩])
           (.rg [⟨(some 41), .mov (.t 1), none⟩,
             ⟨(some 42), .mov (.t 5), none⟩,
             ⟨(some 43), .nilchk .ptr (.t 41), none⟩,
             ⟨(some 44), .iaddra 32 1 false (.t 43) (.t 42), none⟩,
             ⟨none, .store 1 (.t 44) (.c (.p (.int .u8 110))), none⟩]))
           (.seq (.rg [⟨(some 46), .mov (.t 6), none⟩,
             ⟨(some 47), .bin .lss (.t 46) (.c (.p (.int .u64 1000000))), none⟩,
             ⟨(some 45), .mov (.t 47), none⟩])
           (.cond (.t 45) (.seq (.rg [⟨(some 8), .mov (.c (.p (.int .i64 3))), none⟩])
             (.seq (.rg [⟨(some 48), .mov (.t 5), none⟩,
               ⟨(some 49), .bin .sub (.t 48) (.c (.p (.int .i64 1))), none⟩,
               ⟨(some 5), .mov (.t 49), none⟩])
             (.rg [⟨(some 50), .mov (.t 1), none⟩,
               ⟨(some 51), .nilchk .ptr (.t 50), none⟩,
               ⟨(some 52), .mov (.t 5), none⟩,
               ⟨(some 53), .slca 32 1 false (.t 51) (some (.t 52)) none, none⟩,
               ⟨(some 54), .cpy 1 (.t 53) (.c (.p (.string ⟨#[194, 181]⟩))), none⟩])))
             (.seq (.rg [⟨(some 8), .mov (.c (.p (.int .i64 6))), none⟩])
             (.rg [⟨(some 26), .mov (.t 1), none⟩,
               ⟨(some 27), .mov (.t 5), none⟩,
               ⟨(some 28), .nilchk .ptr (.t 26), none⟩,
               ⟨(some 29), .iaddra 32 1 false (.t 28) (.t 27), none⟩,
               ⟨none, .store 1 (.t 29) (.c (.p (.int .u8 109))), none⟩])))))))))
      (.seq (.rg [⟨(some 56), .mov (.t 1), none⟩,
        ⟨(some 57), .nilchk .ptr (.t 56), none⟩,
        ⟨(some 58), .mov (.t 5), none⟩,
        ⟨(some 59), .slca 32 1 false (.t 57) none (some (.t 58)), none⟩,
        ⟨(some 60), .mov (.t 6), none⟩,
        ⟨(some 61), .mov (.t 8), none⟩,
        ⟨(some 62), .callr 176 [(.t 59), (.t 60), (.t 61)], none⟩,
        ⟨(some 55), .mov (.t 62), none⟩,
        ⟨(some 63), .ext (.t 55) 0, none⟩,
        ⟨(some 64), .ext (.t 55) 1, none⟩,
        ⟨(some 5), .mov (.t 63), none⟩,
        ⟨(some 6), .mov (.t 64), none⟩])
      (.rg [⟨(some 65), .mov (.t 1), none⟩,
        ⟨(some 66), .nilchk .ptr (.t 65), none⟩,
        ⟨(some 67), .mov (.t 5), none⟩,
        ⟨(some 68), .slca 32 1 false (.t 66) none (some (.t 67)), none⟩,
        ⟨(some 69), .mov (.t 6), none⟩,
        ⟨(some 70), .callr 177 [(.t 68), (.t 69)], none⟩,
        ⟨(some 5), .mov (.t 70), none⟩])))))))
      (.seq (.rg [⟨(some 71), .mov (.t 5), none⟩,
        ⟨(some 72), .bin .sub (.t 71) (.c (.p (.int .i64 1))), none⟩,
        ⟨(some 5), .mov (.t 72), none⟩])
      (.seq (.rg [⟨(some 73), .mov (.t 1), none⟩,
        ⟨(some 74), .mov (.t 5), none⟩,
        ⟨(some 75), .nilchk .ptr (.t 73), none⟩,
        ⟨(some 76), .iaddra 32 1 false (.t 75) (.t 74), none⟩,
        ⟨none, .store 1 (.t 76) (.c (.p (.int .u8 115))), none⟩])
      (.seq (.rg [⟨(some 78), .mov (.t 1), none⟩,
        ⟨(some 79), .nilchk .ptr (.t 78), none⟩,
        ⟨(some 80), .mov (.t 5), none⟩,
        ⟨(some 81), .slca 32 1 false (.t 79) none (some (.t 80)), none⟩,
        ⟨(some 82), .mov (.t 6), none⟩,
        ⟨(some 83), .callr 176 [(.t 81), (.t 82), (.c (.p (.int .i64 9)))], none⟩,
        ⟨(some 77), .mov (.t 83), none⟩,
        ⟨(some 84), .ext (.t 77) 0, none⟩,
        ⟨(some 85), .ext (.t 77) 1, none⟩,
        ⟨(some 5), .mov (.t 84), none⟩,
        ⟨(some 6), .mov (.t 85), none⟩])
      (.seq (.rg [⟨(some 86), .mov (.t 1), none⟩,
        ⟨(some 87), .nilchk .ptr (.t 86), none⟩,
        ⟨(some 88), .mov (.t 5), none⟩,
        ⟨(some 89), .slca 32 1 false (.t 87) none (some (.t 88)), none⟩,
        ⟨(some 90), .mov (.t 6), none⟩,
        ⟨(some 91), .bin .rem (.t 90) (.c (.p (.int .u64 60))), none⟩,
        ⟨(some 92), .callr 177 [(.t 89), (.t 91)], none⟩,
        ⟨(some 5), .mov (.t 92), none⟩])
      (.seq (.rg [⟨(some 93), .mov (.t 6), none⟩,
        ⟨(some 94), .bin .quo (.t 93) (.c (.p (.int .u64 60))), none⟩,
        ⟨(some 6), .mov (.t 94), none⟩])
      (.seq (.rg [⟨(some 95), .mov (.t 6), none⟩,
        ⟨(some 96), .bin .gtr (.t 95) (.c (.p (.int .u64 0))), none⟩])
      (.cond (.t 96) (.seq (.rg [⟨(some 97), .mov (.t 5), none⟩,
          ⟨(some 98), .bin .sub (.t 97) (.c (.p (.int .i64 1))), none⟩,
          ⟨(some 5), .mov (.t 98), none⟩])
        (.seq (.rg [⟨(some 99), .mov (.t 1), none⟩,
          ⟨(some 100), .mov (.t 5), none⟩,
          ⟨(some 101), .nilchk .ptr (.t 99), none⟩,
          ⟨(some 102), .iaddra 32 1 false (.t 101) (.t 100), none⟩,
          ⟨none, .store 1 (.t 102) (.c (.p (.int .u8 109))), none⟩])
        (.seq (.rg [⟨(some 103), .mov (.t 1), none⟩,
          ⟨(some 104), .nilchk .ptr (.t 103), none⟩,
          ⟨(some 105), .mov (.t 5), none⟩,
          ⟨(some 106), .slca 32 1 false (.t 104) none (some (.t 105)), none⟩,
          ⟨(some 107), .mov (.t 6), none⟩,
          ⟨(some 108), .bin .rem (.t 107) (.c (.p (.int .u64 60))), none⟩,
          ⟨(some 109), .callr 177 [(.t 106), (.t 108)], none⟩,
          ⟨(some 5), .mov (.t 109), none⟩])
        (.seq (.rg [⟨(some 110), .mov (.t 6), none⟩,
          ⟨(some 111), .bin .quo (.t 110) (.c (.p (.int .u64 60))), none⟩,
          ⟨(some 6), .mov (.t 111), none⟩])
        (.seq (.rg [⟨(some 112), .mov (.t 6), none⟩,
          ⟨(some 113), .bin .gtr (.t 112) (.c (.p (.int .u64 0))), none⟩])
        (.cond (.t 113) (.seq (.rg [⟨(some 114), .mov (.t 5), none⟩,
            ⟨(some 115), .bin .sub (.t 114) (.c (.p (.int .i64 1))), none⟩,
            ⟨(some 5), .mov (.t 115), none⟩])
          (.seq (.rg [⟨(some 116), .mov (.t 1), none⟩,
            ⟨(some 117), .mov (.t 5), none⟩,
            ⟨(some 118), .nilchk .ptr (.t 116), none⟩,
            ⟨(some 119), .iaddra 32 1 false (.t 118) (.t 117), none⟩,
            ⟨none, .store 1 (.t 119) (.c (.p (.int .u8 104))), none⟩])
          (.rg [⟨(some 120), .mov (.t 1), none⟩,
            ⟨(some 121), .nilchk .ptr (.t 120), none⟩,
            ⟨(some 122), .mov (.t 5), none⟩,
            ⟨(some 123), .slca 32 1 false (.t 121) none (some (.t 122)), none⟩,
            ⟨(some 124), .mov (.t 6), none⟩,
            ⟨(some 125), .callr 177 [(.t 123), (.t 124)], none⟩,
            ⟨(some 5), .mov (.t 125), none⟩])))
          .skip))))))
        .skip)))))))))
    (.seq (.seq (.rg [⟨(some 126), .mov (.t 7), none⟩])
    (.cond (.t 126) (.seq (.rg [⟨(some 127), .mov (.t 5), none⟩,
        ⟨(some 128), .bin .sub (.t 127) (.c (.p (.int .i64 1))), none⟩,
        ⟨(some 5), .mov (.t 128), none⟩])
      (.rg [⟨(some 129), .mov (.t 1), none⟩,
        ⟨(some 130), .mov (.t 5), none⟩,
        ⟨(some 131), .nilchk .ptr (.t 129), none⟩,
        ⟨(some 132), .iaddra 32 1 false (.t 131) (.t 130), none⟩,
        ⟨none, .store 1 (.t 132) (.c (.p (.int .u8 45))), none⟩]))
      .skip))
    (.seq (.rg [⟨(some 133), .mov (.t 5), none⟩,
      ⟨(some 4), .mov (.t 133), none⟩])
    .ret))))))))
def r151 : List DR := [.tmp 4]
theorem c151_ok : Try.f151.body.bind (cCode Try.prog) = some c151 := by kernel_rfl
theorem r151_ok : cRes Try.prog Try.f151.results.toList = some r151 := by kernel_rfl

/-- given.example/pub-assaymark/pub/gotime.fmtFrac -/
def c176 : DC :=
  (.seq (.rg [⟨(some 6), .mov (.c (.p (.int .i64 0))), none⟩,
      ⟨(some 7), .mov (.c (.p (.int .u64 0))), none⟩])
    (.seq (.rg [⟨(some 12), .mov (.t 0), none⟩,
      ⟨(some 13), .lenl (.t 12), none⟩,
      ⟨(some 8), .mov (.t 13), none⟩])
    (.seq (.rg [⟨(some 9), .mov (.c (.p (.bool false))), none⟩])
    (.seq (.seq (.rg [⟨(some 10), .mov (.c (.p (.int .i64 0))), none⟩])
    (.block 0 (.loop (.seq (.seq (.rg [⟨(some 14), .mov (.t 10), none⟩,
        ⟨(some 15), .mov (.t 2), none⟩,
        ⟨(some 16), .bin .lss (.t 14) (.t 15), none⟩])
      (.cond (.t 16) .skip
        (.exit 0)))
      (.seq (.block 1 (.seq (.rg [⟨(some 19), .mov (.t 1), none⟩,
         ⟨(some 20), .bin .rem (.t 19) (.c (.p (.int .u64 10))), none⟩,
         ⟨(some 11), .mov (.t 20), none⟩])
       (.seq (.rg [⟨(some 21), .mov (.t 9), none⟩,
         ⟨(some 22), .mov (.t 21), none⟩,
         ⟨(some 23), .mov (.t 11), (some (22, false))⟩,
         ⟨(some 24), .bin .neq (.t 23) (.c (.p (.int .u64 0))), (some (22, false))⟩,
         ⟨(some 25), .pick (.t 22) (.c (.p (.bool true))) (.t 24), none⟩,
         ⟨(some 9), .mov (.t 25), none⟩])
       (.seq (.seq (.rg [⟨(some 26), .mov (.t 9), none⟩])
       (.cond (.t 26) (.seq (.rg [⟨(some 27), .mov (.t 8), none⟩,
           ⟨(some 28), .bin .sub (.t 27) (.c (.p (.int .i64 1))), none⟩,
           ⟨(some 8), .mov (.t 28), none⟩])
         (.rg [⟨(some 29), .mov (.t 0), none⟩,
           ⟨(some 30), .mov (.t 8), none⟩,
           ⟨(some 31), .mov (.t 11), none⟩,
           ⟨(some 32), .cint .u8 (.t 31), none⟩,
           ⟨(some 33), .bin .add (.t 32) (.c (.p (.int .u8 48))), none⟩,
           ⟨(some 34), .iaddr 1 (.t 29) (.t 30), none⟩,
           ⟨none, .store 1 (.t 34) (.t 33), none⟩]))
         .skip))
       (.rg [⟨(some 35), .mov (.t 1), none⟩,
         ⟨(some 36), .bin .quo (.t 35) (.c (.p (.int .u64 10))), none⟩,
         ⟨(some 1), .mov (.t 36), none⟩])))))
      (.rg [⟨(some 17), .mov (.t 10), none⟩,
        ⟨(some 18), .bin .add (.t 17) (.c (.p (.int .i64 1))), none⟩,
        ⟨(some 10), .mov (.t 18), none⟩]))))))
    (.seq (.seq (.rg [⟨(some 37), .mov (.t 9), none⟩])
    (.cond (.t 37) (.seq (.rg [⟨(some 38), .mov (.t 8), none⟩,
        ⟨(some 39), .bin .sub (.t 38) (.c (.p (.int .i64 1))), none⟩,
        ⟨(some 8), .mov (.t 39), none⟩])
      (.rg [⟨(some 40), .mov (.t 0), none⟩,
        ⟨(some 41), .mov (.t 8), none⟩,
        ⟨(some 42), .iaddr 1 (.t 40) (.t 41), none⟩,
        ⟨none, .store 1 (.t 42) (.c (.p (.int .u8 46))), none⟩]))
      .skip))
    (.seq (.rg [⟨(some 43), .mov (.t 8), none⟩,
      ⟨(some 44), .mov (.t 1), none⟩,
      ⟨(some 6), .mov (.t 43), none⟩,
      ⟨(some 7), .mov (.t 44), none⟩])
    .ret))))))
def r176 : List DR := [.tmp 6, .tmp 7]
theorem c176_ok : Try.f176.body.bind (cCode Try.prog) = some c176 := by kernel_rfl
theorem r176_ok : cRes Try.prog Try.f176.results.toList = some r176 := by kernel_rfl

/-- given.example/pub-assaymark/pub/gotime.fmtInt -/
def c177 : DC :=
  (.seq (.rg [⟨(some 4), .mov (.c (.p (.int .i64 0))), none⟩])
    (.seq (.rg [⟨(some 6), .mov (.t 0), none⟩,
      ⟨(some 7), .lenl (.t 6), none⟩,
      ⟨(some 5), .mov (.t 7), none⟩])
    (.seq (.seq (.rg [⟨(some 8), .mov (.t 1), none⟩,
      ⟨(some 9), .bin .eql (.t 8) (.c (.p (.int .u64 0))), none⟩])
    (.cond (.t 9) (.seq (.rg [⟨(some 10), .mov (.t 5), none⟩,
        ⟨(some 11), .bin .sub (.t 10) (.c (.p (.int .i64 1))), none⟩,
        ⟨(some 5), .mov (.t 11), none⟩])
      (.rg [⟨(some 12), .mov (.t 0), none⟩,
        ⟨(some 13), .mov (.t 5), none⟩,
        ⟨(some 14), .iaddr 1 (.t 12) (.t 13), none⟩,
        ⟨none, .store 1 (.t 14) (.c (.p (.int .u8 48))), none⟩]))
      (.block 0 (.loop (.seq (.seq (.rg [⟨(some 15), .mov (.t 1), none⟩,
          ⟨(some 16), .bin .gtr (.t 15) (.c (.p (.int .u64 0))), none⟩])
        (.cond (.t 16) .skip
          (.exit 0)))
        (.block 1 (.seq (.rg [⟨(some 17), .mov (.t 5), none⟩,
           ⟨(some 18), .bin .sub (.t 17) (.c (.p (.int .i64 1))), none⟩,
           ⟨(some 5), .mov (.t 18), none⟩])
         (.seq (.rg [⟨(some 19), .mov (.t 0), none⟩,
           ⟨(some 20), .mov (.t 5), none⟩,
           ⟨(some 21), .mov (.t 1), none⟩,
           ⟨(some 22), .bin .rem (.t 21) (.c (.p (.int .u64 10))), none⟩,
           ⟨(some 23), .cint .u8 (.t 22), none⟩,
           ⟨(some 24), .bin .add (.t 23) (.c (.p (.int .u8 48))), none⟩,
           ⟨(some 25), .iaddr 1 (.t 19) (.t 20), none⟩,
           ⟨none, .store 1 (.t 25) (.t 24), none⟩])
         (.rg [⟨(some 26), .mov (.t 1), none⟩,
           ⟨(some 27), .bin .quo (.t 26) (.c (.p (.int .u64 10))), none⟩,
           ⟨(some 1), .mov (.t 27), none⟩])))))))))
    (.seq (.rg [⟨(some 28), .mov (.t 5), none⟩,
      ⟨(some 4), .mov (.t 28), none⟩])
    .ret))))
def r177 : List DR := [.tmp 4]
theorem c177_ok : Try.f177.body.bind (cCode Try.prog) = some c177 := by kernel_rfl
theorem r177_ok : cRes Try.prog Try.f177.results.toList = some r177 := by kernel_rfl

end Go.Proofs.Ytbbafeocmchlnaa
