/- The codes of the functions, in the small language of Den. -/
import Derived.Test.YtbbafeocmchlnaaDoorLibE
import Derived.Test.YtbbafeocmchlnaaDoorProg
set_option linter.unusedVariables false
set_option linter.unusedSimpArgs false
set_option maxRecDepth 100000
namespace Go.Proofs.YtbbafeocmchlnaaDoor
open Go Go.Den Go.Proofs

/-- given.example/pub-assaymark/laws.FnDomain -/
def c3 : DC :=
  (.seq (.rg [⟨(some 2), .mov (.c (.p (.bool false))), none⟩])
    (.seq (.seq (.rg [⟨(some 5), .mov (.t 0), none⟩,
      ⟨(some 6), .lens (.t 5), none⟩,
      ⟨(some 7), .bin .gtr (.t 6) (.c (.p (.int .i64 2147483647))), none⟩])
    (.cond (.t 7) (.seq (.rg [⟨(some 2), .mov (.c (.p (.bool true))), none⟩])
      .ret)
      .skip))
    (.seq (.rg [⟨(some 9), .mov (.t 0), none⟩,
      ⟨(some 10), .callr 5 [(.t 9)], none⟩,
      ⟨(some 8), .mov (.t 10), none⟩,
      ⟨(some 11), .ext (.t 8) 0, none⟩,
      ⟨(some 12), .ext (.t 8) 1, none⟩,
      ⟨(some 3), .mov (.t 11), none⟩,
      ⟨(some 4), .mov (.t 12), none⟩])
    (.seq (.rg [⟨(some 13), .mov (.t 4), none⟩,
      ⟨(some 14), .un .not (.t 13), none⟩,
      ⟨(some 15), .mov (.t 14), none⟩,
      ⟨(some 16), .mov (.t 0), (some (15, false))⟩,
      ⟨(some 17), .callr 6 [(.t 16)], (some (15, false))⟩,
      ⟨(some 18), .mov (.t 3), (some (15, false))⟩,
      ⟨(some 19), .eqb false (.t 17) (.t 18), (some (15, false))⟩,
      ⟨(some 20), .pick (.t 15) (.c (.p (.bool true))) (.t 19), none⟩,
      ⟨(some 21), .mov (.t 20), none⟩,
      ⟨(some 22), .callr 6 [(.c (.p (.string ⟨#[115, 51, 46, 101, 120, 97, 109, 112, 108, 101, 46, 99, 111, 109]⟩)))], (some (21, true))⟩,
      ⟨(some 23), .pick (.t 21) (.t 22) (.c (.p (.bool false))), none⟩,
      ⟨(some 2), .mov (.t 23), none⟩])
    .ret))))
def r3 : List DR := [.tmp 2]
theorem c3_ok : Tryd.f3.body.bind (cCode Tryd.prog) = some c3 := by kernel_rfl
theorem r3_ok : cRes Tryd.prog Tryd.f3.results.toList = some r3 := by kernel_rfl

/-- given.example/pub-assaymark/spec.DomainRef -/
def c5 : DC :=
  (.seq (.rg [⟨(some 2), .mov (.c (.p (.bool false))), none⟩,
      ⟨(some 3), .mov (.c (.p (.bool false))), none⟩])
    (.seq (.seq (.rg [⟨(some 7), .mov (.t 0), none⟩,
      ⟨(some 8), .bin .eql (.t 7) (.c (.p (.string ⟨#[]⟩))), none⟩,
      ⟨(some 9), .mov (.t 8), none⟩,
      ⟨(some 10), .mov (.t 0), (some (9, false))⟩,
      ⟨(some 11), .idxs (.t 10) (.c (.p (.int .i64 0))), (some (9, false))⟩,
      ⟨(some 12), .bin .eql (.t 11) (.c (.p (.int .u8 45))), (some (9, false))⟩,
      ⟨(some 13), .pick (.t 9) (.c (.p (.bool true))) (.t 12), none⟩,
      ⟨(some 14), .mov (.t 13), none⟩,
      ⟨(some 15), .mov (.t 0), (some (14, false))⟩,
      ⟨(some 16), .idxs (.t 15) (.c (.p (.int .i64 0))), (some (14, false))⟩,
      ⟨(some 17), .bin .eql (.t 16) (.c (.p (.int .u8 46))), (some (14, false))⟩,
      ⟨(some 18), .pick (.t 14) (.c (.p (.bool true))) (.t 17), none⟩,
      ⟨(some 19), .mov (.t 18), none⟩,
      ⟨(some 20), .mov (.t 0), (some (19, false))⟩,
      ⟨(some 21), .mov (.t 0), (some (19, false))⟩,
      ⟨(some 22), .lens (.t 21), (some (19, false))⟩,
      ⟨(some 23), .bin .sub (.t 22) (.c (.p (.int .i64 1))), (some (19, false))⟩,
      ⟨(some 24), .idxs (.t 20) (.t 23), (some (19, false))⟩,
      ⟨(some 25), .bin .eql (.t 24) (.c (.p (.int .u8 45))), (some (19, false))⟩,
      ⟨(some 26), .pick (.t 19) (.c (.p (.bool true))) (.t 25), none⟩])
    (.cond (.t 26) (.seq (.rg [⟨(some 2), .mov (.c (.p (.bool false))), none⟩,
        ⟨(some 3), .mov (.c (.p (.bool true))), none⟩])
      .ret)
      .skip))
    (.seq (.seq (.rg [⟨(some 27), .mov (.t 0), none⟩,
      ⟨(some 28), .lens (.t 27), none⟩,
      ⟨(some 29), .mov (.c (.p (.int .i64 0))), none⟩])
    (.block 0 (.loop (.seq (.rg [⟨(some 30), .bin .lss (.t 29) (.t 28), none⟩])
      (.seq (.cond (.t 30) .skip
        (.exit 0))
      (.seq (.block 1 (.seq (.rg [⟨(some 31), .mov (.t 29), none⟩,
         ⟨(some 4), .mov (.t 31), none⟩])
       (.seq (.seq (.rg [⟨(some 32), .mov (.t 0), none⟩,
         ⟨(some 33), .mov (.t 4), none⟩,
         ⟨(some 34), .idxs (.t 32) (.t 33), none⟩,
         ⟨(some 35), .bin .gtr (.t 34) (.c (.p (.int .u8 32))), none⟩,
         ⟨(some 36), .mov (.t 35), none⟩,
         ⟨(some 37), .mov (.t 0), (some (36, true))⟩,
         ⟨(some 38), .mov (.t 4), (some (36, true))⟩,
         ⟨(some 39), .idxs (.t 37) (.t 38), (some (36, true))⟩,
         ⟨(some 40), .bin .lss (.t 39) (.c (.p (.int .u8 127))), (some (36, true))⟩,
         ⟨(some 41), .pick (.t 36) (.t 40) (.c (.p (.bool false))), none⟩,
         ⟨(some 42), .mov (.t 41), none⟩,
         ⟨(some 43), .mov (.t 0), (some (42, true))⟩,
         ⟨(some 44), .mov (.t 4), (some (42, true))⟩,
         ⟨(some 45), .idxs (.t 43) (.t 44), (some (42, true))⟩,
         ⟨(some 46), .callr 9 [(.t 45)], (some (42, true))⟩,
         ⟨(some 47), .un .not (.t 46), (some (42, true))⟩,
         ⟨(some 48), .pick (.t 42) (.t 47) (.c (.p (.bool false))), none⟩,
         ⟨(some 49), .mov (.t 48), none⟩,
         ⟨(some 50), .mov (.t 0), (some (49, true))⟩,
         ⟨(some 51), .mov (.t 4), (some (49, true))⟩,
         ⟨(some 52), .idxs (.t 50) (.t 51), (some (49, true))⟩,
         ⟨(some 53), .bin .neq (.t 52) (.c (.p (.int .u8 45))), (some (49, true))⟩,
         ⟨(some 54), .pick (.t 49) (.t 53) (.c (.p (.bool false))), none⟩,
         ⟨(some 55), .mov (.t 54), none⟩,
         ⟨(some 56), .mov (.t 0), (some (55, true))⟩,
         ⟨(some 57), .mov (.t 4), (some (55, true))⟩,
         ⟨(some 58), .idxs (.t 56) (.t 57), (some (55, true))⟩,
         ⟨(some 59), .bin .neq (.t 58) (.c (.p (.int .u8 46))), (some (55, true))⟩,
         ⟨(some 60), .pick (.t 55) (.t 59) (.c (.p (.bool false))), none⟩,
         ⟨(some 61), .mov (.t 60), none⟩,
         ⟨(some 62), .mov (.t 0), (some (61, true))⟩,
         ⟨(some 63), .mov (.t 4), (some (61, true))⟩,
         ⟨(some 64), .idxs (.t 62) (.t 63), (some (61, true))⟩,
         ⟨(some 65), .bin .neq (.t 64) (.c (.p (.int .u8 95))), (some (61, true))⟩,
         ⟨(some 66), .pick (.t 61) (.t 65) (.c (.p (.bool false))), none⟩,
         ⟨(some 67), .mov (.t 66), none⟩,
         ⟨(some 68), .mov (.t 0), (some (67, true))⟩,
         ⟨(some 69), .mov (.t 4), (some (67, true))⟩,
         ⟨(some 70), .idxs (.t 68) (.t 69), (some (67, true))⟩,
         ⟨(some 71), .bin .neq (.t 70) (.c (.p (.int .u8 44))), (some (67, true))⟩,
         ⟨(some 72), .pick (.t 67) (.t 71) (.c (.p (.bool false))), none⟩,
         ⟨(some 73), .mov (.t 72), none⟩,
         ⟨(some 74), .mov (.t 0), (some (73, true))⟩,
         ⟨(some 75), .mov (.t 4), (some (73, true))⟩,
         ⟨(some 76), .idxs (.t 74) (.t 75), (some (73, true))⟩,
         ⟨(some 77), .bin .lss (.t 76) (.c (.p (.int .u8 65))), (some (73, true))⟩,
         ⟨(some 78), .mov (.t 77), (some (73, true))⟩,
         ⟨(some 79), .mov (.t 0), (some (78, false))⟩,
         ⟨(some 80), .mov (.t 4), (some (78, false))⟩,
         ⟨(some 81), .idxs (.t 79) (.t 80), (some (78, false))⟩,
         ⟨(some 82), .bin .gtr (.t 81) (.c (.p (.int .u8 90))), (some (78, false))⟩,
         ⟨(some 83), .pick (.t 78) (.c (.p (.bool true))) (.t 82), (some (73, true))⟩,
         ⟨(some 84), .pick (.t 73) (.t 83) (.c (.p (.bool false))), none⟩])
       (.cond (.t 84) (.seq (.rg [⟨(some 2), .mov (.c (.p (.bool false))), none⟩,
           ⟨(some 3), .mov (.c (.p (.bool true))), none⟩])
         .ret)
         .skip))
       (.seq (.rg [⟨(some 85), .mov (.t 0), none⟩,
         ⟨(some 86), .mov (.t 4), none⟩,
         ⟨(some 87), .idxs (.t 85) (.t 86), none⟩,
         ⟨(some 88), .callr 9 [(.t 87)], none⟩,
         ⟨(some 89), .un .not (.t 88), none⟩,
         ⟨(some 90), .mov (.t 89), none⟩,
         ⟨(some 91), .mov (.t 0), (some (90, true))⟩,
         ⟨(some 92), .mov (.t 4), (some (90, true))⟩,
         ⟨(some 93), .idxs (.t 91) (.t 92), (some (90, true))⟩,
         ⟨(some 94), .bin .neq (.t 93) (.c (.p (.int .u8 45))), (some (90, true))⟩,
         ⟨(some 95), .pick (.t 90) (.t 94) (.c (.p (.bool false))), none⟩,
         ⟨(some 96), .mov (.t 95), none⟩,
         ⟨(some 97), .mov (.t 0), (some (96, true))⟩,
         ⟨(some 98), .mov (.t 4), (some (96, true))⟩,
         ⟨(some 99), .idxs (.t 97) (.t 98), (some (96, true))⟩,
         ⟨(some 100), .bin .neq (.t 99) (.c (.p (.int .u8 46))), (some (96, true))⟩,
         ⟨(some 101), .pick (.t 96) (.t 100) (.c (.p (.bool false))), none⟩])
       (.cond (.t 101) (.seq (.rg [⟨(some 2), .mov (.c (.p (.bool false))), none⟩,
           ⟨(some 3), .mov (.c (.p (.bool false))), none⟩])
         .ret)
         .skip)))))
      (.rg [⟨(some 102), .bin .add (.t 29) (.c (.p (.int .i64 1))), none⟩,
        ⟨(some 29), .mov (.t 102), none⟩])))))))
    (.seq (.seq (.rg [⟨(some 103), .mov (.t 0), none⟩,
      ⟨(some 104), .callr 10 [(.t 103), (.c (.p (.int .u8 46)))], none⟩,
      ⟨(some 105), .lenl (.t 104), none⟩,
      ⟨(some 106), .mov (.c (.p (.int .i64 0))), none⟩])
    (.block 2 (.loop (.seq (.rg [⟨(some 107), .bin .lss (.t 106) (.t 105), none⟩])
      (.seq (.cond (.t 107) .skip
        (.exit 2))
      (.seq (.block 3 (.seq (.rg [⟨(some 108), .iaddr 1 (.t 104) (.t 106), none⟩,
         ⟨(some 109), .load false 1 (.t 108), none⟩,
         ⟨(some 6), .mov (.t 109), none⟩])
       (.seq (.rg [⟨(some 110), .mov (.t 6), none⟩,
         ⟨(some 111), .bin .eql (.t 110) (.c (.p (.string ⟨#[]⟩))), none⟩,
         ⟨(some 112), .mov (.t 111), none⟩,
         ⟨(some 113), .mov (.t 6), (some (112, false))⟩,
         ⟨(some 114), .lens (.t 113), (some (112, false))⟩,
         ⟨(some 115), .bin .gtr (.t 114) (.c (.p (.int .i64 63))), (some (112, false))⟩,
         ⟨(some 116), .pick (.t 112) (.c (.p (.bool true))) (.t 115), none⟩,
         ⟨(some 117), .mov (.t 116), none⟩,
         ⟨(some 118), .mov (.t 6), (some (117, false))⟩,
         ⟨(some 119), .idxs (.t 118) (.c (.p (.int .i64 0))), (some (117, false))⟩,
         ⟨(some 120), .bin .eql (.t 119) (.c (.p (.int .u8 45))), (some (117, false))⟩,
         ⟨(some 121), .pick (.t 117) (.c (.p (.bool true))) (.t 120), none⟩,
         ⟨(some 122), .mov (.t 121), none⟩,
         ⟨(some 123), .mov (.t 6), (some (122, false))⟩,
         ⟨(some 124), .mov (.t 6), (some (122, false))⟩,
         ⟨(some 125), .lens (.t 124), (some (122, false))⟩,
         ⟨(some 126), .bin .sub (.t 125) (.c (.p (.int .i64 1))), (some (122, false))⟩,
         ⟨(some 127), .idxs (.t 123) (.t 126), (some (122, false))⟩,
         ⟨(some 128), .bin .eql (.t 127) (.c (.p (.int .u8 45))), (some (122, false))⟩,
         ⟨(some 129), .pick (.t 122) (.c (.p (.bool true))) (.t 128), none⟩])
       (.cond (.t 129) (.seq (.rg [⟨(some 2), .mov (.c (.p (.bool false))), none⟩,
           ⟨(some 3), .mov (.c (.p (.bool false))), none⟩])
         .ret)
         .skip))))
      (.rg [⟨(some 130), .bin .add (.t 106) (.c (.p (.int .i64 1))), none⟩,
        ⟨(some 106), .mov (.t 130), none⟩])))))))
    (.seq (.rg [⟨(some 131), .mov (.t 0), none⟩,
      ⟨(some 132), .lens (.t 131), none⟩,
      ⟨(some 133), .bin .leq (.t 132) (.c (.p (.int .i64 253))), none⟩,
      ⟨(some 2), .mov (.c (.p (.bool true))), none⟩,
      ⟨(some 3), .mov (.t 133), none⟩])
    .ret)))))
def r5 : List DR := [.tmp 2, .tmp 3]
theorem c5_ok : Tryd.f5.body.bind (cCode Tryd.prog) = some c5 := by kernel_rfl
theorem r5_ok : cRes Tryd.prog Tryd.f5.results.toList = some r5 := by kernel_rfl

/-- given.example/pub-assaymark/impl.DomainOk -/
def c6 : DC :=
  (.seq (.rg [⟨(some 2), .mov (.c (.p (.bool false))), none⟩])
    (.seq (.rg [⟨(some 3), .mov (.t 0), none⟩,
      ⟨(some 4), .callr 11 [(.t 3)], none⟩,
      ⟨(some 2), .mov (.t 4), none⟩])
    .ret))
def r6 : List DR := [.tmp 2]
theorem c6_ok : Tryd.f6.body.bind (cCode Tryd.prog) = some c6 := by kernel_rfl
theorem r6_ok : cRes Tryd.prog Tryd.f6.results.toList = some r6 := by kernel_rfl

/-- given.example/pub-assaymark/spec.small -/
def c9 : DC :=
  (.seq (.rg [⟨(some 2), .mov (.c (.p (.bool false))), none⟩])
    (.seq (.rg [⟨(some 3), .mov (.t 0), none⟩,
      ⟨(some 4), .bin .geq (.t 3) (.c (.p (.int .u8 97))), none⟩,
      ⟨(some 5), .mov (.t 4), none⟩,
      ⟨(some 6), .mov (.t 0), (some (5, true))⟩,
      ⟨(some 7), .bin .leq (.t 6) (.c (.p (.int .u8 122))), (some (5, true))⟩,
      ⟨(some 8), .pick (.t 5) (.t 7) (.c (.p (.bool false))), none⟩,
      ⟨(some 9), .mov (.t 8), none⟩,
      ⟨(some 10), .mov (.t 0), (some (9, false))⟩,
      ⟨(some 11), .bin .geq (.t 10) (.c (.p (.int .u8 48))), (some (9, false))⟩,
      ⟨(some 12), .mov (.t 11), (some (9, false))⟩,
      ⟨(some 13), .mov (.t 0), (some (12, true))⟩,
      ⟨(some 14), .bin .leq (.t 13) (.c (.p (.int .u8 57))), (some (12, true))⟩,
      ⟨(some 15), .pick (.t 12) (.t 14) (.c (.p (.bool false))), (some (9, false))⟩,
      ⟨(some 16), .pick (.t 9) (.c (.p (.bool true))) (.t 15), none⟩,
      ⟨(some 2), .mov (.t 16), none⟩])
    .ret))
def r9 : List DR := [.tmp 2]
theorem c9_ok : Tryd.f9.body.bind (cCode Tryd.prog) = some c9 := by kernel_rfl
theorem r9_ok : cRes Tryd.prog Tryd.f9.results.toList = some r9 := by kernel_rfl

/-- given.example/pub-assaymark/spec.parted -/
def c10 : DC :=
  (.seq (.rg [⟨(some 4), .mov (.c (.p (.slice none 0 0))), none⟩])
    (.seq (.rg [⟨(some 5), .mov (.c (.p (.slice none 0 0))), none⟩])
    (.seq (.rg [⟨(some 6), .mov (.c (.p (.int .i64 0))), none⟩])
    (.seq (.seq (.rg [⟨(some 8), .mov (.t 0), none⟩,
      ⟨(some 9), .lens (.t 8), none⟩,
      ⟨(some 10), .mov (.c (.p (.int .i64 0))), none⟩])
    (.block 0 (.loop (.seq (.rg [⟨(some 11), .bin .lss (.t 10) (.t 9), none⟩])
      (.seq (.cond (.t 11) .skip
        (.exit 0))
      (.seq (.block 1 (.seq (.rg [⟨(some 12), .mov (.t 10), none⟩,
         ⟨(some 7), .mov (.t 12), none⟩])
       (.seq (.rg [⟨(some 13), .mov (.t 0), none⟩,
         ⟨(some 14), .mov (.t 7), none⟩,
         ⟨(some 15), .idxs (.t 13) (.t 14), none⟩,
         ⟨(some 16), .mov (.t 1), none⟩,
         ⟨(some 17), .bin .eql (.t 15) (.t 16), none⟩])
       (.cond (.t 17) (.rg [⟨(some 18), .mov (.t 5), none⟩,
           ⟨(some 19), .mov (.t 0), none⟩,
           ⟨(some 20), .mov (.t 6), none⟩,
           ⟨(some 21), .mov (.t 7), none⟩,
           ⟨(some 22), .slcs (.t 19) (some (.t 20)) (some (.t 21)), none⟩,
           ⟨(some 23), .lit 1 [(.t 22)], none⟩,
           ⟨(some 24), .app 1 16 (.t 18) (.t 23), none⟩,
           ⟨(some 25), .mov (.t 7), none⟩,
           ⟨(some 26), .bin .add (.t 25) (.c (.p (.int .i64 1))), none⟩,
           ⟨(some 5), .mov (.t 24), none⟩,
           ⟨(some 6), .mov (.t 26), none⟩])
         .skip))))
      (.rg [⟨(some 27), .bin .add (.t 10) (.c (.p (.int .i64 1))), none⟩,
        ⟨(some 10), .mov (.t 27), none⟩])))))))
    (.seq (.rg [⟨(some 28), .mov (.t 5), none⟩,
      ⟨(some 29), .mov (.t 0), none⟩,
      ⟨(some 30), .mov (.t 6), none⟩,
      ⟨(some 31), .slcs (.t 29) (some (.t 30)) none, none⟩,
      ⟨(some 32), .lit 1 [(.t 31)], none⟩,
      ⟨(some 33), .app 1 16 (.t 28) (.t 32), none⟩,
      ⟨(some 4), .mov (.t 33), none⟩])
    .ret)))))
def r10 : List DR := [.tmp 4]
theorem c10_ok : Tryd.f10.body.bind (cCode Tryd.prog) = some c10 := by kernel_rfl
theorem r10_ok : cRes Tryd.prog Tryd.f10.results.toList = some r10 := by kernel_rfl

/-- given.example/pub-assaymark/pub/miniogo/pkg/s3utils.IsValidDomain -/
def c11 : DC :=
  (.seq (.rg [⟨(some 2), .mov (.c (.p (.bool false))), none⟩])
    (.seq (.rg [⟨(some 3), .mov (.t 0), none⟩,
      ⟨(some 4), .callr 15 [(.t 3)], none⟩,
      ⟨(some 0), .mov (.t 4), none⟩])
    (.seq (.seq (.rg [⟨(some 5), .mov (.t 0), none⟩,
      ⟨(some 6), .lens (.t 5), none⟩,
      ⟨(some 7), .bin .eql (.t 6) (.c (.p (.int .i64 0))), none⟩,
      ⟨(some 8), .mov (.t 7), none⟩,
      ⟨(some 9), .mov (.t 0), (some (8, false))⟩,
      ⟨(some 10), .lens (.t 9), (some (8, false))⟩,
      ⟨(some 11), .bin .gtr (.t 10) (.c (.p (.int .i64 255))), (some (8, false))⟩,
      ⟨(some 12), .pick (.t 8) (.c (.p (.bool true))) (.t 11), none⟩])
    (.cond (.t 12) (.seq (.rg [⟨(some 2), .mov (.c (.p (.bool false))), none⟩])
      .ret)
      .skip))
    (.seq (.seq (.rg [⟨(some 13), .mov (.t 0), none⟩,
      ⟨(some 14), .mov (.t 0), none⟩,
      ⟨(some 15), .lens (.t 14), none⟩,
      ⟨(some 16), .bin .sub (.t 15) (.c (.p (.int .i64 1))), none⟩,
      ⟨(some 17), .slcs (.t 13) (some (.t 16)) none, none⟩,
      ⟨(some 18), .bin .eql (.t 17) (.c (.p (.string ⟨#[45]⟩))), none⟩,
      ⟨(some 19), .mov (.t 18), none⟩,
      ⟨(some 20), .mov (.t 0), (some (19, false))⟩,
      ⟨(some 21), .slcs (.t 20) none (some (.c (.p (.int .i64 1)))), (some (19, false))⟩,
      ⟨(some 22), .bin .eql (.t 21) (.c (.p (.string ⟨#[45]⟩))), (some (19, false))⟩,
      ⟨(some 23), .pick (.t 19) (.c (.p (.bool true))) (.t 22), none⟩])
    (.cond (.t 23) (.seq (.rg [⟨(some 2), .mov (.c (.p (.bool false))), none⟩])
      .ret)
      .skip))
    (.seq (.seq (.rg [⟨(some 24), .mov (.t 0), none⟩,
      ⟨(some 25), .mov (.t 0), none⟩,
      ⟨(some 26), .lens (.t 25), none⟩,
      ⟨(some 27), .bin .sub (.t 26) (.c (.p (.int .i64 1))), none⟩,
      ⟨(some 28), .slcs (.t 24) (some (.t 27)) none, none⟩,
      ⟨(some 29), .bin .eql (.t 28) (.c (.p (.string ⟨#[95]⟩))), none⟩,
      ⟨(some 30), .mov (.t 29), none⟩,
      ⟨(some 31), .mov (.t 0), (some (30, false))⟩,
      ⟨(some 32), .slcs (.t 31) none (some (.c (.p (.int .i64 1)))), (some (30, false))⟩,
      ⟨(some 33), .bin .eql (.t 32) (.c (.p (.string ⟨#[95]⟩))), (some (30, false))⟩,
      ⟨(some 34), .pick (.t 30) (.c (.p (.bool true))) (.t 33), none⟩])
    (.cond (.t 34) (.seq (.rg [⟨(some 2), .mov (.c (.p (.bool false))), none⟩])
      .ret)
      .skip))
    (.seq (.seq (.rg [⟨(some 35), .mov (.t 0), none⟩,
      ⟨(some 36), .slcs (.t 35) none (some (.c (.p (.int .i64 1)))), none⟩,
      ⟨(some 37), .bin .eql (.t 36) (.c (.p (.string ⟨#[46]⟩))), none⟩])
    (.cond (.t 37) (.seq (.rg [⟨(some 2), .mov (.c (.p (.bool false))), none⟩])
      .ret)
      .skip))
    (.seq (.seq (.rg [⟨(some 38), .mov (.t 0), none⟩,
      ⟨(some 39), .callr 16 [(.t 38), (.c (.p (.string ⟨#[96, 126, 33, 64, 35, 36, 37, 94, 38, 42, 40, 41, 43, 61, 123, 125, 91, 93, 124, 92, 34, 39, 59, 58, 62, 60, 63, 47]⟩)))], none⟩])
    (.cond (.t 39) (.seq (.rg [⟨(some 2), .mov (.c (.p (.bool false))), none⟩])
      .ret)
      .skip))
    (.seq (.rg [⟨(some 2), .mov (.c (.p (.bool true))), none⟩])
    .ret))))))))
def r11 : List DR := [.tmp 2]
theorem c11_ok : Tryd.f11.body.bind (cCode Tryd.prog) = some c11 := by kernel_rfl
theorem r11_ok : cRes Tryd.prog Tryd.f11.results.toList = some r11 := by kernel_rfl

/-- given.example/pub-assaymark/pub/zztext.TrimSpace -/
def c15 : DC :=
  (.seq (.rg [⟨(some 2), .mov (.c (.p (.string ⟨#[]⟩))), none⟩])
    (.seq (.block 0 (.loop (.seq (.seq (.rg [⟨(some 7), .mov (.t 0), none⟩,
        ⟨(some 8), .lens (.t 7), none⟩,
        ⟨(some 9), .bin .gtr (.t 8) (.c (.p (.int .i64 0))), none⟩])
      (.cond (.t 9) .skip
        (.exit 0)))
      (.block 1 (.seq (.rg [⟨(some 11), .mov (.t 0), none⟩,
         ⟨(some 12), .callr 19 [(.t 11)], none⟩,
         ⟨(some 10), .mov (.t 12), none⟩,
         ⟨(some 13), .ext (.t 10) 0, none⟩,
         ⟨(some 14), .ext (.t 10) 1, none⟩,
         ⟨(some 3), .mov (.t 13), none⟩,
         ⟨(some 4), .mov (.t 14), none⟩])
       (.seq (.seq (.rg [⟨(some 15), .mov (.t 3), none⟩,
         ⟨(some 16), .callr 20 [(.t 15)], none⟩,
         ⟨(some 17), .un .not (.t 16), none⟩])
       (.cond (.t 17) (.exit 0)
         .skip))
       (.rg [⟨(some 18), .mov (.t 0), none⟩,
         ⟨(some 19), .mov (.t 4), none⟩,
         ⟨(some 20), .slcs (.t 18) (some (.t 19)) none, none⟩,
         ⟨(some 0), .mov (.t 20), none⟩])))))))
    (.seq (.block 2 (.loop (.seq (.seq (.rg [⟨(some 21), .mov (.t 0), none⟩,
        ⟨(some 22), .lens (.t 21), none⟩,
        ⟨(some 23), .bin .gtr (.t 22) (.c (.p (.int .i64 0))), none⟩])
      (.cond (.t 23) .skip
        (.exit 2)))
      (.block 3 (.seq (.rg [⟨(some 25), .mov (.t 0), none⟩,
         ⟨(some 26), .callr 21 [(.t 25)], none⟩,
         ⟨(some 24), .mov (.t 26), none⟩,
         ⟨(some 27), .ext (.t 24) 0, none⟩,
         ⟨(some 28), .ext (.t 24) 1, none⟩,
         ⟨(some 5), .mov (.t 27), none⟩,
         ⟨(some 6), .mov (.t 28), none⟩])
       (.seq (.seq (.rg [⟨(some 29), .mov (.t 5), none⟩,
         ⟨(some 30), .callr 20 [(.t 29)], none⟩,
         ⟨(some 31), .un .not (.t 30), none⟩])
       (.cond (.t 31) (.exit 2)
         .skip))
       (.rg [⟨(some 32), .mov (.t 0), none⟩,
         ⟨(some 33), .mov (.t 0), none⟩,
         ⟨(some 34), .lens (.t 33), none⟩,
         ⟨(some 35), .mov (.t 6), none⟩,
         ⟨(some 36), .bin .sub (.t 34) (.t 35), none⟩,
         ⟨(some 37), .slcs (.t 32) none (some (.t 36)), none⟩,
         ⟨(some 0), .mov (.t 37), none⟩])))))))
    (.seq (.rg [⟨(some 38), .mov (.t 0), none⟩,
      ⟨(some 2), .mov (.t 38), none⟩])
    .ret))))
def r15 : List DR := [.tmp 2]
theorem c15_ok : Tryd.f15.body.bind (cCode Tryd.prog) = some c15 := by kernel_rfl
theorem r15_ok : cRes Tryd.prog Tryd.f15.results.toList = some r15 := by kernel_rfl

/-- given.example/pub-assaymark/pub/miniogo/pkg/s3utils.zzContainsAny -/
def c16 : DC :=
  (.seq (.rg [⟨(some 4), .mov (.c (.p (.bool false))), none⟩])
    (.seq (.rg [⟨(some 5), .mov (.t 0), none⟩,
      ⟨(some 6), .mov (.t 1), none⟩,
      ⟨(some 7), .callr 22 [(.t 5), (.t 6)], none⟩,
      ⟨(some 8), .bin .geq (.t 7) (.c (.p (.int .i64 0))), none⟩,
      ⟨(some 4), .mov (.t 8), none⟩])
    .ret))
def r16 : List DR := [.tmp 4]
theorem c16_ok : Tryd.f16.body.bind (cCode Tryd.prog) = some c16 := by kernel_rfl
theorem r16_ok : cRes Tryd.prog Tryd.f16.results.toList = some r16 := by kernel_rfl

/-- unicode/utf8.DecodeRuneInString -/
def c19 : DC :=
  (.seq (.rg [⟨(some 2), .mov (.c (.p (.int .i32 0))), none⟩,
      ⟨(some 3), .mov (.c (.p (.int .i64 0))), none⟩])
    (.seq (.seq (.rg [⟨(some 4), .mov (.t 0), none⟩,
      ⟨(some 5), .bin .neq (.t 4) (.c (.p (.string ⟨#[]⟩))), none⟩,
      ⟨(some 6), .mov (.t 5), none⟩,
      ⟨(some 7), .mov (.t 0), (some (6, true))⟩,
      ⟨(some 8), .idxs (.t 7) (.c (.p (.int .i64 0))), (some (6, true))⟩,
      ⟨(some 9), .bin .lss (.t 8) (.c (.p (.int .u8 128))), (some (6, true))⟩,
      ⟨(some 10), .pick (.t 6) (.t 9) (.c (.p (.bool false))), none⟩])
    (.cond (.t 10) (.seq (.rg [⟨(some 11), .mov (.t 0), none⟩,
        ⟨(some 12), .idxs (.t 11) (.c (.p (.int .i64 0))), none⟩,
        ⟨(some 13), .cint .i32 (.t 12), none⟩,
        ⟨(some 2), .mov (.t 13), none⟩,
        ⟨(some 3), .mov (.c (.p (.int .i64 1))), none⟩])
      .ret)
      (.rg [⟨(some 15), .mov (.t 0), none⟩,
        ⟨(some 16), .callr 23 [(.t 15)], none⟩,
        ⟨(some 14), .mov (.t 16), none⟩,
        ⟨(some 17), .ext (.t 14) 0, none⟩,
        ⟨(some 18), .ext (.t 14) 1, none⟩,
        ⟨(some 2), .mov (.t 17), none⟩,
        ⟨(some 3), .mov (.t 18), none⟩])))
    .ret))
def r19 : List DR := [.tmp 2, .tmp 3]
theorem c19_ok : Tryd.f19.body.bind (cCode Tryd.prog) = some c19 := by kernel_rfl
theorem r19_ok : cRes Tryd.prog Tryd.f19.results.toList = some r19 := by kernel_rfl

/-- given.example/pub-assaymark/pub/zztext.space -/
def c20 : DC :=
  (.seq (.rg [⟨(some 2), .mov (.c (.p (.bool false))), none⟩])
    (.seq (.seq (.rg [⟨(some 3), .mov (.t 0), none⟩])
    (.block 0 (.seq (.seq (.rg [⟨(some 5), .bin .eql (.t 3) (.c (.p (.int .i32 9))), none⟩,
       ⟨(some 4), .mov (.t 5), none⟩])
     (.cond (.t 4) .skip
       (.seq (.rg [⟨(some 6), .bin .eql (.t 3) (.c (.p (.int .i32 10))), none⟩,
         ⟨(some 4), .mov (.t 6), none⟩])
       (.cond (.t 4) .skip
         (.seq (.rg [⟨(some 7), .bin .eql (.t 3) (.c (.p (.int .i32 11))), none⟩,
           ⟨(some 4), .mov (.t 7), none⟩])
         (.cond (.t 4) .skip
           (.seq (.rg [⟨(some 8), .bin .eql (.t 3) (.c (.p (.int .i32 12))), none⟩,
             ⟨(some 4), .mov (.t 8), none⟩])
           (.cond (.t 4) .skip
             (.seq (.rg [⟨(some 9), .bin .eql (.t 3) (.c (.p (.int .i32 13))), none⟩,
               ⟨(some 4), .mov (.t 9), none⟩])
             (.cond (.t 4) .skip
               (.seq (.rg [⟨(some 10), .bin .eql (.t 3) (.c (.p (.int .i32 32))), none⟩,
                 ⟨(some 4), .mov (.t 10), none⟩])
               (.cond (.t 4) .skip
                 (.seq (.rg [⟨(some 11), .bin .eql (.t 3) (.c (.p (.int .i32 133))), none⟩,
                   ⟨(some 4), .mov (.t 11), none⟩])
                 (.cond (.t 4) .skip
                   (.seq (.rg [⟨(some 12), .bin .eql (.t 3) (.c (.p (.int .i32 160))), none⟩,
                     ⟨(some 4), .mov (.t 12), none⟩])
                   (.cond (.t 4) .skip
                     (.seq (.rg [⟨(some 13), .bin .eql (.t 3) (.c (.p (.int .i32 5760))), none⟩,
                       ⟨(some 4), .mov (.t 13), none⟩])
                     (.cond (.t 4) .skip
                       (.seq (.rg [⟨(some 14), .bin .eql (.t 3) (.c (.p (.int .i32 8232))), none⟩,
                         ⟨(some 4), .mov (.t 14), none⟩])
                       (.cond (.t 4) .skip
                         (.seq (.rg [⟨(some 15), .bin .eql (.t 3) (.c (.p (.int .i32 8233))), none⟩,
                           ⟨(some 4), .mov (.t 15), none⟩])
                         (.cond (.t 4) .skip
                           (.seq (.rg [⟨(some 16), .bin .eql (.t 3) (.c (.p (.int .i32 8239))), none⟩,
                             ⟨(some 4), .mov (.t 16), none⟩])
                           (.cond (.t 4) .skip
                             (.seq (.rg [⟨(some 17), .bin .eql (.t 3) (.c (.p (.int .i32 8287))), none⟩,
                               ⟨(some 4), .mov (.t 17), none⟩])
                             (.cond (.t 4) .skip
                               (.rg [⟨(some 18), .bin .eql (.t 3) (.c (.p (.int .i32 12288))), none⟩,
                                 ⟨(some 4), .mov (.t 18), none⟩])))))))))))))))))))))))))))
     (.cond (.t 4) (.seq (.rg [⟨(some 2), .mov (.c (.p (.bool true))), none⟩])
       .ret)
       .skip))))
    (.seq (.rg [⟨(some 19), .mov (.t 0), none⟩,
      ⟨(some 20), .bin .geq (.t 19) (.c (.p (.int .i32 8192))), none⟩,
      ⟨(some 21), .mov (.t 20), none⟩,
      ⟨(some 22), .mov (.t 0), (some (21, true))⟩,
      ⟨(some 23), .bin .leq (.t 22) (.c (.p (.int .i32 8202))), (some (21, true))⟩,
      ⟨(some 24), .pick (.t 21) (.t 23) (.c (.p (.bool false))), none⟩,
      ⟨(some 2), .mov (.t 24), none⟩])
    .ret)))
def r20 : List DR := [.tmp 2]
theorem c20_ok : Tryd.f20.body.bind (cCode Tryd.prog) = some c20 := by kernel_rfl
theorem r20_ok : cRes Tryd.prog Tryd.f20.results.toList = some r20 := by kernel_rfl

/-- unicode/utf8.DecodeLastRuneInString -/
def c21 : DC :=
  (.seq (.rg [⟨(some 2), .mov (.c (.p (.int .i32 0))), none⟩,
      ⟨(some 3), .mov (.c (.p (.int .i64 0))), none⟩])
    (.seq (.rg [⟨(some 7), .mov (.t 0), none⟩,
      ⟨(some 8), .lens (.t 7), none⟩,
      ⟨(some 4), .mov (.t 8), none⟩])
    (.seq (.seq (.rg [⟨(some 9), .mov (.t 4), none⟩,
      ⟨(some 10), .bin .eql (.t 9) (.c (.p (.int .i64 0))), none⟩])
    (.cond (.t 10) (.seq (.rg [⟨(some 2), .mov (.c (.p (.int .i32 65533))), none⟩,
        ⟨(some 3), .mov (.c (.p (.int .i64 0))), none⟩])
      .ret)
      .skip))
    (.seq (.rg [⟨(some 11), .mov (.t 4), none⟩,
      ⟨(some 12), .bin .sub (.t 11) (.c (.p (.int .i64 1))), none⟩,
      ⟨(some 5), .mov (.t 12), none⟩])
    (.seq (.rg [⟨(some 13), .mov (.t 0), none⟩,
      ⟨(some 14), .mov (.t 5), none⟩,
      ⟨(some 15), .idxs (.t 13) (.t 14), none⟩,
      ⟨(some 16), .cint .i32 (.t 15), none⟩,
      ⟨(some 2), .mov (.t 16), none⟩])
    (.seq (.seq (.rg [⟨(some 17), .mov (.t 2), none⟩,
      ⟨(some 18), .bin .lss (.t 17) (.c (.p (.int .i32 128))), none⟩])
    (.cond (.t 18) (.seq (.rg [⟨(some 19), .mov (.t 2), none⟩,
        ⟨(some 2), .mov (.t 19), none⟩,
        ⟨(some 3), .mov (.c (.p (.int .i64 1))), none⟩])
      .ret)
      .skip))
    (.seq (.rg [⟨(some 20), .mov (.t 4), none⟩,
      ⟨(some 21), .bin .sub (.t 20) (.c (.p (.int .i64 4))), none⟩,
      ⟨(some 22), .mm true (.t 21) (.c (.p (.int .i64 0))), none⟩,
      ⟨(some 6), .mov (.t 22), none⟩])
    (.seq (.seq (.rg [⟨(some 23), .mov (.t 5), none⟩,
      ⟨(some 24), .bin .sub (.t 23) (.c (.p (.int .i64 1))), none⟩,
      ⟨(some 5), .mov (.t 24), none⟩])
    (.block 0 (.loop (.seq (.seq (.rg [⟨(some 25), .mov (.t 5), none⟩,
        ⟨(some 26), .mov (.t 6), none⟩,
        ⟨(some 27), .bin .geq (.t 25) (.t 26), none⟩])
      (.cond (.t 27) .skip
        (.exit 0)))
      (.seq (.block 1 (.seq (.rg [⟨(some 30), .mov (.t 0), none⟩,
         ⟨(some 31), .mov (.t 5), none⟩,
         ⟨(some 32), .idxs (.t 30) (.t 31), none⟩,
         ⟨(some 33), .callr 24 [(.t 32)], none⟩])
       (.cond (.t 33) (.exit 0)
         .skip)))
      (.rg [⟨(some 28), .mov (.t 5), none⟩,
        ⟨(some 29), .bin .sub (.t 28) (.c (.p (.int .i64 1))), none⟩,
        ⟨(some 5), .mov (.t 29), none⟩]))))))
    (.seq (.seq (.rg [⟨(some 34), .mov (.t 5), none⟩,
      ⟨(some 35), .bin .lss (.t 34) (.c (.p (.int .i64 0))), none⟩])
    (.cond (.t 35) (.rg [⟨(some 5), .mov (.c (.p (.int .i64 0))), none⟩])
      .skip))
    (.seq (.rg [⟨(some 37), .mov (.t 0), none⟩,
      ⟨(some 38), .mov (.t 5), none⟩,
      ⟨(some 39), .mov (.t 4), none⟩,
      ⟨(some 40), .slcs (.t 37) (some (.t 38)) (some (.t 39)), none⟩,
      ⟨(some 41), .callr 19 [(.t 40)], none⟩,
      ⟨(some 36), .mov (.t 41), none⟩,
      ⟨(some 42), .ext (.t 36) 0, none⟩,
      ⟨(some 43), .ext (.t 36) 1, none⟩,
      ⟨(some 2), .mov (.t 42), none⟩,
      ⟨(some 3), .mov (.t 43), none⟩])
    (.seq (.seq (.rg [⟨(some 44), .mov (.t 5), none⟩,
      ⟨(some 45), .mov (.t 3), none⟩,
      ⟨(some 46), .bin .add (.t 44) (.t 45), none⟩,
      ⟨(some 47), .mov (.t 4), none⟩,
      ⟨(some 48), .bin .neq (.t 46) (.t 47), none⟩])
    (.cond (.t 48) (.seq (.rg [⟨(some 2), .mov (.c (.p (.int .i32 65533))), none⟩,
        ⟨(some 3), .mov (.c (.p (.int .i64 1))), none⟩])
      .ret)
      .skip))
    (.seq (.rg [⟨(some 49), .mov (.t 2), none⟩,
      ⟨(some 50), .mov (.t 3), none⟩,
      ⟨(some 2), .mov (.t 49), none⟩,
      ⟨(some 3), .mov (.t 50), none⟩])
    .ret))))))))))))
def r21 : List DR := [.tmp 2, .tmp 3]
theorem c21_ok : Tryd.f21.body.bind (cCode Tryd.prog) = some c21 := by kernel_rfl
theorem r21_ok : cRes Tryd.prog Tryd.f21.results.toList = some r21 := by kernel_rfl

/-- given.example/pub-assaymark/pub/miniogo/pkg/s3utils.zzIndexAny -/
def c22 : DC :=
  (.seq (.rg [⟨(some 4), .mov (.c (.p (.int .i64 0))), none⟩])
    (.seq (.seq (.rg [⟨(some 9), .mov (.t 0), none⟩,
      ⟨(some 10), .rngs (.t 9), none⟩])
    (.block 0 (.loop (.seq (.rg [⟨(some 11), .nxts (.t 10), none⟩,
        ⟨(some 12), .ext (.t 11) 0, none⟩])
      (.seq (.cond (.t 12) .skip
        (.exit 0))
      (.block 1 (.seq (.rg [⟨(some 13), .ext (.t 11) 1, none⟩,
         ⟨(some 14), .ext (.t 11) 2, none⟩,
         ⟨(some 5), .mov (.t 13), none⟩,
         ⟨(some 6), .mov (.t 14), none⟩])
       (.seq (.rg [⟨(some 15), .mov (.t 1), none⟩,
         ⟨(some 16), .rngs (.t 15), none⟩])
       (.block 2 (.loop (.seq (.rg [⟨(some 17), .nxts (.t 16), none⟩,
           ⟨(some 18), .ext (.t 17) 0, none⟩])
         (.seq (.cond (.t 18) .skip
           (.exit 2))
         (.block 3 (.seq (.rg [⟨(some 19), .ext (.t 17) 2, none⟩,
            ⟨(some 8), .mov (.t 19), none⟩])
          (.seq (.rg [⟨(some 20), .mov (.t 6), none⟩,
            ⟨(some 21), .mov (.t 8), none⟩,
            ⟨(some 22), .bin .eql (.t 20) (.t 21), none⟩])
          (.cond (.t 22) (.seq (.rg [⟨(some 23), .mov (.t 5), none⟩,
              ⟨(some 4), .mov (.t 23), none⟩])
            .ret)
            .skip))))))))))))))))
    (.seq (.rg [⟨(some 4), .mov (.c (.p (.int .i64 (-1)))), none⟩])
    .ret)))
def r22 : List DR := [.tmp 4]
theorem c22_ok : Tryd.f22.body.bind (cCode Tryd.prog) = some c22 := by kernel_rfl
theorem r22_ok : cRes Tryd.prog Tryd.f22.results.toList = some r22 := by kernel_rfl

/-- unicode/utf8.decodeRuneInStringSlow -/
def c23 : DC :=
  (.seq (.rg [⟨(some 2), .mov (.c (.p (.int .i32 0))), none⟩,
      ⟨(some 3), .mov (.c (.p (.int .i64 0))), none⟩])
    (.seq (.rg [⟨(some 13), .mov (.t 0), none⟩,
      ⟨(some 14), .lens (.t 13), none⟩,
      ⟨(some 4), .mov (.t 14), none⟩])
    (.seq (.seq (.rg [⟨(some 15), .mov (.t 4), none⟩,
      ⟨(some 16), .bin .lss (.t 15) (.c (.p (.int .i64 1))), none⟩])
    (.cond (.t 16) (.seq (.rg [⟨(some 2), .mov (.c (.p (.int .i32 65533))), none⟩,
        ⟨(some 3), .mov (.c (.p (.int .i64 0))), none⟩])
      .ret)
      .skip))
    (.seq (.rg [⟨(some 17), .mov (.t 0), none⟩,
      ⟨(some 18), .idxs (.t 17) (.c (.p (.int .i64 0))), none⟩,
      ⟨(some 5), .mov (.t 18), none⟩])
    (.seq (.rg [⟨(some 19), .mov (.t 5), none⟩,
      ⟨(some 20), .iaddra 256 1 false (.g 0) (.t 19), none⟩,
      ⟨(some 21), .load false 1 (.t 20), none⟩,
      ⟨(some 6), .mov (.t 21), none⟩])
    (.seq (.seq (.rg [⟨(some 22), .mov (.t 6), none⟩,
      ⟨(some 23), .bin .geq (.t 22) (.c (.p (.int .u8 240))), none⟩])
    (.cond (.t 23) (.seq (.rg [⟨(some 24), .mov (.t 6), none⟩,
        ⟨(some 25), .cint .i32 (.t 24), none⟩,
        ⟨(some 26), .bin .shl (.t 25) (.c (.p (.int .u64 31))), none⟩,
        ⟨(some 27), .bin .shr (.t 26) (.c (.p (.int .u64 31))), none⟩,
        ⟨(some 7), .mov (.t 27), none⟩])
      (.seq (.rg [⟨(some 28), .mov (.t 0), none⟩,
        ⟨(some 29), .idxs (.t 28) (.c (.p (.int .i64 0))), none⟩,
        ⟨(some 30), .cint .i32 (.t 29), none⟩,
        ⟨(some 31), .mov (.t 7), none⟩,
        ⟨(some 32), .bin .andNot (.t 30) (.t 31), none⟩,
        ⟨(some 33), .mov (.t 7), none⟩,
        ⟨(some 34), .bin .and (.c (.p (.int .i32 65533))) (.t 33), none⟩,
        ⟨(some 35), .bin .or (.t 32) (.t 34), none⟩,
        ⟨(some 2), .mov (.t 35), none⟩,
        ⟨(some 3), .mov (.c (.p (.int .i64 1))), none⟩])
      .ret))
      .skip))
    (.seq (.rg [⟨(some 36), .mov (.t 6), none⟩,
      ⟨(some 37), .bin .and (.t 36) (.c (.p (.int .u8 7))), none⟩,
      ⟨(some 38), .cint .i64 (.t 37), none⟩,
      ⟨(some 8), .mov (.t 38), none⟩])
    (.seq (.rg [⟨(some 39), .mov (.t 6), none⟩,
      ⟨(some 40), .bin .shr (.t 39) (.c (.p (.int .u64 4))), none⟩,
      ⟨(some 41), .iaddra 16 2 true (.g 1) (.t 40), none⟩,
      ⟨(some 42), .load true 2 (.t 41), none⟩,
      ⟨(some 9), .alloc 2 (.agg [.p (.int .u8 0), .p (.int .u8 0)]), none⟩,
      ⟨none, .store 2 (.t 9) (.t 42), none⟩])
    (.seq (.seq (.rg [⟨(some 43), .mov (.t 4), none⟩,
      ⟨(some 44), .mov (.t 8), none⟩,
      ⟨(some 45), .bin .lss (.t 43) (.t 44), none⟩])
    (.cond (.t 45) (.seq (.rg [⟨(some 2), .mov (.c (.p (.int .i32 65533))), none⟩,
        ⟨(some 3), .mov (.c (.p (.int .i64 1))), none⟩])
      .ret)
      .skip))
    (.seq (.rg [⟨(some 46), .mov (.t 0), none⟩,
      ⟨(some 47), .idxs (.t 46) (.c (.p (.int .i64 1))), none⟩,
      ⟨(some 10), .mov (.t 47), none⟩])
    (.seq (.seq (.rg [⟨(some 48), .mov (.t 10), none⟩,
      ⟨(some 49), .faddr false 0 1 (.t 9), none⟩,
      ⟨(some 50), .load false 1 (.t 49), none⟩,
      ⟨(some 51), .bin .lss (.t 48) (.t 50), none⟩,
      ⟨(some 52), .mov (.t 51), none⟩,
      ⟨(some 53), .faddr false 1 1 (.t 9), (some (52, false))⟩,
      ⟨(some 54), .load false 1 (.t 53), (some (52, false))⟩,
      ⟨(some 55), .mov (.t 10), (some (52, false))⟩,
      ⟨(some 56), .bin .lss (.t 54) (.t 55), (some (52, false))⟩,
      ⟨(some 57), .pick (.t 52) (.c (.p (.bool true))) (.t 56), none⟩])
    (.cond (.t 57) (.seq (.rg [⟨(some 2), .mov (.c (.p (.int .i32 65533))), none⟩,
        ⟨(some 3), .mov (.c (.p (.int .i64 1))), none⟩])
      .ret)
      .skip))
    (.seq (.seq (.rg [⟨(some 58), .mov (.t 8), none⟩,
      ⟨(some 59), .bin .leq (.t 58) (.c (.p (.int .i64 2))), none⟩])
    (.cond (.t 59) (.seq (.rg [⟨(some 60), .mov (.t 5), none⟩,
        ⟨(some 61), .bin .and (.t 60) (.c (.p (.int .u8 31))), none⟩,
        ⟨(some 62), .cint .i32 (.t 61), none⟩,
        ⟨(some 63), .bin .shl (.t 62) (.c (.p (.int .u64 6))), none⟩,
        ⟨(some 64), .mov (.t 10), none⟩,
        ⟨(some 65), .bin .and (.t 64) (.c (.p (.int .u8 63))), none⟩,
        ⟨(some 66), .cint .i32 (.t 65), none⟩,
        ⟨(some 67), .bin .or (.t 63) (.t 66), none⟩,
        ⟨(some 2), .mov (.t 67), none⟩,
        ⟨(some 3), .mov (.c (.p (.int .i64 2))), none⟩])
      .ret)
      .skip))
    (.seq (.rg [⟨(some 68), .mov (.t 0), none⟩,
      ⟨(some 69), .idxs (.t 68) (.c (.p (.int .i64 2))), none⟩,
      ⟨(some 11), .mov (.t 69), none⟩])
    (.seq (.seq (.rg [⟨(some 70), .mov (.t 11), none⟩,
      ⟨(some 71), .bin .lss (.t 70) (.c (.p (.int .u8 128))), none⟩,
      ⟨(some 72), .mov (.t 71), none⟩,
      ⟨(some 73), .mov (.t 11), (some (72, false))⟩,
      ⟨(some 74), .bin .lss (.c (.p (.int .u8 191))) (.t 73), (some (72, false))⟩,
      ⟨(some 75), .pick (.t 72) (.c (.p (.bool true))) (.t 74), none⟩])
    (.cond (.t 75) (.seq (.rg [⟨(some 2), .mov (.c (.p (.int .i32 65533))), none⟩,
        ⟨(some 3), .mov (.c (.p (.int .i64 1))), none⟩])
      .ret)
      .skip))
    (.seq (.seq (.rg [⟨(some 76), .mov (.t 8), none⟩,
      ⟨(some 77), .bin .leq (.t 76) (.c (.p (.int .i64 3))), none⟩])
    (.cond (.t 77) (.seq (.rg [⟨(some 78), .mov (.t 5), none⟩,
        ⟨(some 79), .bin .and (.t 78) (.c (.p (.int .u8 15))), none⟩,
        ⟨(some 80), .cint .i32 (.t 79), none⟩,
        ⟨(some 81), .bin .shl (.t 80) (.c (.p (.int .u64 12))), none⟩,
        ⟨(some 82), .mov (.t 10), none⟩,
        ⟨(some 83), .bin .and (.t 82) (.c (.p (.int .u8 63))), none⟩,
        ⟨(some 84), .cint .i32 (.t 83), none⟩,
        ⟨(some 85), .bin .shl (.t 84) (.c (.p (.int .u64 6))), none⟩,
        ⟨(some 86), .bin .or (.t 81) (.t 85), none⟩,
        ⟨(some 87), .mov (.t 11), none⟩,
        ⟨(some 88), .bin .and (.t 87) (.c (.p (.int .u8 63))), none⟩,
        ⟨(some 89), .cint .i32 (.t 88), none⟩,
        ⟨(some 90), .bin .or (.t 86) (.t 89), none⟩,
        ⟨(some 2), .mov (.t 90), none⟩,
        ⟨(some 3), .mov (.c (.p (.int .i64 3))), none⟩])
      .ret)
      .skip))
    (.seq (.rg [⟨(some 91), .mov (.t 0), none⟩,
      ⟨(some 92), .idxs (.t 91) (.c (.p (.int .i64 3))), none⟩,
      ⟨(some 12), .mov (.t 92), none⟩])
    (.seq (.seq (.rg [⟨(some 93), .mov (.t 12), none⟩,
      ⟨(some 94), .bin .lss (.t 93) (.c (.p (.int .u8 128))), none⟩,
      ⟨(some 95), .mov (.t 94), none⟩,
      ⟨(some 96), .mov (.t 12), (some (95, false))⟩,
      ⟨(some 97), .bin .lss (.c (.p (.int .u8 191))) (.t 96), (some (95, false))⟩,
      ⟨(some 98), .pick (.t 95) (.c (.p (.bool true))) (.t 97), none⟩])
    (.cond (.t 98) (.seq (.rg [⟨(some 2), .mov (.c (.p (.int .i32 65533))), none⟩,
        ⟨(some 3), .mov (.c (.p (.int .i64 1))), none⟩])
      .ret)
      .skip))
    (.seq (.rg [⟨(some 99), .mov (.t 5), none⟩,
      ⟨(some 100), .bin .and (.t 99) (.c (.p (.int .u8 7))), none⟩,
      ⟨(some 101), .cint .i32 (.t 100), none⟩,
      ⟨(some 102), .bin .shl (.t 101) (.c (.p (.int .u64 18))), none⟩,
      ⟨(some 103), .mov (.t 10), none⟩,
      ⟨(some 104), .bin .and (.t 103) (.c (.p (.int .u8 63))), none⟩,
      ⟨(some 105), .cint .i32 (.t 104), none⟩,
      ⟨(some 106), .bin .shl (.t 105) (.c (.p (.int .u64 12))), none⟩,
      ⟨(some 107), .bin .or (.t 102) (.t 106), none⟩,
      ⟨(some 108), .mov (.t 11), none⟩,
      ⟨(some 109), .bin .and (.t 108) (.c (.p (.int .u8 63))), none⟩,
      ⟨(some 110), .cint .i32 (.t 109), none⟩,
      ⟨(some 111), .bin .shl (.t 110) (.c (.p (.int .u64 6))), none⟩,
      ⟨(some 112), .bin .or (.t 107) (.t 111), none⟩,
      ⟨(some 113), .mov (.t 12), none⟩,
      ⟨(some 114), .bin .and (.t 113) (.c (.p (.int .u8 63))), none⟩,
      ⟨(some 115), .cint .i32 (.t 114), none⟩,
      ⟨(some 116), .bin .or (.t 112) (.t 115), none⟩,
      ⟨(some 2), .mov (.t 116), none⟩,
      ⟨(some 3), .mov (.c (.p (.int .i64 4))), none⟩])
    .ret))))))))))))))))))
def r23 : List DR := [.tmp 2, .tmp 3]
theorem c23_ok : Tryd.f23.body.bind (cCode Tryd.prog) = some c23 := by kernel_rfl
theorem r23_ok : cRes Tryd.prog Tryd.f23.results.toList = some r23 := by kernel_rfl

/-- unicode/utf8.RuneStart -/
def c24 : DC :=
  (.seq (.rg [⟨(some 2), .mov (.c (.p (.bool false))), none⟩])
    (.seq (.rg [⟨(some 3), .mov (.t 0), none⟩,
      ⟨(some 4), .bin .and (.t 3) (.c (.p (.int .u8 192))), none⟩,
      ⟨(some 5), .bin .neq (.t 4) (.c (.p (.int .u8 128))), none⟩,
      ⟨(some 2), .mov (.t 5), none⟩])
    .ret))
def r24 : List DR := [.tmp 2]
theorem c24_ok : Tryd.f24.body.bind (cCode Tryd.prog) = some c24 := by kernel_rfl
theorem r24_ok : cRes Tryd.prog Tryd.f24.results.toList = some r24 := by kernel_rfl

end Go.Proofs.YtbbafeocmchlnaaDoor
