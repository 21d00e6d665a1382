/- The codes of the functions, in the small language of Den. -/
import Derived.Test.YtbbafeocmchlnaaDenXd
import Derived.Test.YtbbafeocmchlnaaProg
set_option linter.unusedVariables false
set_option linter.unusedSimpArgs false
set_option maxRecDepth 100000
namespace Go.Proofs.Ytbbafeocmchlnaa
open Go Go.Den Go.Proofs

/-- given.example/pub-assaymark/laws.FnSumKind -/
def c11 : DC :=
  (.seq (.rg [⟨(some 4), .mov (.c (.p (.bool false))), none⟩])
    (.seq (.rg [⟨(some 7), .mov (.t 0), none⟩,
      ⟨(some 8), .bin .rem (.t 7) (.c (.p (.int .u8 10))), none⟩,
      ⟨(some 9), .cint .i64 (.t 8), none⟩,
      ⟨(some 5), .mov (.t 9), none⟩])
    (.seq (.rg [⟨(some 10), .mov (.t 5), none⟩,
      ⟨(some 11), .mov (.t 1), none⟩,
      ⟨(some 12), .callr 41 [(.t 10), (.t 11)], none⟩,
      ⟨(some 6), .alloc 9 (.agg [.p (.string ⟨#[]⟩), .p (.string ⟨#[]⟩), .p (.string ⟨#[]⟩), .p (.int .i64 0), .p (.bool false), .p (.bool false), .p (.bool false), .p (.bool false), .p (.bool false)]), none⟩,
      ⟨none, .store 9 (.t 6) (.t 12), none⟩])
    (.seq (.seq (.rgd [⟨⟨(some 13), .faddr false 3 1 (.t 6), none⟩, 0, [0]⟩,
      ⟨⟨(some 14), .load false 1 (.t 13), none⟩, 0, [0]⟩,
      ⟨⟨(some 15), .mov (.t 5), none⟩, 0, [0]⟩,
      ⟨⟨(some 16), .call 42 [(.t 15)], none⟩, 0, [0]⟩,
      ⟨⟨(some 17), .bin .neq (.t 14) (.t 16), none⟩, 1, []⟩,
      ⟨⟨(some 18), .mov (.t 17), none⟩, 1, []⟩,
      ⟨⟨(some 19), .faddr false 5 1 (.t 6), (some (18, false))⟩, 1, [1]⟩,
      ⟨⟨(some 20), .load false 1 (.t 19), (some (18, false))⟩, 1, [1]⟩,
      ⟨⟨(some 21), .mov (.t 5), (some (18, false))⟩, 1, [1]⟩,
      ⟨⟨(some 22), .call 43 [(.t 21)], (some (18, false))⟩, 1, [1]⟩,
      ⟨⟨(some 23), .eqb true (.t 20) (.t 22), (some (18, false))⟩, 2, []⟩,
      ⟨⟨(some 24), .pick (.t 18) (.c (.p (.bool true))) (.t 23), none⟩, 2, []⟩,
      ⟨⟨(some 25), .mov (.t 24), none⟩, 2, []⟩,
      ⟨⟨(some 26), .faddr false 2 1 (.t 6), (some (25, false))⟩, 2, [2]⟩,
      ⟨⟨(some 27), .load false 1 (.t 26), (some (25, false))⟩, 2, [2]⟩,
      ⟨⟨(some 28), .faddr false 1 1 (.t 6), (some (25, false))⟩, 2, [2]⟩,
      ⟨⟨(some 29), .load false 1 (.t 28), (some (25, false))⟩, 2, [2]⟩,
      ⟨⟨(some 30), .call 44 [(.t 29)], (some (25, false))⟩, 2, [2]⟩,
      ⟨⟨(some 31), .bin .neq (.t 27) (.t 30), (some (25, false))⟩, 3, []⟩,
      ⟨⟨(some 32), .pick (.t 25) (.c (.p (.bool true))) (.t 31), none⟩, 3, []⟩,
      ⟨⟨(some 33), .mov (.t 32), none⟩, 3, []⟩,
      ⟨⟨(some 34), .faddr false 6 1 (.t 6), (some (33, false))⟩, 3, [3]⟩,
      ⟨⟨(some 35), .load false 1 (.t 34), (some (33, false))⟩, 3, [3]⟩,
      ⟨⟨(some 36), .un .not (.t 35), (some (33, false))⟩, 3, []⟩,
      ⟨⟨(some 37), .pick (.t 33) (.c (.p (.bool true))) (.t 36), none⟩, 3, []⟩,
      ⟨⟨(some 38), .mov (.t 37), none⟩, 3, []⟩,
      ⟨⟨(some 39), .faddr false 8 1 (.t 6), (some (38, false))⟩, 3, [3]⟩,
      ⟨⟨(some 40), .load false 1 (.t 39), (some (38, false))⟩, 3, [3]⟩,
      ⟨⟨(some 41), .un .not (.t 40), (some (38, false))⟩, 3, []⟩,
      ⟨⟨(some 42), .pick (.t 38) (.c (.p (.bool true))) (.t 41), none⟩, 3, []⟩])
    (.cond (.t 42) (.seq (.rg [⟨(some 4), .mov (.c (.p (.bool false))), none⟩])
      .ret)
      .skip))
    (.seq (.seq (.rg [⟨(some 43), .mov (.t 5), none⟩,
      ⟨(some 44), .bin .neq (.t 43) (.c (.p (.int .i64 4))), none⟩,
      ⟨(some 45), .mov (.t 44), none⟩,
      ⟨(some 46), .faddr false 7 1 (.t 6), (some (45, true))⟩,
      ⟨(some 47), .load false 1 (.t 46), (some (45, true))⟩,
      ⟨(some 48), .mov (.t 1), (some (45, true))⟩,
      ⟨(some 49), .eqb true (.t 47) (.t 48), (some (45, true))⟩,
      ⟨(some 50), .pick (.t 45) (.t 49) (.c (.p (.bool false))), none⟩,
      ⟨(some 51), .mov (.t 50), none⟩,
      ⟨(some 52), .mov (.t 5), (some (51, true))⟩,
      ⟨(some 53), .callr 43 [(.t 52)], (some (51, true))⟩,
      ⟨(some 54), .pick (.t 51) (.t 53) (.c (.p (.bool false))), none⟩])
    (.cond (.t 54) (.seq (.rg [⟨(some 4), .mov (.c (.p (.bool false))), none⟩])
      .ret)
      .skip))
    (.seq (.seq (.rg [⟨(some 55), .mov (.t 5), none⟩,
      ⟨(some 56), .callr 45 [(.t 55)], none⟩,
      ⟨(some 57), .bin .eql (.t 56) (.c (.p (.string ⟨#[]⟩))), none⟩])
    (.cond (.t 57) (.seq (.rg [⟨(some 4), .mov (.c (.p (.bool true))), none⟩])
      .ret)
      .skip))
    (.seq (.rgd [⟨⟨(some 58), .faddr false 1 1 (.t 6), none⟩, 0, [0]⟩,
      ⟨⟨(some 59), .load false 1 (.t 58), none⟩, 0, [0]⟩,
      ⟨⟨(some 60), .mov (.t 5), none⟩, 0, [0]⟩,
      ⟨⟨(some 61), .call 46 [(.t 60)], none⟩, 0, [0]⟩,
      ⟨⟨(some 62), .bin .eql (.t 59) (.t 61), none⟩, 1, []⟩,
      ⟨⟨(some 63), .mov (.t 62), none⟩, 1, []⟩,
      ⟨⟨(some 64), .mov (.t 1), (some (63, true))⟩, 1, []⟩,
      ⟨⟨(some 65), .mov (.t 64), (some (63, true))⟩, 1, []⟩,
      ⟨⟨(some 66), .faddr false 0 1 (.t 6), (some (65, false))⟩, 1, [1]⟩,
      ⟨⟨(some 67), .load false 1 (.t 66), (some (65, false))⟩, 1, [1]⟩,
      ⟨⟨(some 68), .mov (.t 5), (some (65, false))⟩, 1, [1]⟩,
      ⟨⟨(some 69), .call 45 [(.t 68)], (some (65, false))⟩, 1, [1]⟩,
      ⟨⟨(some 70), .bin .eql (.t 67) (.t 69), (some (65, false))⟩, 2, []⟩,
      ⟨⟨(some 71), .mov (.t 70), (some (65, false))⟩, 2, []⟩,
      ⟨⟨(some 72), .faddr false 4 1 (.t 6), (some (71, true))⟩, 2, [2]⟩,
      ⟨⟨(some 73), .load false 1 (.t 72), (some (71, true))⟩, 2, [2]⟩,
      ⟨⟨(some 74), .mov (.t 5), (some (71, true))⟩, 2, [2]⟩,
      ⟨⟨(some 75), .bin .neq (.t 74) (.c (.p (.int .i64 4))), (some (71, true))⟩, 2, [2]⟩,
      ⟨⟨(some 76), .eqb false (.t 73) (.t 75), (some (71, true))⟩, 2, []⟩,
      ⟨⟨(some 77), .pick (.t 71) (.t 76) (.c (.p (.bool false))), (some (65, false))⟩, 2, []⟩,
      ⟨⟨(some 78), .pick (.t 65) (.c (.p (.bool true))) (.t 77), (some (63, true))⟩, 2, []⟩,
      ⟨⟨(some 79), .pick (.t 63) (.t 78) (.c (.p (.bool false))), none⟩, 2, []⟩,
      ⟨⟨(some 4), .mov (.t 79), none⟩, 2, []⟩])
    .ret)))))))
def r11 : List DR := [.tmp 4]
theorem c11_ok : Try.f11.body.bind (cCode Try.prog) = some c11 := by kernel_rfl
theorem r11_ok : cRes Try.prog Try.f11.results.toList = some r11 := by kernel_rfl

/-- given.example/pub-assaymark/impl.SumKind -/
def c41 : DC :=
  (.seq (.rg [⟨(some 4), .alloc 9 (.agg [.p (.string ⟨#[]⟩), .p (.string ⟨#[]⟩), .p (.string ⟨#[]⟩), .p (.int .i64 0), .p (.bool false), .p (.bool false), .p (.bool false), .p (.bool false), .p (.bool false)]), none⟩])
    (.seq (.rg [⟨(some 7), .mov (.t 0), none⟩,
      ⟨(some 8), .callr 79 [(.t 7)], none⟩,
      ⟨(some 5), .mov (.t 8), none⟩])
    (.seq (.rg [⟨(some 9), .mov (.t 5), none⟩,
      ⟨(some 6), .mov (.t 9), none⟩])
    (.seq (.seq (.rg [⟨(some 10), .mov (.t 1), none⟩])
    (.cond (.t 10) (.rg [⟨(some 11), .mov (.t 6), none⟩,
        ⟨(some 12), .bin .or (.t 11) (.c (.p (.int .u32 2048))), none⟩,
        ⟨(some 6), .mov (.t 12), none⟩])
      .skip))
    (.seq (.rg [⟨(some 13), .mov (.t 6), none⟩,
      ⟨(some 14), .callr 80 [(.t 13)], none⟩,
      ⟨(some 15), .mov (.t 6), none⟩,
      ⟨(some 16), .callr 81 [(.t 15)], none⟩,
      ⟨(some 17), .mov (.t 6), none⟩,
      ⟨(some 18), .callr 82 [(.t 17)], none⟩,
      ⟨(some 19), .mov (.t 6), none⟩,
      ⟨(some 20), .callr 83 [(.t 19)], none⟩,
      ⟨(some 21), .mov (.t 6), none⟩,
      ⟨(some 22), .callr 84 [(.t 21)], none⟩,
      ⟨(some 23), .mov (.t 6), none⟩,
      ⟨(some 24), .callr 85 [(.t 23)], none⟩,
      ⟨(some 25), .mov (.t 6), none⟩,
      ⟨(some 26), .callr 86 [(.t 25)], none⟩,
      ⟨(some 27), .mov (.t 6), none⟩,
      ⟨(some 28), .callr 87 [(.t 27)], none⟩,
      ⟨(some 29), .mov (.t 6), none⟩,
      ⟨(some 30), .callr 88 [(.t 29)], none⟩,
      ⟨(some 31), .mov (.t 5), none⟩,
      ⟨(some 32), .bin .eql (.t 30) (.t 31), none⟩,
      ⟨(some 33), .bld [.p (.string ⟨#[]⟩), .p (.string ⟨#[]⟩), .p (.string ⟨#[]⟩), .p (.int .i64 0), .p (.bool false), .p (.bool false), .p (.bool false), .p (.bool false), .p (.bool false)] [(0, 1, (.t 14)), (1, 1, (.t 16)), (2, 1, (.t 18)), (3, 1, (.t 20)), (4, 1, (.t 22)), (5, 1, (.t 24)), (6, 1, (.t 26)), (7, 1, (.t 28)), (8, 1, (.t 32))], none⟩,
      ⟨none, .store 9 (.t 4) (.t 33), none⟩])
    .ret)))))
def r41 : List DR := [.cell 4 true 9]
theorem c41_ok : Try.f41.body.bind (cCode Try.prog) = some c41 := by kernel_rfl
theorem r41_ok : cRes Try.prog Try.f41.results.toList = some r41 := by kernel_rfl

/-- given.example/pub-assaymark/spec.SumLen -/
def c42 : DC :=
  (.seq (.rg [⟨(some 2), .mov (.c (.p (.int .i64 0))), none⟩])
    (.seq (.rg [⟨(some 3), .lit 1 [(.c (.p (.int .i64 32))), (.c (.p (.int .i64 20))), (.c (.p (.int .i64 4))), (.c (.p (.int .i64 4))), (.c (.p (.int .i64 8))), (.c (.p (.int .i64 16))), (.c (.p (.int .i64 64))), (.c (.p (.int .i64 8))), (.c (.p (.int .i64 8))), (.c (.p (.int .i64 16)))], none⟩,
      ⟨(some 4), .mov (.t 0), none⟩,
      ⟨(some 5), .iaddr 1 (.t 3) (.t 4), none⟩,
      ⟨(some 6), .load false 1 (.t 5), none⟩,
      ⟨(some 2), .mov (.t 6), none⟩])
    .ret))
def r42 : List DR := [.tmp 2]
theorem c42_ok : Try.f42.body.bind (cCode Try.prog) = some c42 := by kernel_rfl
theorem r42_ok : cRes Try.prog Try.f42.results.toList = some r42 := by kernel_rfl

/-- given.example/pub-assaymark/spec.SumMerges -/
def c43 : DC :=
  (.seq (.rg [⟨(some 2), .mov (.c (.p (.bool false))), none⟩])
    (.seq (.rg [⟨(some 3), .mov (.t 0), none⟩,
      ⟨(some 4), .bin .eql (.t 3) (.c (.p (.int .i64 2))), none⟩,
      ⟨(some 5), .mov (.t 4), none⟩,
      ⟨(some 6), .mov (.t 0), (some (5, false))⟩,
      ⟨(some 7), .bin .eql (.t 6) (.c (.p (.int .i64 3))), (some (5, false))⟩,
      ⟨(some 8), .pick (.t 5) (.c (.p (.bool true))) (.t 7), none⟩,
      ⟨(some 9), .mov (.t 8), none⟩,
      ⟨(some 10), .mov (.t 0), (some (9, false))⟩,
      ⟨(some 11), .bin .eql (.t 10) (.c (.p (.int .i64 4))), (some (9, false))⟩,
      ⟨(some 12), .pick (.t 9) (.c (.p (.bool true))) (.t 11), none⟩,
      ⟨(some 2), .mov (.t 12), none⟩])
    .ret))
def r43 : List DR := [.tmp 2]
theorem c43_ok : Try.f43.body.bind (cCode Try.prog) = some c43 := by kernel_rfl
theorem r43_ok : cRes Try.prog Try.f43.results.toList = some r43 := by kernel_rfl

/-- given.example/pub-assaymark/spec.Great -/
def c44 : DC :=
  (.seq (.rg [⟨(some 2), .mov (.c (.p (.string ⟨#[]⟩))), none⟩])
    (.seq (.rg [⟨(some 6), .mov (.t 0), none⟩,
      ⟨(some 7), .s2b (.t 6), none⟩,
      ⟨(some 3), .mov (.t 7), none⟩])
    (.seq (.seq (.rg [⟨(some 8), .mov (.t 3), none⟩,
      ⟨(some 9), .lenl (.t 8), none⟩,
      ⟨(some 10), .mov (.c (.p (.int .i64 0))), none⟩])
    (.block 0 (.loop (.seq (.rg [⟨(some 11), .bin .lss (.t 10) (.t 9), none⟩])
      (.seq (.cond (.t 11) .skip
        (.exit 0))
      (.seq (.block 1 (.seq (.rg [⟨(some 12), .mov (.t 10), none⟩,
         ⟨(some 13), .iaddr 1 (.t 8) (.t 10), none⟩,
         ⟨(some 14), .load false 1 (.t 13), none⟩,
         ⟨(some 4), .mov (.t 12), none⟩,
         ⟨(some 5), .mov (.t 14), none⟩])
       (.seq (.rg [⟨(some 15), .mov (.t 5), none⟩,
         ⟨(some 16), .bin .geq (.t 15) (.c (.p (.int .u8 97))), none⟩,
         ⟨(some 17), .mov (.t 16), none⟩,
         ⟨(some 18), .mov (.t 5), (some (17, true))⟩,
         ⟨(some 19), .bin .leq (.t 18) (.c (.p (.int .u8 122))), (some (17, true))⟩,
         ⟨(some 20), .pick (.t 17) (.t 19) (.c (.p (.bool false))), none⟩,
         ⟨(some 21), .mov (.t 20), none⟩,
         ⟨(some 22), .mov (.t 4), (some (21, true))⟩,
         ⟨(some 23), .bin .eql (.t 22) (.c (.p (.int .i64 0))), (some (21, true))⟩,
         ⟨(some 24), .mov (.t 23), (some (21, true))⟩,
         ⟨(some 25), .mov (.t 3), (some (24, false))⟩,
         ⟨(some 26), .mov (.t 4), (some (24, false))⟩,
         ⟨(some 27), .bin .sub (.t 26) (.c (.p (.int .i64 1))), (some (24, false))⟩,
         ⟨(some 28), .iaddr 1 (.t 25) (.t 27), (some (24, false))⟩,
         ⟨(some 29), .load false 1 (.t 28), (some (24, false))⟩,
         ⟨(some 30), .bin .eql (.t 29) (.c (.p (.int .u8 45))), (some (24, false))⟩,
         ⟨(some 31), .pick (.t 24) (.c (.p (.bool true))) (.t 30), (some (21, true))⟩,
         ⟨(some 32), .pick (.t 21) (.t 31) (.c (.p (.bool false))), none⟩])
       (.cond (.t 32) (.rg [⟨(some 33), .mov (.t 3), none⟩,
           ⟨(some 34), .mov (.t 4), none⟩,
           ⟨(some 35), .mov (.t 5), none⟩,
           ⟨(some 36), .bin .sub (.t 35) (.c (.p (.int .u8 97))), none⟩,
           ⟨(some 37), .bin .add (.t 36) (.c (.p (.int .u8 65))), none⟩,
           ⟨(some 38), .iaddr 1 (.t 33) (.t 34), none⟩,
           ⟨none, .store 1 (.t 38) (.t 37), none⟩])
         .skip))))
      (.rg [⟨(some 39), .bin .add (.t 10) (.c (.p (.int .i64 1))), none⟩,
        ⟨(some 10), .mov (.t 39), none⟩])))))))
    (.seq (.rg [⟨(some 40), .mov (.t 3), none⟩,
      ⟨(some 41), .b2s (.t 40), none⟩,
      ⟨(some 2), .mov (.t 41), none⟩])
    .ret))))
def r44 : List DR := [.tmp 2]
theorem c44_ok : Try.f44.body.bind (cCode Try.prog) = some c44 := by kernel_rfl
theorem r44_ok : cRes Try.prog Try.f44.results.toList = some r44 := by kernel_rfl

/-- given.example/pub-assaymark/spec.SumName -/
def c45 : DC :=
  (.seq (.rg [⟨(some 2), .mov (.c (.p (.string ⟨#[]⟩))), none⟩])
    (.seq (.rg [⟨(some 3), .lit 1 [(.c (.p (.string ⟨#[83, 72, 65, 50, 53, 54]⟩))), (.c (.p (.string ⟨#[83, 72, 65, 49]⟩))), (.c (.p (.string ⟨#[67, 82, 67, 51, 50]⟩))), (.c (.p (.string ⟨#[67, 82, 67, 51, 50, 67]⟩))), (.c (.p (.string ⟨#[67, 82, 67, 54, 52, 78, 86, 77, 69]⟩))), (.c (.p (.string ⟨#[]⟩))), (.c (.p (.string ⟨#[]⟩))), (.c (.p (.string ⟨#[]⟩))), (.c (.p (.string ⟨#[]⟩))), (.c (.p (.string ⟨#[]⟩)))], none⟩,
      ⟨(some 4), .mov (.t 0), none⟩,
      ⟨(some 5), .iaddr 1 (.t 3) (.t 4), none⟩,
      ⟨(some 6), .load false 1 (.t 5), none⟩,
      ⟨(some 2), .mov (.t 6), none⟩])
    .ret))
def r45 : List DR := [.tmp 2]
theorem c45_ok : Try.f45.body.bind (cCode Try.prog) = some c45 := by kernel_rfl
theorem r45_ok : cRes Try.prog Try.f45.results.toList = some r45 := by kernel_rfl

/-- given.example/pub-assaymark/spec.SumKey -/
def c46 : DC :=
  (.seq (.rg [⟨(some 2), .mov (.c (.p (.string ⟨#[]⟩))), none⟩])
    (.seq (.rg [⟨(some 3), .mov (.t 0), none⟩,
      ⟨(some 4), .callr 45 [(.t 3)], none⟩,
      ⟨(some 5), .callr 89 [(.t 4)], none⟩,
      ⟨(some 6), .bin .add (.c (.p (.string ⟨#[120, 45, 97, 109, 122, 45, 99, 104, 101, 99, 107, 115, 117, 109, 45]⟩))) (.t 5), none⟩,
      ⟨(some 2), .mov (.t 6), none⟩])
    .ret))
def r46 : List DR := [.tmp 2]
theorem c46_ok : Try.f46.body.bind (cCode Try.prog) = some c46 := by kernel_rfl
theorem r46_ok : cRes Try.prog Try.f46.results.toList = some r46 := by kernel_rfl

/-- given.example/pub-assaymark/impl.sumType -/
def c79 : DC :=
  (.seq (.rg [⟨(some 2), .mov (.c (.p (.int .u32 0))), none⟩])
    (.seq (.seq (.rg [⟨(some 3), .mov (.t 0), none⟩,
      ⟨(some 4), .bin .lss (.t 3) (.c (.p (.int .i64 0))), none⟩,
      ⟨(some 5), .mov (.t 4), none⟩,
      ⟨(some 6), .mov (.t 0), (some (5, false))⟩,
      ⟨(some 7), .bin .gtr (.t 6) (.c (.p (.int .i64 9))), (some (5, false))⟩,
      ⟨(some 8), .pick (.t 5) (.c (.p (.bool true))) (.t 7), none⟩])
    (.cond (.t 8) (.seq (.rg [⟨(some 2), .mov (.c (.p (.int .u32 0))), none⟩])
      .ret)
      .skip))
    (.seq (.rg [⟨(some 9), .mov (.t 0), none⟩,
      ⟨(some 10), .bin .shl (.c (.p (.int .u32 1))) (.t 9), none⟩,
      ⟨(some 2), .mov (.t 10), none⟩])
    .ret)))
def r79 : List DR := [.tmp 2]
theorem c79_ok : Try.f79.body.bind (cCode Try.prog) = some c79 := by kernel_rfl
theorem r79_ok : cRes Try.prog Try.f79.results.toList = some r79 := by kernel_rfl

/-- (given.example/pub-assaymark/pub/miniogo.ChecksumType).String -/
def c80 : DC :=
  (.seq (.rg [⟨(some 2), .mov (.c (.p (.string ⟨#[]⟩))), none⟩])
    (.seq (.seq (.rg [⟨(some 3), .mov (.t 0), none⟩,
      ⟨(some 4), .bin .and (.t 3) (.c (.p (.int .u32 1023))), none⟩])
    (.block 0 (.seq (.rg [⟨(some 6), .bin .eql (.t 4) (.c (.p (.int .u32 4))), none⟩,
       ⟨(some 5), .mov (.t 6), none⟩])
     (.cond (.t 5) (.seq (.rg [⟨(some 2), .mov (.c (.p (.string ⟨#[67, 82, 67, 51, 50]⟩))), none⟩])
       .ret)
       (.seq (.rg [⟨(some 8), .bin .eql (.t 4) (.c (.p (.int .u32 8))), none⟩,
         ⟨(some 7), .mov (.t 8), none⟩])
       (.cond (.t 7) (.seq (.rg [⟨(some 2), .mov (.c (.p (.string ⟨#[67, 82, 67, 51, 50, 67]⟩))), none⟩])
         .ret)
         (.seq (.rg [⟨(some 10), .bin .eql (.t 4) (.c (.p (.int .u32 2))), none⟩,
           ⟨(some 9), .mov (.t 10), none⟩])
         (.cond (.t 9) (.seq (.rg [⟨(some 2), .mov (.c (.p (.string ⟨#[83, 72, 65, 49]⟩))), none⟩])
           .ret)
           (.seq (.rg [⟨(some 12), .bin .eql (.t 4) (.c (.p (.int .u32 1))), none⟩,
             ⟨(some 11), .mov (.t 12), none⟩])
           (.cond (.t 11) (.seq (.rg [⟨(some 2), .mov (.c (.p (.string ⟨#[83, 72, 65, 50, 53, 54]⟩))), none⟩])
             .ret)
             (.seq (.rg [⟨(some 14), .bin .eql (.t 4) (.c (.p (.int .u32 0))), none⟩,
               ⟨(some 13), .mov (.t 14), none⟩])
             (.cond (.t 13) (.seq (.rg [⟨(some 2), .mov (.c (.p (.string ⟨#[]⟩))), none⟩])
               .ret)
               (.seq (.rg [⟨(some 16), .bin .eql (.t 4) (.c (.p (.int .u32 16))), none⟩,
                 ⟨(some 15), .mov (.t 16), none⟩])
               (.cond (.t 15) (.seq (.rg [⟨(some 2), .mov (.c (.p (.string ⟨#[67, 82, 67, 54, 52, 78, 86, 77, 69]⟩))), none⟩])
                 .ret)
                 (.seq (.rg [⟨(some 18), .bin .eql (.t 4) (.c (.p (.int .u32 32))), none⟩,
                   ⟨(some 17), .mov (.t 18), none⟩])
                 (.cond (.t 17) (.seq (.rg [⟨(some 2), .mov (.c (.p (.string ⟨#[77, 68, 53]⟩))), none⟩])
                   .ret)
                   (.seq (.rg [⟨(some 20), .bin .eql (.t 4) (.c (.p (.int .u32 64))), none⟩,
                     ⟨(some 19), .mov (.t 20), none⟩])
                   (.cond (.t 19) (.seq (.rg [⟨(some 2), .mov (.c (.p (.string ⟨#[83, 72, 65, 53, 49, 50]⟩))), none⟩])
                     .ret)
                     (.seq (.rg [⟨(some 22), .bin .eql (.t 4) (.c (.p (.int .u32 128))), none⟩,
                       ⟨(some 21), .mov (.t 22), none⟩])
                     (.cond (.t 21) (.seq (.rg [⟨(some 2), .mov (.c (.p (.string ⟨#[88, 88, 72, 65, 83, 72, 54, 52]⟩))), none⟩])
                       .ret)
                       (.seq (.rg [⟨(some 24), .bin .eql (.t 4) (.c (.p (.int .u32 256))), none⟩,
                         ⟨(some 23), .mov (.t 24), none⟩])
                       (.cond (.t 23) (.seq (.rg [⟨(some 2), .mov (.c (.p (.string ⟨#[88, 88, 72, 65, 83, 72, 51]⟩))), none⟩])
                         .ret)
                         (.seq (.rg [⟨(some 26), .bin .eql (.t 4) (.c (.p (.int .u32 512))), none⟩,
                           ⟨(some 25), .mov (.t 26), none⟩])
                         (.cond (.t 25) (.seq (.rg [⟨(some 2), .mov (.c (.p (.string ⟨#[88, 88, 72, 65, 83, 72, 49, 50, 56]⟩))), none⟩])
                           .ret)
                           .skip))))))))))))))))))))))))
    (.seq (.rg [⟨(some 2), .mov (.c (.p (.string ⟨#[60, 105, 110, 118, 97, 108, 105, 100, 62]⟩))), none⟩])
    .ret)))
def r80 : List DR := [.tmp 2]
theorem c80_ok : Try.f80.body.bind (cCode Try.prog) = some c80 := by kernel_rfl
theorem r80_ok : cRes Try.prog Try.f80.results.toList = some r80 := by kernel_rfl

/-- (given.example/pub-assaymark/pub/miniogo.ChecksumType).Key -/
def c81 : DC :=
  (.seq (.rg [⟨(some 2), .mov (.c (.p (.string ⟨#[]⟩))), none⟩])
    (.seq (.seq (.rg [⟨(some 3), .mov (.t 0), none⟩,
      ⟨(some 4), .bin .and (.t 3) (.c (.p (.int .u32 1023))), none⟩])
    (.block 0 (.seq (.rg [⟨(some 6), .bin .eql (.t 4) (.c (.p (.int .u32 4))), none⟩,
       ⟨(some 5), .mov (.t 6), none⟩])
     (.cond (.t 5) (.seq (.rg [⟨(some 2), .mov (.c (.p (.string ⟨#[120, 45, 97, 109, 122, 45, 99, 104, 101, 99, 107, 115, 117, 109, 45, 99, 114, 99, 51, 50]⟩))), none⟩])
       .ret)
       (.seq (.rg [⟨(some 8), .bin .eql (.t 4) (.c (.p (.int .u32 8))), none⟩,
         ⟨(some 7), .mov (.t 8), none⟩])
       (.cond (.t 7) (.seq (.rg [⟨(some 2), .mov (.c (.p (.string ⟨#[120, 45, 97, 109, 122, 45, 99, 104, 101, 99, 107, 115, 117, 109, 45, 99, 114, 99, 51, 50, 99]⟩))), none⟩])
         .ret)
         (.seq (.rg [⟨(some 10), .bin .eql (.t 4) (.c (.p (.int .u32 2))), none⟩,
           ⟨(some 9), .mov (.t 10), none⟩])
         (.cond (.t 9) (.seq (.rg [⟨(some 2), .mov (.c (.p (.string ⟨#[120, 45, 97, 109, 122, 45, 99, 104, 101, 99, 107, 115, 117, 109, 45, 115, 104, 97, 49]⟩))), none⟩])
           .ret)
           (.seq (.rg [⟨(some 12), .bin .eql (.t 4) (.c (.p (.int .u32 1))), none⟩,
             ⟨(some 11), .mov (.t 12), none⟩])
           (.cond (.t 11) (.seq (.rg [⟨(some 2), .mov (.c (.p (.string ⟨#[120, 45, 97, 109, 122, 45, 99, 104, 101, 99, 107, 115, 117, 109, 45, 115, 104, 97, 50, 53, 54]⟩))), none⟩])
             .ret)
             (.seq (.rg [⟨(some 14), .bin .eql (.t 4) (.c (.p (.int .u32 16))), none⟩,
               ⟨(some 13), .mov (.t 14), none⟩])
             (.cond (.t 13) (.seq (.rg [⟨(some 2), .mov (.c (.p (.string ⟨#[120, 45, 97, 109, 122, 45, 99, 104, 101, 99, 107, 115, 117, 109, 45, 99, 114, 99, 54, 52, 110, 118, 109, 101]⟩))), none⟩])
               .ret)
               (.seq (.rg [⟨(some 16), .bin .eql (.t 4) (.c (.p (.int .u32 32))), none⟩,
                 ⟨(some 15), .mov (.t 16), none⟩])
               (.cond (.t 15) (.seq (.rg [⟨(some 2), .mov (.c (.p (.string ⟨#[120, 45, 97, 109, 122, 45, 99, 104, 101, 99, 107, 115, 117, 109, 45, 109, 100, 53]⟩))), none⟩])
                 .ret)
                 (.seq (.rg [⟨(some 18), .bin .eql (.t 4) (.c (.p (.int .u32 64))), none⟩,
                   ⟨(some 17), .mov (.t 18), none⟩])
                 (.cond (.t 17) (.seq (.rg [⟨(some 2), .mov (.c (.p (.string ⟨#[120, 45, 97, 109, 122, 45, 99, 104, 101, 99, 107, 115, 117, 109, 45, 115, 104, 97, 53, 49, 50]⟩))), none⟩])
                   .ret)
                   (.seq (.rg [⟨(some 20), .bin .eql (.t 4) (.c (.p (.int .u32 128))), none⟩,
                     ⟨(some 19), .mov (.t 20), none⟩])
                   (.cond (.t 19) (.seq (.rg [⟨(some 2), .mov (.c (.p (.string ⟨#[120, 45, 97, 109, 122, 45, 99, 104, 101, 99, 107, 115, 117, 109, 45, 120, 120, 104, 97, 115, 104, 54, 52]⟩))), none⟩])
                     .ret)
                     (.seq (.rg [⟨(some 22), .bin .eql (.t 4) (.c (.p (.int .u32 256))), none⟩,
                       ⟨(some 21), .mov (.t 22), none⟩])
                     (.cond (.t 21) (.seq (.rg [⟨(some 2), .mov (.c (.p (.string ⟨#[120, 45, 97, 109, 122, 45, 99, 104, 101, 99, 107, 115, 117, 109, 45, 120, 120, 104, 97, 115, 104, 51]⟩))), none⟩])
                       .ret)
                       (.seq (.rg [⟨(some 24), .bin .eql (.t 4) (.c (.p (.int .u32 512))), none⟩,
                         ⟨(some 23), .mov (.t 24), none⟩])
                       (.cond (.t 23) (.seq (.rg [⟨(some 2), .mov (.c (.p (.string ⟨#[120, 45, 97, 109, 122, 45, 99, 104, 101, 99, 107, 115, 117, 109, 45, 120, 120, 104, 97, 115, 104, 49, 50, 56]⟩))), none⟩])
                         .ret)
                         .skip))))))))))))))))))))))
    (.seq (.rg [⟨(some 2), .mov (.c (.p (.string ⟨#[]⟩))), none⟩])
    .ret)))
def r81 : List DR := [.tmp 2]
theorem c81_ok : Try.f81.body.bind (cCode Try.prog) = some c81 := by kernel_rfl
theorem r81_ok : cRes Try.prog Try.f81.results.toList = some r81 := by kernel_rfl

/-- (given.example/pub-assaymark/pub/miniogo.ChecksumType).KeyCapitalized -/
def c82 : DC :=
  (.seq (.rg [⟨(some 2), .mov (.c (.p (.string ⟨#[]⟩))), none⟩])
    (.seq (.rg [⟨(some 3), .mov (.t 0), none⟩,
      ⟨(some 4), .callr 81 [(.t 3)], none⟩,
      ⟨(some 5), .callr 119 [(.t 4)], none⟩,
      ⟨(some 2), .mov (.t 5), none⟩])
    .ret))
def r82 : List DR := [.tmp 2]
theorem c82_ok : Try.f82.body.bind (cCode Try.prog) = some c82 := by kernel_rfl
theorem r82_ok : cRes Try.prog Try.f82.results.toList = some r82 := by kernel_rfl

/-- (given.example/pub-assaymark/pub/miniogo.ChecksumType).RawByteLen -/
def c83 : DC :=
  (.seq (.rg [⟨(some 2), .mov (.c (.p (.int .i64 0))), none⟩])
    (.seq (.seq (.rg [⟨(some 3), .mov (.t 0), none⟩,
      ⟨(some 4), .bin .and (.t 3) (.c (.p (.int .u32 1023))), none⟩])
    (.block 0 (.seq (.seq (.rg [⟨(some 6), .bin .eql (.t 4) (.c (.p (.int .u32 4))), none⟩,
       ⟨(some 5), .mov (.t 6), none⟩])
     (.cond (.t 5) .skip
       (.rg [⟨(some 7), .bin .eql (.t 4) (.c (.p (.int .u32 8))), none⟩,
         ⟨(some 5), .mov (.t 7), none⟩])))
     (.cond (.t 5) (.seq (.rg [⟨(some 2), .mov (.c (.p (.int .i64 4))), none⟩])
       .ret)
       (.seq (.rg [⟨(some 9), .bin .eql (.t 4) (.c (.p (.int .u32 2))), none⟩,
         ⟨(some 8), .mov (.t 9), none⟩])
       (.cond (.t 8) (.seq (.rg [⟨(some 2), .mov (.c (.p (.int .i64 20))), none⟩])
         .ret)
         (.seq (.rg [⟨(some 11), .bin .eql (.t 4) (.c (.p (.int .u32 1))), none⟩,
           ⟨(some 10), .mov (.t 11), none⟩])
         (.cond (.t 10) (.seq (.rg [⟨(some 2), .mov (.c (.p (.int .i64 32))), none⟩])
           .ret)
           (.seq (.rg [⟨(some 13), .bin .eql (.t 4) (.c (.p (.int .u32 16))), none⟩,
             ⟨(some 12), .mov (.t 13), none⟩])
           (.cond (.t 12) (.seq (.rg [⟨(some 2), .mov (.c (.p (.int .i64 8))), none⟩])
             .ret)
             (.seq (.seq (.rg [⟨(some 15), .bin .eql (.t 4) (.c (.p (.int .u32 128))), none⟩,
               ⟨(some 14), .mov (.t 15), none⟩])
             (.cond (.t 14) .skip
               (.rg [⟨(some 16), .bin .eql (.t 4) (.c (.p (.int .u32 256))), none⟩,
                 ⟨(some 14), .mov (.t 16), none⟩])))
             (.cond (.t 14) (.seq (.rg [⟨(some 2), .mov (.c (.p (.int .i64 8))), none⟩])
               .ret)
               (.seq (.rg [⟨(some 18), .bin .eql (.t 4) (.c (.p (.int .u32 32))), none⟩,
                 ⟨(some 17), .mov (.t 18), none⟩])
               (.cond (.t 17) (.seq (.rg [⟨(some 2), .mov (.c (.p (.int .i64 16))), none⟩])
                 .ret)
                 (.seq (.rg [⟨(some 20), .bin .eql (.t 4) (.c (.p (.int .u32 64))), none⟩,
                   ⟨(some 19), .mov (.t 20), none⟩])
                 (.cond (.t 19) (.seq (.rg [⟨(some 2), .mov (.c (.p (.int .i64 64))), none⟩])
                   .ret)
                   (.seq (.rg [⟨(some 22), .bin .eql (.t 4) (.c (.p (.int .u32 512))), none⟩,
                     ⟨(some 21), .mov (.t 22), none⟩])
                   (.cond (.t 21) (.seq (.rg [⟨(some 2), .mov (.c (.p (.int .i64 16))), none⟩])
                     .ret)
                     .skip))))))))))))))))))
    (.seq (.rg [⟨(some 2), .mov (.c (.p (.int .i64 0))), none⟩])
    .ret)))
def r83 : List DR := [.tmp 2]
theorem c83_ok : Try.f83.body.bind (cCode Try.prog) = some c83 := by kernel_rfl
theorem r83_ok : cRes Try.prog Try.f83.results.toList = some r83 := by kernel_rfl

/-- (given.example/pub-assaymark/pub/miniogo.ChecksumType).CanComposite -/
def c84 : DC :=
  (.seq (.rg [⟨(some 2), .mov (.c (.p (.bool false))), none⟩])
    (.seq (.seq (.rg [⟨(some 3), .mov (.t 0), none⟩,
      ⟨(some 4), .bin .and (.t 3) (.c (.p (.int .u32 1023))), none⟩])
    (.block 0 (.seq (.seq (.rg [⟨(some 6), .bin .eql (.t 4) (.c (.p (.int .u32 1))), none⟩,
       ⟨(some 5), .mov (.t 6), none⟩])
     (.cond (.t 5) .skip
       (.seq (.rg [⟨(some 7), .bin .eql (.t 4) (.c (.p (.int .u32 2))), none⟩,
         ⟨(some 5), .mov (.t 7), none⟩])
       (.cond (.t 5) .skip
         (.seq (.rg [⟨(some 8), .bin .eql (.t 4) (.c (.p (.int .u32 4))), none⟩,
           ⟨(some 5), .mov (.t 8), none⟩])
         (.cond (.t 5) .skip
           (.seq (.rg [⟨(some 9), .bin .eql (.t 4) (.c (.p (.int .u32 8))), none⟩,
             ⟨(some 5), .mov (.t 9), none⟩])
           (.cond (.t 5) .skip
             (.seq (.rg [⟨(some 10), .bin .eql (.t 4) (.c (.p (.int .u32 32))), none⟩,
               ⟨(some 5), .mov (.t 10), none⟩])
             (.cond (.t 5) .skip
               (.seq (.rg [⟨(some 11), .bin .eql (.t 4) (.c (.p (.int .u32 64))), none⟩,
                 ⟨(some 5), .mov (.t 11), none⟩])
               (.cond (.t 5) .skip
                 (.seq (.rg [⟨(some 12), .bin .eql (.t 4) (.c (.p (.int .u32 128))), none⟩,
                   ⟨(some 5), .mov (.t 12), none⟩])
                 (.cond (.t 5) .skip
                   (.seq (.rg [⟨(some 13), .bin .eql (.t 4) (.c (.p (.int .u32 256))), none⟩,
                     ⟨(some 5), .mov (.t 13), none⟩])
                   (.cond (.t 5) .skip
                     (.rg [⟨(some 14), .bin .eql (.t 4) (.c (.p (.int .u32 512))), none⟩,
                       ⟨(some 5), .mov (.t 14), none⟩])))))))))))))))))
     (.cond (.t 5) (.seq (.rg [⟨(some 2), .mov (.c (.p (.bool true))), none⟩])
       .ret)
       .skip))))
    (.seq (.rg [⟨(some 2), .mov (.c (.p (.bool false))), none⟩])
    .ret)))
def r84 : List DR := [.tmp 2]
theorem c84_ok : Try.f84.body.bind (cCode Try.prog) = some c84 := by kernel_rfl
theorem r84_ok : cRes Try.prog Try.f84.results.toList = some r84 := by kernel_rfl

/-- (given.example/pub-assaymark/pub/miniogo.ChecksumType).CanMergeCRC -/
def c85 : DC :=
  (.seq (.rg [⟨(some 2), .mov (.c (.p (.bool false))), none⟩])
    (.seq (.seq (.rg [⟨(some 3), .mov (.t 0), none⟩,
      ⟨(some 4), .bin .and (.t 3) (.c (.p (.int .u32 1023))), none⟩])
    (.block 0 (.seq (.seq (.rg [⟨(some 6), .bin .eql (.t 4) (.c (.p (.int .u32 4))), none⟩,
       ⟨(some 5), .mov (.t 6), none⟩])
     (.cond (.t 5) .skip
       (.seq (.rg [⟨(some 7), .bin .eql (.t 4) (.c (.p (.int .u32 8))), none⟩,
         ⟨(some 5), .mov (.t 7), none⟩])
       (.cond (.t 5) .skip
         (.rg [⟨(some 8), .bin .eql (.t 4) (.c (.p (.int .u32 16))), none⟩,
           ⟨(some 5), .mov (.t 8), none⟩])))))
     (.cond (.t 5) (.seq (.rg [⟨(some 2), .mov (.c (.p (.bool true))), none⟩])
       .ret)
       .skip))))
    (.seq (.rg [⟨(some 2), .mov (.c (.p (.bool false))), none⟩])
    .ret)))
def r85 : List DR := [.tmp 2]
theorem c85_ok : Try.f85.body.bind (cCode Try.prog) = some c85 := by kernel_rfl
theorem r85_ok : cRes Try.prog Try.f85.results.toList = some r85 := by kernel_rfl

/-- (given.example/pub-assaymark/pub/miniogo.ChecksumType).IsSet -/
def c86 : DC :=
  (.seq (.rg [⟨(some 2), .mov (.c (.p (.bool false))), none⟩])
    (.seq (.rg [⟨(some 3), .mov (.t 0), none⟩,
      ⟨(some 4), .bin .and (.t 3) (.c (.p (.int .u32 1023))), none⟩,
      ⟨(some 5), .callr 120 [(.t 4)], none⟩,
      ⟨(some 6), .bin .eql (.t 5) (.c (.p (.int .i64 1))), none⟩,
      ⟨(some 2), .mov (.t 6), none⟩])
    .ret))
def r86 : List DR := [.tmp 2]
theorem c86_ok : Try.f86.body.bind (cCode Try.prog) = some c86 := by kernel_rfl
theorem r86_ok : cRes Try.prog Try.f86.results.toList = some r86 := by kernel_rfl

/-- (given.example/pub-assaymark/pub/miniogo.ChecksumType).FullObjectRequested -/
def c87 : DC :=
  (.seq (.rg [⟨(some 2), .mov (.c (.p (.bool false))), none⟩])
    (.seq (.seq (.rg [⟨(some 3), .mov (.t 0), none⟩,
      ⟨(some 4), .bin .and (.t 3) (.c (.p (.int .u32 3071))), none⟩])
    (.block 0 (.seq (.seq (.rg [⟨(some 6), .bin .eql (.t 4) (.c (.p (.int .u32 2056))), none⟩,
       ⟨(some 5), .mov (.t 6), none⟩])
     (.cond (.t 5) .skip
       (.seq (.rg [⟨(some 7), .bin .eql (.t 4) (.c (.p (.int .u32 2052))), none⟩,
         ⟨(some 5), .mov (.t 7), none⟩])
       (.cond (.t 5) .skip
         (.rg [⟨(some 8), .bin .eql (.t 4) (.c (.p (.int .u32 16))), none⟩,
           ⟨(some 5), .mov (.t 8), none⟩])))))
     (.cond (.t 5) (.seq (.rg [⟨(some 2), .mov (.c (.p (.bool true))), none⟩])
       .ret)
       .skip))))
    (.seq (.rg [⟨(some 2), .mov (.c (.p (.bool false))), none⟩])
    .ret)))
def r87 : List DR := [.tmp 2]
theorem c87_ok : Try.f87.body.bind (cCode Try.prog) = some c87 := by kernel_rfl
theorem r87_ok : cRes Try.prog Try.f87.results.toList = some r87 := by kernel_rfl

/-- (given.example/pub-assaymark/pub/miniogo.ChecksumType).Base -/
def c88 : DC :=
  (.seq (.rg [⟨(some 2), .mov (.c (.p (.int .u32 0))), none⟩])
    (.seq (.rg [⟨(some 3), .mov (.t 0), none⟩,
      ⟨(some 4), .bin .and (.t 3) (.c (.p (.int .u32 1023))), none⟩,
      ⟨(some 2), .mov (.t 4), none⟩])
    .ret))
def r88 : List DR := [.tmp 2]
theorem c88_ok : Try.f88.body.bind (cCode Try.prog) = some c88 := by kernel_rfl
theorem r88_ok : cRes Try.prog Try.f88.results.toList = some r88 := by kernel_rfl

/-- given.example/pub-assaymark/spec.lower -/
def c89 : DC :=
  (.seq (.rg [⟨(some 2), .mov (.c (.p (.string ⟨#[]⟩))), none⟩])
    (.seq (.rg [⟨(some 6), .mov (.t 0), none⟩,
      ⟨(some 7), .s2b (.t 6), none⟩,
      ⟨(some 3), .mov (.t 7), none⟩])
    (.seq (.seq (.rg [⟨(some 8), .mov (.t 3), none⟩,
      ⟨(some 9), .lenl (.t 8), none⟩,
      ⟨(some 10), .mov (.c (.p (.int .i64 0))), none⟩])
    (.block 0 (.loop (.seq (.rg [⟨(some 11), .bin .lss (.t 10) (.t 9), none⟩])
      (.seq (.cond (.t 11) .skip
        (.exit 0))
      (.seq (.block 1 (.seq (.rg [⟨(some 12), .mov (.t 10), none⟩,
         ⟨(some 13), .iaddr 1 (.t 8) (.t 10), none⟩,
         ⟨(some 14), .load false 1 (.t 13), none⟩,
         ⟨(some 4), .mov (.t 12), none⟩,
         ⟨(some 5), .mov (.t 14), none⟩])
       (.seq (.rg [⟨(some 15), .mov (.t 5), none⟩,
         ⟨(some 16), .bin .geq (.t 15) (.c (.p (.int .u8 65))), none⟩,
         ⟨(some 17), .mov (.t 16), none⟩,
         ⟨(some 18), .mov (.t 5), (some (17, true))⟩,
         ⟨(some 19), .bin .leq (.t 18) (.c (.p (.int .u8 90))), (some (17, true))⟩,
         ⟨(some 20), .pick (.t 17) (.t 19) (.c (.p (.bool false))), none⟩])
       (.cond (.t 20) (.rg [⟨(some 21), .mov (.t 3), none⟩,
           ⟨(some 22), .mov (.t 4), none⟩,
           ⟨(some 23), .mov (.t 5), none⟩,
           ⟨(some 24), .bin .sub (.t 23) (.c (.p (.int .u8 65))), none⟩,
           ⟨(some 25), .bin .add (.t 24) (.c (.p (.int .u8 97))), none⟩,
           ⟨(some 26), .iaddr 1 (.t 21) (.t 22), none⟩,
           ⟨none, .store 1 (.t 26) (.t 25), none⟩])
         .skip))))
      (.rg [⟨(some 27), .bin .add (.t 10) (.c (.p (.int .i64 1))), none⟩,
        ⟨(some 10), .mov (.t 27), none⟩])))))))
    (.seq (.rg [⟨(some 28), .mov (.t 3), none⟩,
      ⟨(some 29), .b2s (.t 28), none⟩,
      ⟨(some 2), .mov (.t 29), none⟩])
    .ret))))
def r89 : List DR := [.tmp 2]
theorem c89_ok : Try.f89.body.bind (cCode Try.prog) = some c89 := by kernel_rfl
theorem r89_ok : cRes Try.prog Try.f89.results.toList = some r89 := by kernel_rfl

/-- given.example/pub-assaymark/pub/zhttp.CanonicalHeaderKey -/
def c119 : DC :=
  (.seq (.rg [⟨(some 2), .mov (.c (.p (.string ⟨#[]⟩))), none⟩])
    (.seq (.rg [⟨(some 7), .mov (.t 0), none⟩,
      ⟨(some 8), .s2b (.t 7), none⟩,
      ⟨(some 3), .mov (.t 8), none⟩])
    (.seq (.rg [⟨(some 4), .mov (.c (.p (.bool true))), none⟩])
    (.seq (.seq (.rg [⟨(some 9), .mov (.t 3), none⟩,
      ⟨(some 10), .lenl (.t 9), none⟩,
      ⟨(some 11), .mov (.c (.p (.int .i64 0))), none⟩])
    (.block 0 (.loop (.seq (.rg [⟨(some 12), .bin .lss (.t 11) (.t 10), none⟩])
      (.seq (.cond (.t 12) .skip
        (.exit 0))
      (.seq (.block 1 (.seq (.rg [⟨(some 13), .mov (.t 11), none⟩,
         ⟨(some 14), .iaddr 1 (.t 9) (.t 11), none⟩,
         ⟨(some 15), .load false 1 (.t 14), none⟩,
         ⟨(some 5), .mov (.t 13), none⟩,
         ⟨(some 6), .mov (.t 15), none⟩])
       (.seq (.block 2 (.seq (.rg [⟨(some 18), .mov (.t 6), none⟩,
          ⟨(some 19), .bin .leq (.c (.p (.int .u8 97))) (.t 18), none⟩,
          ⟨(some 20), .mov (.t 19), none⟩,
          ⟨(some 21), .mov (.t 6), (some (20, true))⟩,
          ⟨(some 22), .bin .leq (.t 21) (.c (.p (.int .u8 122))), (some (20, true))⟩,
          ⟨(some 23), .pick (.t 20) (.t 22) (.c (.p (.bool false))), none⟩,
          ⟨(some 17), .mov (.t 23), none⟩])
        (.cond (.t 17) (.seq (.rg [⟨(some 24), .mov (.t 4), none⟩])
          (.cond (.t 24) (.rg [⟨(some 25), .mov (.t 3), none⟩,
              ⟨(some 26), .mov (.t 5), none⟩,
              ⟨(some 27), .mov (.t 6), none⟩,
              ⟨(some 28), .bin .sub (.t 27) (.c (.p (.int .u8 32))), none⟩,
              ⟨(some 29), .iaddr 1 (.t 25) (.t 26), none⟩,
              ⟨none, .store 1 (.t 29) (.t 28), none⟩])
            .skip))
          (.seq (.rg [⟨(some 31), .mov (.t 6), none⟩,
            ⟨(some 32), .bin .leq (.c (.p (.int .u8 65))) (.t 31), none⟩,
            ⟨(some 33), .mov (.t 32), none⟩,
            ⟨(some 34), .mov (.t 6), (some (33, true))⟩,
            ⟨(some 35), .bin .leq (.t 34) (.c (.p (.int .u8 90))), (some (33, true))⟩,
            ⟨(some 36), .pick (.t 33) (.t 35) (.c (.p (.bool false))), none⟩,
            ⟨(some 30), .mov (.t 36), none⟩])
          (.cond (.t 30) (.seq (.rg [⟨(some 37), .mov (.t 4), none⟩,
              ⟨(some 38), .un .not (.t 37), none⟩])
            (.cond (.t 38) (.rg [⟨(some 39), .mov (.t 3), none⟩,
                ⟨(some 40), .mov (.t 5), none⟩,
                ⟨(some 41), .mov (.t 6), none⟩,
                ⟨(some 42), .bin .add (.t 41) (.c (.p (.int .u8 32))), none⟩,
                ⟨(some 43), .iaddr 1 (.t 39) (.t 40), none⟩,
                ⟨none, .store 1 (.t 43) (.t 42), none⟩])
              .skip))
            (.seq (.seq (.rg [⟨(some 45), .mov (.t 6), none⟩,
              ⟨(some 46), .bin .leq (.c (.p (.int .u8 48))) (.t 45), none⟩,
              ⟨(some 47), .mov (.t 46), none⟩,
              ⟨(some 48), .mov (.t 6), (some (47, true))⟩,
              ⟨(some 49), .bin .leq (.t 48) (.c (.p (.int .u8 57))), (some (47, true))⟩,
              ⟨(some 50), .pick (.t 47) (.t 49) (.c (.p (.bool false))), none⟩,
              ⟨(some 44), .mov (.t 50), none⟩])
            (.cond (.t 44) .skip
              (.seq (.rg [⟨(some 51), .mov (.t 6), none⟩,
                ⟨(some 52), .bin .eql (.t 51) (.c (.p (.int .u8 33))), none⟩,
                ⟨(some 44), .mov (.t 52), none⟩])
              (.cond (.t 44) .skip
                (.seq (.rg [⟨(some 53), .mov (.t 6), none⟩,
                  ⟨(some 54), .bin .eql (.t 53) (.c (.p (.int .u8 35))), none⟩,
                  ⟨(some 44), .mov (.t 54), none⟩])
                (.cond (.t 44) .skip
                  (.seq (.rg [⟨(some 55), .mov (.t 6), none⟩,
                    ⟨(some 56), .bin .eql (.t 55) (.c (.p (.int .u8 36))), none⟩,
                    ⟨(some 44), .mov (.t 56), none⟩])
                  (.cond (.t 44) .skip
                    (.seq (.rg [⟨(some 57), .mov (.t 6), none⟩,
                      ⟨(some 58), .bin .eql (.t 57) (.c (.p (.int .u8 37))), none⟩,
                      ⟨(some 44), .mov (.t 58), none⟩])
                    (.cond (.t 44) .skip
                      (.seq (.rg [⟨(some 59), .mov (.t 6), none⟩,
                        ⟨(some 60), .bin .eql (.t 59) (.c (.p (.int .u8 38))), none⟩,
                        ⟨(some 44), .mov (.t 60), none⟩])
                      (.cond (.t 44) .skip
                        (.seq (.rg [⟨(some 61), .mov (.t 6), none⟩,
                          ⟨(some 62), .bin .eql (.t 61) (.c (.p (.int .u8 39))), none⟩,
                          ⟨(some 44), .mov (.t 62), none⟩])
                        (.cond (.t 44) .skip
                          (.seq (.rg [⟨(some 63), .mov (.t 6), none⟩,
                            ⟨(some 64), .bin .eql (.t 63) (.c (.p (.int .u8 42))), none⟩,
                            ⟨(some 44), .mov (.t 64), none⟩])
                          (.cond (.t 44) .skip
                            (.seq (.rg [⟨(some 65), .mov (.t 6), none⟩,
                              ⟨(some 66), .bin .eql (.t 65) (.c (.p (.int .u8 43))), none⟩,
                              ⟨(some 44), .mov (.t 66), none⟩])
                            (.cond (.t 44) .skip
                              (.seq (.rg [⟨(some 67), .mov (.t 6), none⟩,
                                ⟨(some 68), .bin .eql (.t 67) (.c (.p (.int .u8 45))), none⟩,
                                ⟨(some 44), .mov (.t 68), none⟩])
                              (.cond (.t 44) .skip
                                (.seq (.rg [⟨(some 69), .mov (.t 6), none⟩,
                                  ⟨(some 70), .bin .eql (.t 69) (.c (.p (.int .u8 46))), none⟩,
                                  ⟨(some 44), .mov (.t 70), none⟩])
                                (.cond (.t 44) .skip
                                  (.seq (.rg [⟨(some 71), .mov (.t 6), none⟩,
                                    ⟨(some 72), .bin .eql (.t 71) (.c (.p (.int .u8 94))), none⟩,
                                    ⟨(some 44), .mov (.t 72), none⟩])
                                  (.cond (.t 44) .skip
                                    (.seq (.rg [⟨(some 73), .mov (.t 6), none⟩,
                                      ⟨(some 74), .bin .eql (.t 73) (.c (.p (.int .u8 95))), none⟩,
                                      ⟨(some 44), .mov (.t 74), none⟩])
                                    (.cond (.t 44) .skip
                                      (.seq (.rg [⟨(some 75), .mov (.t 6), none⟩,
                                        ⟨(some 76), .bin .eql (.t 75) (.c (.p (.int .u8 96))), none⟩,
                                        ⟨(some 44), .mov (.t 76), none⟩])
                                      (.cond (.t 44) .skip
                                        (.seq (.rg [⟨(some 77), .mov (.t 6), none⟩,
                                          ⟨(some 78), .bin .eql (.t 77) (.c (.p (.int .u8 124))), none⟩,
                                          ⟨(some 44), .mov (.t 78), none⟩])
                                        (.cond (.t 44) .skip
                                          (.rg [⟨(some 79), .mov (.t 6), none⟩,
                                            ⟨(some 80), .bin .eql (.t 79) (.c (.p (.int .u8 126))), none⟩,
                                            ⟨(some 44), .mov (.t 80), none⟩])))))))))))))))))))))))))))))))
            (.cond (.t 44) .skip
              (.seq (.rg [⟨(some 16), .mov (.t 0), none⟩,
                ⟨(some 2), .mov (.t 16), none⟩])
              .ret))))))))
       (.rg [⟨(some 81), .mov (.t 6), none⟩,
         ⟨(some 82), .bin .eql (.t 81) (.c (.p (.int .u8 45))), none⟩,
         ⟨(some 4), .mov (.t 82), none⟩]))))
      (.rg [⟨(some 83), .bin .add (.t 11) (.c (.p (.int .i64 1))), none⟩,
        ⟨(some 11), .mov (.t 83), none⟩])))))))
    (.seq (.rg [⟨(some 84), .mov (.t 3), none⟩,
      ⟨(some 85), .b2s (.t 84), none⟩,
      ⟨(some 2), .mov (.t 85), none⟩])
    .ret)))))
def r119 : List DR := [.tmp 2]
theorem c119_ok : Try.f119.body.bind (cCode Try.prog) = some c119 := by kernel_rfl
theorem r119_ok : cRes Try.prog Try.f119.results.toList = some r119 := by kernel_rfl

/-- math/bits.OnesCount32 -/
def c120 : DC :=
  (.seq (.rg [⟨(some 2), .mov (.c (.p (.int .i64 0))), none⟩])
    (.seq (.rgd [⟨⟨(some 3), .mov (.t 0), none⟩, 0, []⟩,
      ⟨⟨(some 4), .bin .shr (.t 3) (.c (.p (.int .u64 24))), none⟩, 0, []⟩,
      ⟨⟨(some 5), .idxs (.c (.p (.string ⟨#[0, 1, 1, 2, 1, 2, 2, 3, 1, 2, 2, 3, 2, 3, 3, 4, 1, 2, 2, 3, 2, 3, 3, 4, 2, 3, 3, 4, 3, 4, 4, 5, 1, 2, 2, 3, 2, 3, 3, 4, 2, 3, 3, 4, 3, 4, 4, 5, 2, 3, 3, 4, 3, 4, 4, 5, 3, 4, 4, 5, 4, 5, 5, 6, 1, 2, 2, 3, 2, 3, 3, 4, 2, 3, 3, 4, 3, 4, 4, 5, 2, 3, 3, 4, 3, 4, 4, 5, 3, 4, 4, 5, 4, 5, 5, 6, 2, 3, 3, 4, 3, 4, 4, 5, 3, 4, 4, 5, 4, 5, 5, 6, 3, 4, 4, 5, 4, 5, 5, 6, 4, 5, 5, 6, 5, 6, 6, 7, 1, 2, 2, 3, 2, 3, 3, 4, 2, 3, 3, 4, 3, 4, 4, 5, 2, 3, 3, 4, 3, 4, 4, 5, 3, 4, 4, 5, 4, 5, 5, 6, 2, 3, 3, 4, 3, 4, 4, 5, 3, 4, 4, 5, 4, 5, 5, 6, 3, 4, 4, 5, 4, 5, 5, 6, 4, 5, 5, 6, 5, 6, 6, 7, 2, 3, 3, 4, 3, 4, 4, 5, 3, 4, 4, 5, 4, 5, 5, 6, 3, 4, 4, 5, 4, 5, 5, 6, 4, 5, 5, 6, 5, 6, 6, 7, 3, 4, 4, 5, 4, 5, 5, 6, 4, 5, 5, 6, 5, 6, 6, 7, 4, 5, 5, 6, 5, 6, 6, 7, 5, 6, 6, 7, 6, 7, 7, 8]⟩))) (.t 4), none⟩, 0, []⟩,
      ⟨⟨(some 6), .mov (.t 0), none⟩, 0, []⟩,
      ⟨⟨(some 7), .bin .shr (.t 6) (.c (.p (.int .u64 16))), none⟩, 0, []⟩,
      ⟨⟨(some 8), .bin .and (.t 7) (.c (.p (.int .u32 255))), none⟩, 0, []⟩,
      ⟨⟨(some 9), .idxs (.c (.p (.string ⟨#[0, 1, 1, 2, 1, 2, 2, 3, 1, 2, 2, 3, 2, 3, 3, 4, 1, 2, 2, 3, 2, 3, 3, 4, 2, 3, 3, 4, 3, 4, 4, 5, 1, 2, 2, 3, 2, 3, 3, 4, 2, 3, 3, 4, 3, 4, 4, 5, 2, 3, 3, 4, 3, 4, 4, 5, 3, 4, 4, 5, 4, 5, 5, 6, 1, 2, 2, 3, 2, 3, 3, 4, 2, 3, 3, 4, 3, 4, 4, 5, 2, 3, 3, 4, 3, 4, 4, 5, 3, 4, 4, 5, 4, 5, 5, 6, 2, 3, 3, 4, 3, 4, 4, 5, 3, 4, 4, 5, 4, 5, 5, 6, 3, 4, 4, 5, 4, 5, 5, 6, 4, 5, 5, 6, 5, 6, 6, 7, 1, 2, 2, 3, 2, 3, 3, 4, 2, 3, 3, 4, 3, 4, 4, 5, 2, 3, 3, 4, 3, 4, 4, 5, 3, 4, 4, 5, 4, 5, 5, 6, 2, 3, 3, 4, 3, 4, 4, 5, 3, 4, 4, 5, 4, 5, 5, 6, 3, 4, 4, 5, 4, 5, 5, 6, 4, 5, 5, 6, 5, 6, 6, 7, 2, 3, 3, 4, 3, 4, 4, 5, 3, 4, 4, 5, 4, 5, 5, 6, 3, 4, 4, 5, 4, 5, 5, 6, 4, 5, 5, 6, 5, 6, 6, 7, 3, 4, 4, 5, 4, 5, 5, 6, 4, 5, 5, 6, 5, 6, 6, 7, 4, 5, 5, 6, 5, 6, 6, 7, 5, 6, 6, 7, 6, 7, 7, 8]⟩))) (.t 8), none⟩, 0, []⟩,
      ⟨⟨(some 10), .bin .add (.t 5) (.t 9), none⟩, 0, []⟩,
      ⟨⟨(some 11), .mov (.t 0), none⟩, 0, []⟩,
      ⟨⟨(some 12), .bin .shr (.t 11) (.c (.p (.int .u64 8))), none⟩, 0, []⟩,
      ⟨⟨(some 13), .bin .and (.t 12) (.c (.p (.int .u32 255))), none⟩, 0, []⟩,
      ⟨⟨(some 14), .idxs (.c (.p (.string ⟨#[0, 1, 1, 2, 1, 2, 2, 3, 1, 2, 2, 3, 2, 3, 3, 4, 1, 2, 2, 3, 2, 3, 3, 4, 2, 3, 3, 4, 3, 4, 4, 5, 1, 2, 2, 3, 2, 3, 3, 4, 2, 3, 3, 4, 3, 4, 4, 5, 2, 3, 3, 4, 3, 4, 4, 5, 3, 4, 4, 5, 4, 5, 5, 6, 1, 2, 2, 3, 2, 3, 3, 4, 2, 3, 3, 4, 3, 4, 4, 5, 2, 3, 3, 4, 3, 4, 4, 5, 3, 4, 4, 5, 4, 5, 5, 6, 2, 3, 3, 4, 3, 4, 4, 5, 3, 4, 4, 5, 4, 5, 5, 6, 3, 4, 4, 5, 4, 5, 5, 6, 4, 5, 5, 6, 5, 6, 6, 7, 1, 2, 2, 3, 2, 3, 3, 4, 2, 3, 3, 4, 3, 4, 4, 5, 2, 3, 3, 4, 3, 4, 4, 5, 3, 4, 4, 5, 4, 5, 5, 6, 2, 3, 3, 4, 3, 4, 4, 5, 3, 4, 4, 5, 4, 5, 5, 6, 3, 4, 4, 5, 4, 5, 5, 6, 4, 5, 5, 6, 5, 6, 6, 7, 2, 3, 3, 4, 3, 4, 4, 5, 3, 4, 4, 5, 4, 5, 5, 6, 3, 4, 4, 5, 4, 5, 5, 6, 4, 5, 5, 6, 5, 6, 6, 7, 3, 4, 4, 5, 4, 5, 5, 6, 4, 5, 5, 6, 5, 6, 6, 7, 4, 5, 5, 6, 5, 6, 6, 7, 5, 6, 6, 7, 6, 7, 7, 8]⟩))) (.t 13), none⟩, 0, []⟩,
      ⟨⟨(some 15), .bin .add (.t 10) (.t 14), none⟩, 0, []⟩,
      ⟨⟨(some 16), .mov (.t 0), none⟩, 0, []⟩,
      ⟨⟨(some 17), .bin .and (.t 16) (.c (.p (.int .u32 255))), none⟩, 0, []⟩,
      ⟨⟨(some 18), .idxs (.c (.p (.string ⟨#[0, 1, 1, 2, 1, 2, 2, 3, 1, 2, 2, 3, 2, 3, 3, 4, 1, 2, 2, 3, 2, 3, 3, 4, 2, 3, 3, 4, 3, 4, 4, 5, 1, 2, 2, 3, 2, 3, 3, 4, 2, 3, 3, 4, 3, 4, 4, 5, 2, 3, 3, 4, 3, 4, 4, 5, 3, 4, 4, 5, 4, 5, 5, 6, 1, 2, 2, 3, 2, 3, 3, 4, 2, 3, 3, 4, 3, 4, 4, 5, 2, 3, 3, 4, 3, 4, 4, 5, 3, 4, 4, 5, 4, 5, 5, 6, 2, 3, 3, 4, 3, 4, 4, 5, 3, 4, 4, 5, 4, 5, 5, 6, 3, 4, 4, 5, 4, 5, 5, 6, 4, 5, 5, 6, 5, 6, 6, 7, 1, 2, 2, 3, 2, 3, 3, 4, 2, 3, 3, 4, 3, 4, 4, 5, 2, 3, 3, 4, 3, 4, 4, 5, 3, 4, 4, 5, 4, 5, 5, 6, 2, 3, 3, 4, 3, 4, 4, 5, 3, 4, 4, 5, 4, 5, 5, 6, 3, 4, 4, 5, 4, 5, 5, 6, 4, 5, 5, 6, 5, 6, 6, 7, 2, 3, 3, 4, 3, 4, 4, 5, 3, 4, 4, 5, 4, 5, 5, 6, 3, 4, 4, 5, 4, 5, 5, 6, 4, 5, 5, 6, 5, 6, 6, 7, 3, 4, 4, 5, 4, 5, 5, 6, 4, 5, 5, 6, 5, 6, 6, 7, 4, 5, 5, 6, 5, 6, 6, 7, 5, 6, 6, 7, 6, 7, 7, 8]⟩))) (.t 17), none⟩, 0, []⟩,
      ⟨⟨(some 19), .bin .add (.t 15) (.t 18), none⟩, 0, []⟩,
      ⟨⟨(some 20), .cint .i64 (.t 19), none⟩, 0, []⟩,
      ⟨⟨(some 2), .mov (.t 20), none⟩, 0, []⟩])
    .ret))
def r120 : List DR := [.tmp 2]
theorem c120_ok : Try.f120.body.bind (cCode Try.prog) = some c120 := by kernel_rfl
theorem r120_ok : cRes Try.prog Try.f120.results.toList = some r120 := by kernel_rfl

def tab : Tab := fun f => match f with
  | 11 => some (c11, r11, 80)
  | 41 => some (c41, r41, 34)
  | 42 => some (c42, r42, 7)
  | 43 => some (c43, r43, 13)
  | 44 => some (c44, r44, 42)
  | 45 => some (c45, r45, 7)
  | 46 => some (c46, r46, 7)
  | 79 => some (c79, r79, 11)
  | 80 => some (c80, r80, 27)
  | 81 => some (c81, r81, 25)
  | 82 => some (c82, r82, 6)
  | 83 => some (c83, r83, 23)
  | 84 => some (c84, r84, 15)
  | 85 => some (c85, r85, 9)
  | 86 => some (c86, r86, 7)
  | 87 => some (c87, r87, 9)
  | 88 => some (c88, r88, 5)
  | 89 => some (c89, r89, 30)
  | 119 => some (c119, r119, 86)
  | 120 => some (c120, r120, 21)
  | _ => none
theorem tab_ok : TabOk Try.prog tab := by
  intro f d rs n h
  unfold tab at h
  split at h
  · cases h; exact ⟨_, Try.func11, c11_ok, r11_ok, rfl⟩
  · cases h; exact ⟨_, Try.func41, c41_ok, r41_ok, rfl⟩
  · cases h; exact ⟨_, Try.func42, c42_ok, r42_ok, rfl⟩
  · cases h; exact ⟨_, Try.func43, c43_ok, r43_ok, rfl⟩
  · cases h; exact ⟨_, Try.func44, c44_ok, r44_ok, rfl⟩
  · cases h; exact ⟨_, Try.func45, c45_ok, r45_ok, rfl⟩
  · cases h; exact ⟨_, Try.func46, c46_ok, r46_ok, rfl⟩
  · cases h; exact ⟨_, Try.func79, c79_ok, r79_ok, rfl⟩
  · cases h; exact ⟨_, Try.func80, c80_ok, r80_ok, rfl⟩
  · cases h; exact ⟨_, Try.func81, c81_ok, r81_ok, rfl⟩
  · cases h; exact ⟨_, Try.func82, c82_ok, r82_ok, rfl⟩
  · cases h; exact ⟨_, Try.func83, c83_ok, r83_ok, rfl⟩
  · cases h; exact ⟨_, Try.func84, c84_ok, r84_ok, rfl⟩
  · cases h; exact ⟨_, Try.func85, c85_ok, r85_ok, rfl⟩
  · cases h; exact ⟨_, Try.func86, c86_ok, r86_ok, rfl⟩
  · cases h; exact ⟨_, Try.func87, c87_ok, r87_ok, rfl⟩
  · cases h; exact ⟨_, Try.func88, c88_ok, r88_ok, rfl⟩
  · cases h; exact ⟨_, Try.func89, c89_ok, r89_ok, rfl⟩
  · cases h; exact ⟨_, Try.func119, c119_ok, r119_ok, rfl⟩
  · cases h; exact ⟨_, Try.func120, c120_ok, r120_ok, rfl⟩
  · cases h
end Go.Proofs.Ytbbafeocmchlnaa
