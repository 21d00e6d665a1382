/- The codes of the functions, in the small language of Den. -/
import Derived.Test.YtbbafeocmchlnaaRdD
import Derived.Test.YtbbafeocmchlnaaPrB
import Derived.Test.YtbbafeocmchlnaaHeD
set_option linter.unusedVariables false
set_option linter.unusedSimpArgs false
set_option maxRecDepth 100000
namespace Go.Proofs.Ytbbafeocmchlnaa
open Go Go.Den Go.Proofs

/-- given.example/pub-assaymark/laws.FnProtoServer -/
def c9 : DC :=
  (.seq (.rg [⟨(some 3), .box (.t 0), none⟩,
      ⟨(some 6), .mov (.c (.p (.bool false))), none⟩])
    (.seq (.seq (.rg [⟨(some 14), .load true 8 (.t 3), none⟩,
      ⟨(some 15), .callr 35 [(.t 14)], none⟩,
      ⟨(some 16), .un .not (.t 15), none⟩,
      ⟨(some 17), .mov (.t 16), none⟩,
      ⟨(some 18), .mov (.t 1), (some (17, false))⟩,
      ⟨(some 19), .lens (.t 18), (some (17, false))⟩,
      ⟨(some 20), .bin .gtr (.t 19) (.c (.p (.int .i64 2147483647))), (some (17, false))⟩,
      ⟨(some 21), .pick (.t 17) (.c (.p (.bool true))) (.t 20), none⟩])
    (.cond (.t 21) (.seq (.rg [⟨(some 6), .mov (.c (.p (.bool true))), none⟩])
      .ret)
      .skip))
    (.seq (.seq (.rg [⟨(some 22), .faddr false 0 1 (.t 3), none⟩,
      ⟨(some 23), .load false 1 (.t 22), none⟩,
      ⟨(some 24), .faddr false 1 1 (.t 3), none⟩,
      ⟨(some 25), .load false 1 (.t 24), none⟩,
      ⟨(some 26), .mov (.t 1), none⟩,
      ⟨(some 27), .lit 1 [(.t 23), (.t 25), (.t 26)], none⟩,
      ⟨(some 28), .callr 13 [(.t 27)], none⟩,
      ⟨(some 29), .un .not (.t 28), none⟩])
    (.cond (.t 29) (.seq (.rg [⟨(some 30), .callr 14 [], none⟩,
        ⟨(some 6), .mov (.t 30), none⟩])
      .ret)
      .skip))
    (.seq (.rg [⟨(some 31), .faddr false 2 1 (.t 3), none⟩,
      ⟨none, .store 1 (.t 31) (.c (.p (.string ⟨#[85, 84, 67]⟩))), none⟩,
      ⟨(some 32), .faddr false 3 1 (.t 3), none⟩,
      ⟨none, .store 1 (.t 32) (.c (.p (.string ⟨#[]⟩))), none⟩])
    (.seq (.rg [⟨(some 33), .load true 8 (.t 3), none⟩,
      ⟨(some 34), .callr 36 [(.t 33)], none⟩,
      ⟨(some 7), .mov (.t 34), none⟩])
    (.seq (.seq (.rg [⟨(some 35), .faddr false 4 1 (.t 3), none⟩,
      ⟨(some 36), .load false 1 (.t 35), none⟩,
      ⟨(some 37), .bin .lss (.t 36) (.c (.p (.int .u64 54058))), none⟩])
    (.cond (.t 37) (.rg [⟨(some 38), .faddr false 2 1 (.t 3), none⟩,
        ⟨none, .store 1 (.t 38) (.c (.p (.string ⟨#[]⟩))), none⟩])
      .skip))
    (.seq (.seq (.rg [⟨(some 39), .faddr false 4 1 (.t 3), none⟩,
      ⟨(some 40), .load false 1 (.t 39), none⟩,
      ⟨(some 41), .bin .lss (.t 40) (.c (.p (.int .u64 54372))), none⟩])
    (.cond (.t 41) (.rg [⟨(some 42), .faddr false 1 1 (.t 3), none⟩,
        ⟨none, .store 1 (.t 42) (.c (.p (.string ⟨#[]⟩))), none⟩])
      .skip))
    (.seq (.rg [⟨(some 44), .mov (.t 7), none⟩,
      ⟨(some 45), .mov (.t 1), none⟩,
      ⟨(some 46), .bin .add (.t 44) (.t 45), none⟩,
      ⟨(some 47), .callr 37 [(.t 46)], none⟩,
      ⟨(some 43), .mov (.t 47), none⟩,
      ⟨(some 48), .ext (.t 43) 0, none⟩,
      ⟨(some 49), .ext (.t 43) 1, none⟩,
      ⟨(some 50), .ext (.t 43) 2, none⟩,
      ⟨(some 8), .alloc 8 (.agg [.p (.string ⟨#[]⟩), .p (.string ⟨#[]⟩), .p (.string ⟨#[]⟩), .p (.string ⟨#[]⟩), .p (.int .u64 0), .p (.int .u64 0), .p (.int .u64 0), .p (.int .u64 0)]), none⟩,
      ⟨none, .store 8 (.t 8) (.t 48), none⟩,
      ⟨(some 9), .mov (.t 49), none⟩,
      ⟨(some 10), .mov (.t 50), none⟩])
    (.seq (.rg [⟨(some 52), .mov (.t 7), none⟩,
      ⟨(some 53), .mov (.t 2), none⟩,
      ⟨(some 54), .cint .i64 (.t 53), none⟩,
      ⟨(some 55), .mov (.t 7), none⟩,
      ⟨(some 56), .lens (.t 55), none⟩,
      ⟨(some 57), .bin .rem (.t 54) (.t 56), none⟩,
      ⟨(some 58), .slcs (.t 52) none (some (.t 57)), none⟩,
      ⟨(some 59), .callr 37 [(.t 58)], none⟩,
      ⟨(some 51), .mov (.t 59), none⟩,
      ⟨(some 60), .ext (.t 51) 0, none⟩,
      ⟨(some 61), .ext (.t 51) 1, none⟩,
      ⟨(some 62), .ext (.t 51) 2, none⟩,
      ⟨(some 11), .alloc 8 (.agg [.p (.string ⟨#[]⟩), .p (.string ⟨#[]⟩), .p (.string ⟨#[]⟩), .p (.string ⟨#[]⟩), .p (.int .u64 0), .p (.int .u64 0), .p (.int .u64 0), .p (.int .u64 0)]), none⟩,
      ⟨none, .store 8 (.t 11) (.t 60), none⟩,
      ⟨(some 12), .mov (.t 61), none⟩,
      ⟨(some 13), .mov (.t 62), none⟩])
    (.seq (.seq (.rg [⟨(some 63), .mov (.t 10), none⟩,
      ⟨(some 64), .un .not (.t 63), none⟩,
      ⟨(some 65), .mov (.t 64), none⟩,
      ⟨(some 66), .mov (.t 13), (some (65, false))⟩,
      ⟨(some 67), .pick (.t 65) (.c (.p (.bool true))) (.t 66), none⟩,
      ⟨(some 68), .mov (.t 67), none⟩,
      ⟨(some 69), .mov (.t 9), (some (68, false))⟩,
      ⟨(some 70), .mov (.t 1), (some (68, false))⟩,
      ⟨(some 71), .lens (.t 70), (some (68, false))⟩,
      ⟨(some 72), .bin .neq (.t 69) (.t 71), (some (68, false))⟩,
      ⟨(some 73), .pick (.t 68) (.c (.p (.bool true))) (.t 72), none⟩])
    (.cond (.t 73) (.seq (.rg [⟨(some 6), .mov (.c (.p (.bool false))), none⟩])
      .ret)
      .skip))
    (.seq (.seq (.rg [⟨(some 74), .faddr false 4 1 (.t 3), none⟩,
      ⟨(some 75), .load false 1 (.t 74), none⟩,
      ⟨(some 76), .bin .lss (.t 75) (.c (.p (.int .u64 54401))), none⟩])
    (.cond (.t 76) (.rg [⟨(some 77), .faddr true 5 3 (.t 3), none⟩,
        ⟨(some 78), .faddr false 2 1 (.t 77), none⟩,
        ⟨(some 79), .load false 1 (.t 78), none⟩,
        ⟨(some 80), .faddr true 5 3 (.t 8), none⟩,
        ⟨(some 81), .faddr false 2 1 (.t 80), none⟩,
        ⟨none, .store 1 (.t 81) (.t 79), none⟩])
      .skip))
    (.seq (.seq (.rg [⟨(some 82), .faddr false 4 1 (.t 3), none⟩,
      ⟨(some 83), .load false 1 (.t 82), none⟩,
      ⟨(some 84), .bin .lss (.t 83) (.c (.p (.int .u64 54058))), none⟩])
    (.cond (.t 84) (.rg [⟨(some 85), .faddr false 2 1 (.t 8), none⟩,
        ⟨none, .store 1 (.t 85) (.c (.p (.string ⟨#[]⟩))), none⟩])
      .skip))
    (.seq (.rg [⟨(some 86), .faddr false 3 1 (.t 8), none⟩,
      ⟨none, .store 1 (.t 86) (.c (.p (.string ⟨#[]⟩))), none⟩])
    (.seq (.rg [⟨(some 87), .load true 8 (.t 8), none⟩,
      ⟨(some 88), .load true 8 (.t 3), none⟩,
      ⟨(some 89), .eqs false [.str, .str, .str, .str, .int, .int, .int, .int] (.t 87) (.t 88), none⟩,
      ⟨(some 90), .mov (.t 89), none⟩,
      ⟨(some 91), .callr 14 [], (some (90, true))⟩,
      ⟨(some 92), .pick (.t 90) (.t 91) (.c (.p (.bool false))), none⟩,
      ⟨(some 6), .mov (.t 92), none⟩])
    .ret))))))))))))))
def r9 : List DR := [.tmp 6]
theorem c9_ok : Try.f9.body.bind (cCode Try.prog) = some c9 := by kernel_rfl
theorem r9_ok : cRes Try.prog Try.f9.results.toList = some r9 := by kernel_rfl

/-- given.example/pub-assaymark/laws.zzFits21 -/
def c35 : DC :=
  (.seq (.rg [⟨(some 1), .box (.t 0), none⟩,
      ⟨(some 2), .mov (.c (.p (.bool false))), none⟩])
    (.seq (.seq (.rg [⟨(some 3), .faddr false 0 1 (.t 1), none⟩,
      ⟨(some 4), .load false 1 (.t 3), none⟩,
      ⟨(some 5), .lens (.t 4), none⟩,
      ⟨(some 6), .bin .gtr (.t 5) (.c (.p (.int .i64 2147483647))), none⟩])
    (.cond (.t 6) (.seq (.rg [⟨(some 2), .mov (.c (.p (.bool false))), none⟩])
      .ret)
      .skip))
    (.seq (.seq (.rg [⟨(some 7), .faddr false 1 1 (.t 1), none⟩,
      ⟨(some 8), .load false 1 (.t 7), none⟩,
      ⟨(some 9), .lens (.t 8), none⟩,
      ⟨(some 10), .bin .gtr (.t 9) (.c (.p (.int .i64 2147483647))), none⟩])
    (.cond (.t 10) (.seq (.rg [⟨(some 2), .mov (.c (.p (.bool false))), none⟩])
      .ret)
      .skip))
    (.seq (.seq (.rg [⟨(some 11), .faddr false 2 1 (.t 1), none⟩,
      ⟨(some 12), .load false 1 (.t 11), none⟩,
      ⟨(some 13), .lens (.t 12), none⟩,
      ⟨(some 14), .bin .gtr (.t 13) (.c (.p (.int .i64 2147483647))), none⟩])
    (.cond (.t 14) (.seq (.rg [⟨(some 2), .mov (.c (.p (.bool false))), none⟩])
      .ret)
      .skip))
    (.seq (.seq (.rg [⟨(some 15), .faddr false 3 1 (.t 1), none⟩,
      ⟨(some 16), .load false 1 (.t 15), none⟩,
      ⟨(some 17), .lens (.t 16), none⟩,
      ⟨(some 18), .bin .gtr (.t 17) (.c (.p (.int .i64 2147483647))), none⟩])
    (.cond (.t 18) (.seq (.rg [⟨(some 2), .mov (.c (.p (.bool false))), none⟩])
      .ret)
      .skip))
    (.seq (.rg [⟨(some 2), .mov (.c (.p (.bool true))), none⟩])
    .ret))))))
def r35 : List DR := [.tmp 2]
theorem c35_ok : Try.f35.body.bind (cCode Try.prog) = some c35 := by kernel_rfl
theorem r35_ok : cRes Try.prog Try.f35.results.toList = some r35 := by kernel_rfl

/-- given.example/pub-assaymark/spec.ProtoServerWrite -/
def c36 : DC :=
  (.seq (.rg [⟨(some 1), .box (.t 0), none⟩,
      ⟨(some 2), .mov (.c (.p (.string ⟨#[]⟩))), none⟩])
    (.seq (.rgd [⟨⟨(some 4), .faddr false 0 1 (.t 1), none⟩, 0, [0]⟩,
      ⟨⟨(some 5), .load false 1 (.t 4), none⟩, 0, [0]⟩,
      ⟨⟨(some 6), .call 16 [(.t 5)], none⟩, 0, [0]⟩,
      ⟨⟨(some 7), .faddr true 5 3 (.t 1), none⟩, 0, [0]⟩,
      ⟨⟨(some 8), .faddr false 0 1 (.t 7), none⟩, 0, [0]⟩,
      ⟨⟨(some 9), .load false 1 (.t 8), none⟩, 0, [0]⟩,
      ⟨⟨(some 10), .call 17 [(.t 9)], none⟩, 1, [0]⟩,
      ⟨⟨(some 11), .bin .add (.t 6) (.t 10), none⟩, 2, [0]⟩,
      ⟨⟨(some 12), .faddr true 5 3 (.t 1), none⟩, 0, [0]⟩,
      ⟨⟨(some 13), .faddr false 1 1 (.t 12), none⟩, 0, [0]⟩,
      ⟨⟨(some 14), .load false 1 (.t 13), none⟩, 0, [0]⟩,
      ⟨⟨(some 15), .call 17 [(.t 14)], none⟩, 2, [0]⟩,
      ⟨⟨(some 16), .bin .add (.t 11) (.t 15), none⟩, 3, [0]⟩,
      ⟨⟨(some 17), .faddr false 4 1 (.t 1), none⟩, 0, [0]⟩,
      ⟨⟨(some 18), .load false 1 (.t 17), none⟩, 0, [0]⟩,
      ⟨⟨(some 19), .call 17 [(.t 18)], none⟩, 3, []⟩,
      ⟨⟨(some 20), .bin .add (.t 16) (.t 19), none⟩, 4, []⟩,
      ⟨⟨(some 3), .mov (.t 20), none⟩, 4, []⟩])
    (.seq (.seq (.rg [⟨(some 21), .faddr false 4 1 (.t 1), none⟩,
      ⟨(some 22), .load false 1 (.t 21), none⟩,
      ⟨(some 23), .bin .geq (.t 22) (.c (.p (.int .u64 54058))), none⟩])
    (.cond (.t 23) (.rg [⟨(some 24), .mov (.t 3), none⟩,
        ⟨(some 25), .faddr false 2 1 (.t 1), none⟩,
        ⟨(some 26), .load false 1 (.t 25), none⟩,
        ⟨(some 27), .callr 16 [(.t 26)], none⟩,
        ⟨(some 28), .bin .add (.t 24) (.t 27), none⟩,
        ⟨(some 3), .mov (.t 28), none⟩])
      .skip))
    (.seq (.seq (.rg [⟨(some 29), .faddr false 4 1 (.t 1), none⟩,
      ⟨(some 30), .load false 1 (.t 29), none⟩,
      ⟨(some 31), .bin .geq (.t 30) (.c (.p (.int .u64 54372))), none⟩])
    (.cond (.t 31) (.rg [⟨(some 32), .mov (.t 3), none⟩,
        ⟨(some 33), .faddr false 1 1 (.t 1), none⟩,
        ⟨(some 34), .load false 1 (.t 33), none⟩,
        ⟨(some 35), .callr 16 [(.t 34)], none⟩,
        ⟨(some 36), .bin .add (.t 32) (.t 35), none⟩,
        ⟨(some 3), .mov (.t 36), none⟩])
      .skip))
    (.seq (.seq (.rg [⟨(some 37), .faddr false 4 1 (.t 1), none⟩,
      ⟨(some 38), .load false 1 (.t 37), none⟩,
      ⟨(some 39), .bin .geq (.t 38) (.c (.p (.int .u64 54401))), none⟩])
    (.cond (.t 39) (.rg [⟨(some 40), .mov (.t 3), none⟩,
        ⟨(some 41), .faddr true 5 3 (.t 1), none⟩,
        ⟨(some 42), .faddr false 2 1 (.t 41), none⟩,
        ⟨(some 43), .load false 1 (.t 42), none⟩,
        ⟨(some 44), .callr 17 [(.t 43)], none⟩,
        ⟨(some 45), .bin .add (.t 40) (.t 44), none⟩,
        ⟨(some 3), .mov (.t 45), none⟩])
      .skip))
    (.seq (.rg [⟨(some 46), .mov (.t 3), none⟩,
      ⟨(some 2), .mov (.t 46), none⟩])
    .ret))))))
def r36 : List DR := [.tmp 2]
theorem c36_ok : Try.f36.body.bind (cCode Try.prog) = some c36 := by kernel_rfl
theorem r36_ok : cRes Try.prog Try.f36.results.toList = some r36 := by kernel_rfl

/-- given.example/pub-assaymark/impl.ProtoServerRead -/
def c37 : DC :=
  (.seq (.rg [⟨(some 2), .alloc 8 (.agg [.p (.string ⟨#[]⟩), .p (.string ⟨#[]⟩), .p (.string ⟨#[]⟩), .p (.string ⟨#[]⟩), .p (.int .u64 0), .p (.int .u64 0), .p (.int .u64 0), .p (.int .u64 0)]), none⟩,
      ⟨(some 3), .mov (.c (.p (.int .i64 0))), none⟩,
      ⟨(some 4), .mov (.c (.p (.bool false))), none⟩])
    (.seq (.rg [⟨(some 7), .mov (.t 0), none⟩,
      ⟨(some 8), .callr 60 [(.t 7)], none⟩,
      ⟨(some 5), .mov (.t 8), none⟩])
    (.seq (.rg [⟨(some 6), .alloc 7 (.agg [.p (.string ⟨#[]⟩), .p (.string ⟨#[]⟩), .p (.int .u64 0), .p (.int .u64 0), .p (.int .u64 0), .p (.int .u64 0), .p (.pointer none)]), none⟩])
    (.seq (.seq (.rg [⟨(some 9), .mov (.t 5), none⟩,
      ⟨(some 10), .callr 74 [(.t 6), (.t 9)], none⟩,
      ⟨(some 11), .eqn true .iface (.t 10), none⟩])
    (.cond (.t 11) (.seq (.rg [⟨(some 12), .load true 8 (.t 2), none⟩,
        ⟨none, .store 8 (.t 2) (.t 12), none⟩,
        ⟨(some 3), .mov (.c (.p (.int .i64 0))), none⟩,
        ⟨(some 4), .mov (.c (.p (.bool false))), none⟩])
      .ret)
      .skip))
    (.seq (.rgd [⟨⟨(some 13), .faddr false 0 1 (.t 6), none⟩, 0, [0]⟩,
      ⟨⟨(some 14), .load false 1 (.t 13), none⟩, 0, [0]⟩,
      ⟨⟨(some 15), .faddr false 1 1 (.t 6), none⟩, 0, [0]⟩,
      ⟨⟨(some 16), .load false 1 (.t 15), none⟩, 0, [0]⟩,
      ⟨⟨(some 17), .load true 7 (.t 6), none⟩, 0, [0]⟩,
      ⟨⟨(some 18), .call 75 [(.t 17)], none⟩, 0, [0]⟩,
      ⟨⟨(some 19), .faddr false 2 1 (.t 6), none⟩, 0, [0]⟩,
      ⟨⟨(some 20), .load false 1 (.t 19), none⟩, 0, [0]⟩,
      ⟨⟨(some 21), .faddr true 3 3 (.t 6), none⟩, 0, [0]⟩,
      ⟨⟨(some 22), .load true 3 (.t 21), none⟩, 0, [0]⟩,
      ⟨⟨(some 23), .call 71 [(.t 22)], none⟩, 1, [0]⟩,
      ⟨⟨(some 24), .bld [.p (.string ⟨#[]⟩), .p (.string ⟨#[]⟩), .p (.string ⟨#[]⟩), .p (.string ⟨#[]⟩), .p (.int .u64 0), .p (.int .u64 0), .p (.int .u64 0), .p (.int .u64 0)] [(0, 1, (.t 14)), (1, 1, (.t 16)), (3, 1, (.t 18)), (4, 1, (.t 20)), (5, 3, (.t 23))], none⟩, 2, []⟩,
      ⟨⟨none, .store 8 (.t 2) (.t 24), none⟩, 2, []⟩])
    (.seq (.seq (.rg [⟨(some 25), .faddr false 6 1 (.t 6), none⟩,
      ⟨(some 26), .load false 1 (.t 25), none⟩,
      ⟨(some 27), .eqn true .ptr (.t 26), none⟩])
    (.cond (.t 27) (.rg [⟨(some 28), .faddr false 6 1 (.t 6), none⟩,
        ⟨(some 29), .load false 1 (.t 28), none⟩,
        ⟨(some 30), .callr 76 [(.t 29)], none⟩,
        ⟨(some 31), .faddr false 2 1 (.t 2), none⟩,
        ⟨none, .store 1 (.t 31) (.t 30), none⟩])
      .skip))
    (.seq (.rgd [⟨⟨(some 32), .load true 8 (.t 2), none⟩, 0, [0]⟩,
      ⟨⟨(some 33), .mov (.t 5), none⟩, 0, [0]⟩,
      ⟨⟨(some 34), .call 63 [(.t 33)], none⟩, 0, [0]⟩,
      ⟨⟨none, .store 8 (.t 2) (.t 32), none⟩, 1, []⟩,
      ⟨⟨(some 3), .mov (.t 34), none⟩, 2, []⟩,
      ⟨⟨(some 4), .mov (.c (.p (.bool true))), none⟩, 2, []⟩])
    .ret)))))))
def r37 : List DR := [.cell 2 true 8, .tmp 3, .tmp 4]
theorem c37_ok : Try.f37.body.bind (cCode Try.prog) = some c37 := by kernel_rfl
theorem r37_ok : cRes Try.prog Try.f37.results.toList = some r37 := by kernel_rfl

/-- (*given.example/pub-assaymark/pub/clickhousego/lib/proto.ServerHandshake).Decode -/
def c74 : DC :=
  (.seq (.rg [⟨(some 4), .mov (.c (.p .nilIface)), none⟩])
    (.seq (.seq (.rg [⟨(some 8), .mov (.t 0), none⟩,
      ⟨(some 9), .mov (.t 1), none⟩,
      ⟨(some 10), .callr 109 [(.t 9)], none⟩,
      ⟨(some 7), .mov (.t 10), none⟩,
      ⟨(some 11), .ext (.t 7) 0, none⟩,
      ⟨(some 12), .ext (.t 7) 1, none⟩,
      ⟨(some 13), .nilchk .ptr (.t 8), none⟩,
      ⟨(some 14), .faddr false 0 1 (.t 13), none⟩,
      ⟨none, .store 1 (.t 14) (.t 11), none⟩,
      ⟨(some 4), .mov (.t 12), none⟩])
    (.seq (.rg [⟨(some 15), .mov (.t 4), none⟩,
      ⟨(some 16), .eqn true .iface (.t 15), none⟩])
    (.cond (.t 16) (.seq (.rg [⟨(some 17), .callr 114 [(.c (.p (.string ⟨#[99, 111, 117, 108, 100, 32, 110, 111, 116, 32, 114, 101, 97, 100, 32, 115, 101, 114, 118, 101, 114, 32, 110, 97, 109, 101, 58, 32, 37, 118]⟩)))], none⟩,
        ⟨(some 4), .mov (.t 17), none⟩])
      .ret)
      .skip)))
    (.seq (.seq (.rg [⟨(some 19), .mov (.t 0), none⟩,
      ⟨(some 20), .mov (.t 1), none⟩,
      ⟨(some 21), .callr 104 [(.t 20)], none⟩,
      ⟨(some 18), .mov (.t 21), none⟩,
      ⟨(some 22), .ext (.t 18) 0, none⟩,
      ⟨(some 23), .ext (.t 18) 1, none⟩,
      ⟨(some 24), .nilchk .ptr (.t 19), none⟩,
      ⟨(some 25), .faddr true 3 3 (.t 24), none⟩,
      ⟨(some 26), .faddr false 0 1 (.t 25), none⟩,
      ⟨none, .store 1 (.t 26) (.t 22), none⟩,
      ⟨(some 4), .mov (.t 23), none⟩])
    (.seq (.rg [⟨(some 27), .mov (.t 4), none⟩,
      ⟨(some 28), .eqn true .iface (.t 27), none⟩])
    (.cond (.t 28) (.seq (.rg [⟨(some 29), .callr 114 [(.c (.p (.string ⟨#[99, 111, 117, 108, 100, 32, 110, 111, 116, 32, 114, 101, 97, 100, 32, 115, 101, 114, 118, 101, 114, 32, 109, 97, 106, 111, 114, 32, 118, 101, 114, 115, 105, 111, 110, 58, 32, 37, 118]⟩)))], none⟩,
        ⟨(some 4), .mov (.t 29), none⟩])
      .ret)
      .skip)))
    (.seq (.seq (.rg [⟨(some 31), .mov (.t 0), none⟩,
      ⟨(some 32), .mov (.t 1), none⟩,
      ⟨(some 33), .callr 104 [(.t 32)], none⟩,
      ⟨(some 30), .mov (.t 33), none⟩,
      ⟨(some 34), .ext (.t 30) 0, none⟩,
      ⟨(some 35), .ext (.t 30) 1, none⟩,
      ⟨(some 36), .nilchk .ptr (.t 31), none⟩,
      ⟨(some 37), .faddr true 3 3 (.t 36), none⟩,
      ⟨(some 38), .faddr false 1 1 (.t 37), none⟩,
      ⟨none, .store 1 (.t 38) (.t 34), none⟩,
      ⟨(some 4), .mov (.t 35), none⟩])
    (.seq (.rg [⟨(some 39), .mov (.t 4), none⟩,
      ⟨(some 40), .eqn true .iface (.t 39), none⟩])
    (.cond (.t 40) (.seq (.rg [⟨(some 41), .callr 114 [(.c (.p (.string ⟨#[99, 111, 117, 108, 100, 32, 110, 111, 116, 32, 114, 101, 97, 100, 32, 115, 101, 114, 118, 101, 114, 32, 109, 105, 110, 111, 114, 32, 118, 101, 114, 115, 105, 111, 110, 58, 32, 37, 118]⟩)))], none⟩,
        ⟨(some 4), .mov (.t 41), none⟩])
      .ret)
      .skip)))
    (.seq (.seq (.rg [⟨(some 43), .mov (.t 0), none⟩,
      ⟨(some 44), .mov (.t 1), none⟩,
      ⟨(some 45), .callr 104 [(.t 44)], none⟩,
      ⟨(some 42), .mov (.t 45), none⟩,
      ⟨(some 46), .ext (.t 42) 0, none⟩,
      ⟨(some 47), .ext (.t 42) 1, none⟩,
      ⟨(some 48), .nilchk .ptr (.t 43), none⟩,
      ⟨(some 49), .faddr false 2 1 (.t 48), none⟩,
      ⟨none, .store 1 (.t 49) (.t 46), none⟩,
      ⟨(some 4), .mov (.t 47), none⟩])
    (.seq (.rg [⟨(some 50), .mov (.t 4), none⟩,
      ⟨(some 51), .eqn true .iface (.t 50), none⟩])
    (.cond (.t 51) (.seq (.rg [⟨(some 52), .callr 114 [(.c (.p (.string ⟨#[99, 111, 117, 108, 100, 32, 110, 111, 116, 32, 114, 101, 97, 100, 32, 115, 101, 114, 118, 101, 114, 32, 114, 101, 118, 105, 115, 105, 111, 110, 58, 32, 37, 118]⟩)))], none⟩,
        ⟨(some 4), .mov (.t 52), none⟩])
      .ret)
      .skip)))
    (.seq (.seq (.rg [⟨(some 53), .mov (.t 0), none⟩,
      ⟨(some 54), .nilchk .ptr (.t 53), none⟩,
      ⟨(some 55), .faddr false 2 1 (.t 54), none⟩,
      ⟨(some 56), .load false 1 (.t 55), none⟩,
      ⟨(some 57), .bin .geq (.t 56) (.c (.p (.int .u64 54058))), none⟩])
    (.cond (.t 57) (.seq (.rg [⟨(some 59), .mov (.t 1), none⟩,
        ⟨(some 60), .callr 109 [(.t 59)], none⟩,
        ⟨(some 58), .mov (.t 60), none⟩,
        ⟨(some 61), .ext (.t 58) 0, none⟩,
        ⟨(some 62), .ext (.t 58) 1, none⟩,
        ⟨(some 5), .mov (.t 61), none⟩,
        ⟨(some 6), .mov (.t 62), none⟩])
      (.seq (.seq (.rg [⟨(some 63), .mov (.t 6), none⟩,
        ⟨(some 64), .eqn true .iface (.t 63), none⟩])
      (.cond (.t 64) (.seq (.rg [⟨(some 65), .callr 114 [(.c (.p (.string ⟨#[99, 111, 117, 108, 100, 32, 110, 111, 116, 32, 114, 101, 97, 100, 32, 115, 101, 114, 118, 101, 114, 32, 116, 105, 109, 101, 122, 111, 110, 101, 58, 32, 37, 118]⟩)))], none⟩,
          ⟨(some 4), .mov (.t 65), none⟩])
        .ret)
        .skip))
      (.seq (.rg [⟨(some 67), .mov (.t 0), none⟩,
        ⟨(some 68), .mov (.t 5), none⟩,
        ⟨(some 69), .callr 115 [(.t 68)], none⟩,
        ⟨(some 66), .mov (.t 69), none⟩,
        ⟨(some 70), .ext (.t 66) 0, none⟩,
        ⟨(some 71), .ext (.t 66) 1, none⟩,
        ⟨(some 72), .nilchk .ptr (.t 67), none⟩,
        ⟨(some 73), .faddr false 6 1 (.t 72), none⟩,
        ⟨none, .store 1 (.t 73) (.t 70), none⟩,
        ⟨(some 6), .mov (.t 71), none⟩])
      (.seq (.rg [⟨(some 74), .mov (.t 6), none⟩,
        ⟨(some 75), .eqn true .iface (.t 74), none⟩])
      (.cond (.t 75) (.seq (.rg [⟨(some 76), .callr 114 [(.c (.p (.string ⟨#[99, 111, 117, 108, 100, 32, 110, 111, 116, 32, 108, 111, 97, 100, 32, 116, 105, 109, 101, 32, 108, 111, 99, 97, 116, 105, 111, 110, 58, 32, 37, 118]⟩)))], none⟩,
          ⟨(some 4), .mov (.t 76), none⟩])
        .ret)
        .skip)))))
      .skip))
    (.seq (.seq (.rg [⟨(some 77), .mov (.t 0), none⟩,
      ⟨(some 78), .nilchk .ptr (.t 77), none⟩,
      ⟨(some 79), .faddr false 2 1 (.t 78), none⟩,
      ⟨(some 80), .load false 1 (.t 79), none⟩,
      ⟨(some 81), .bin .geq (.t 80) (.c (.p (.int .u64 54372))), none⟩])
    (.cond (.t 81) (.seq (.rg [⟨(some 83), .mov (.t 0), none⟩,
        ⟨(some 84), .mov (.t 1), none⟩,
        ⟨(some 85), .callr 109 [(.t 84)], none⟩,
        ⟨(some 82), .mov (.t 85), none⟩,
        ⟨(some 86), .ext (.t 82) 0, none⟩,
        ⟨(some 87), .ext (.t 82) 1, none⟩,
        ⟨(some 88), .nilchk .ptr (.t 83), none⟩,
        ⟨(some 89), .faddr false 1 1 (.t 88), none⟩,
        ⟨none, .store 1 (.t 89) (.t 86), none⟩,
        ⟨(some 4), .mov (.t 87), none⟩])
      (.seq (.rg [⟨(some 90), .mov (.t 4), none⟩,
        ⟨(some 91), .eqn true .iface (.t 90), none⟩])
      (.cond (.t 91) (.seq (.rg [⟨(some 92), .callr 114 [(.c (.p (.string ⟨#[99, 111, 117, 108, 100, 32, 110, 111, 116, 32, 114, 101, 97, 100, 32, 115, 101, 114, 118, 101, 114, 32, 100, 105, 115, 112, 108, 97, 121, 32, 110, 97, 109, 101, 58, 32, 37, 118]⟩)))], none⟩,
          ⟨(some 4), .mov (.t 92), none⟩])
        .ret)
        .skip)))
      .skip))
    (.seq (.seq (.rg [⟨(some 93), .mov (.t 0), none⟩,
      ⟨(some 94), .nilchk .ptr (.t 93), none⟩,
      ⟨(some 95), .faddr false 2 1 (.t 94), none⟩,
      ⟨(some 96), .load false 1 (.t 95), none⟩,
      ⟨(some 97), .bin .geq (.t 96) (.c (.p (.int .u64 54401))), none⟩])
    (.cond (.t 97) (.seq (.rg [⟨(some 99), .mov (.t 0), none⟩,
        ⟨(some 100), .mov (.t 1), none⟩,
        ⟨(some 101), .callr 104 [(.t 100)], none⟩,
        ⟨(some 98), .mov (.t 101), none⟩,
        ⟨(some 102), .ext (.t 98) 0, none⟩,
        ⟨(some 103), .ext (.t 98) 1, none⟩,
        ⟨(some 104), .nilchk .ptr (.t 99), none⟩,
        ⟨(some 105), .faddr true 3 3 (.t 104), none⟩,
        ⟨(some 106), .faddr false 2 1 (.t 105), none⟩,
        ⟨none, .store 1 (.t 106) (.t 102), none⟩,
        ⟨(some 4), .mov (.t 103), none⟩])
      (.seq (.rg [⟨(some 107), .mov (.t 4), none⟩,
        ⟨(some 108), .eqn true .iface (.t 107), none⟩])
      (.cond (.t 108) (.seq (.rg [⟨(some 109), .callr 114 [(.c (.p (.string ⟨#[99, 111, 117, 108, 100, 32, 110, 111, 116, 32, 114, 101, 97, 100, 32, 115, 101, 114, 118, 101, 114, 32, 112, 97, 116, 99, 104, 58, 32, 37, 118]⟩)))], none⟩,
          ⟨(some 4), .mov (.t 109), none⟩])
        .ret)
        .skip)))
      (.rg [⟨(some 110), .mov (.t 0), none⟩,
        ⟨(some 111), .mov (.t 0), none⟩,
        ⟨(some 112), .nilchk .ptr (.t 111), none⟩,
        ⟨(some 113), .faddr false 2 1 (.t 112), none⟩,
        ⟨(some 114), .load false 1 (.t 113), none⟩,
        ⟨(some 115), .nilchk .ptr (.t 110), none⟩,
        ⟨(some 116), .faddr true 3 3 (.t 115), none⟩,
        ⟨(some 117), .faddr false 2 1 (.t 116), none⟩,
        ⟨none, .store 1 (.t 117) (.t 114), none⟩])))
    (.seq (.rg [⟨(some 4), .mov (.c (.p .nilIface)), none⟩])
    .ret)))))))))
def r74 : List DR := [.tmp 4]
theorem c74_ok : Try.f74.body.bind (cCode Try.prog) = some c74 := by kernel_rfl
theorem r74_ok : cRes Try.prog Try.f74.results.toList = some r74 := by kernel_rfl

/-- (given.example/pub-assaymark/pub/clickhousego/lib/proto.ServerHandshake).String -/
def c75 : DC :=
  (.seq (.rg [⟨(some 1), .box (.t 0), none⟩,
      ⟨(some 2), .mov (.c (.p (.string ⟨#[]⟩))), none⟩])
    (.seq (.rg [⟨(some 3), .mov (.c (.p (.string ⟨#[37, 33, 115, 40, 42, 116, 105, 109, 101, 46, 76, 111, 99, 97, 116, 105, 111, 110, 61, 60, 110, 105, 108, 62, 41]⟩))), none⟩])
    (.seq (.seq (.rg [⟨(some 4), .faddr false 6 1 (.t 1), none⟩,
      ⟨(some 5), .load false 1 (.t 4), none⟩,
      ⟨(some 6), .eqn true .ptr (.t 5), none⟩])
    (.cond (.t 6) (.rg [⟨(some 7), .faddr false 6 1 (.t 1), none⟩,
        ⟨(some 8), .load false 1 (.t 7), none⟩,
        ⟨(some 9), .callr 76 [(.t 8)], none⟩,
        ⟨(some 3), .mov (.t 9), none⟩])
      .skip))
    (.seq (.rgd [⟨⟨(some 10), .faddr false 0 1 (.t 1), none⟩, 0, [0]⟩,
      ⟨⟨(some 11), .load false 1 (.t 10), none⟩, 0, [0]⟩,
      ⟨⟨(some 12), .bin .add (.t 11) (.c (.p (.string ⟨#[32, 40]⟩))), none⟩, 0, [0]⟩,
      ⟨⟨(some 13), .faddr false 1 1 (.t 1), none⟩, 0, [0]⟩,
      ⟨⟨(some 14), .load false 1 (.t 13), none⟩, 0, [0]⟩,
      ⟨⟨(some 15), .bin .add (.t 12) (.t 14), none⟩, 0, [0]⟩,
      ⟨⟨(some 16), .bin .add (.t 15) (.c (.p (.string ⟨#[41, 32, 115, 101, 114, 118, 101, 114, 32, 118, 101, 114, 115, 105, 111, 110, 32]⟩))), none⟩, 0, [0]⟩,
      ⟨⟨(some 17), .faddr true 3 3 (.t 1), none⟩, 0, [0]⟩,
      ⟨⟨(some 18), .load true 3 (.t 17), none⟩, 0, [0]⟩,
      ⟨⟨(some 19), .call 70 [(.t 18)], none⟩, 0, [0]⟩,
      ⟨⟨(some 20), .bin .add (.t 16) (.t 19), none⟩, 1, [0]⟩,
      ⟨⟨(some 21), .bin .add (.t 20) (.c (.p (.string ⟨#[32, 114, 101, 118, 105, 115, 105, 111, 110, 32]⟩))), none⟩, 1, [0]⟩,
      ⟨⟨(some 22), .faddr false 2 1 (.t 1), none⟩, 0, [0]⟩,
      ⟨⟨(some 23), .load false 1 (.t 22), none⟩, 0, [0]⟩,
      ⟨⟨(some 24), .call 107 [(.t 23), (.c (.p (.int .i64 10)))], none⟩, 1, [0]⟩,
      ⟨⟨(some 25), .bin .add (.t 21) (.t 24), none⟩, 2, []⟩,
      ⟨⟨(some 26), .bin .add (.t 25) (.c (.p (.string ⟨#[32, 40, 116, 105, 109, 101, 122, 111, 110, 101, 32]⟩))), none⟩, 2, []⟩,
      ⟨⟨(some 27), .mov (.t 3), none⟩, 0, [0]⟩,
      ⟨⟨(some 28), .bin .add (.t 26) (.t 27), none⟩, 2, []⟩,
      ⟨⟨(some 29), .bin .add (.t 28) (.c (.p (.string ⟨#[41]⟩))), none⟩, 2, []⟩,
      ⟨⟨(some 2), .mov (.t 29), none⟩, 2, []⟩])
    .ret))))
def r75 : List DR := [.tmp 2]
theorem c75_ok : Try.f75.body.bind (cCode Try.prog) = some c75 := by kernel_rfl
theorem r75_ok : cRes Try.prog Try.f75.results.toList = some r75 := by kernel_rfl

/-- (*given.example/pub-assaymark/pub/gotime.Location).String -/
def c76 : DC :=
  (.seq (.rg [⟨(some 2), .mov (.c (.p (.string ⟨#[]⟩))), none⟩])
    (.seq (.rg [⟨(some 3), .mov (.t 0), none⟩,
      ⟨(some 4), .callr 116 [(.t 3)], none⟩,
      ⟨(some 5), .nilchk .ptr (.t 4), none⟩,
      ⟨(some 6), .faddr false 0 1 (.t 5), none⟩,
      ⟨(some 7), .load false 1 (.t 6), none⟩,
      ⟨(some 2), .mov (.t 7), none⟩])
    .ret))
def r76 : List DR := [.tmp 2]
theorem c76_ok : Try.f76.body.bind (cCode Try.prog) = some c76 := by kernel_rfl
theorem r76_ok : cRes Try.prog Try.f76.results.toList = some r76 := by kernel_rfl

/-- errors.New -/
def c114 : DC :=
  (.seq (.rg [⟨(some 2), .mov (.c (.p .nilIface)), none⟩])
    (.seq (.rg [⟨(some 3), .mov (.t 0), none⟩,
      ⟨(some 4), .bld [.p (.string ⟨#[]⟩)] [(0, 1, (.t 3))], none⟩,
      ⟨(some 5), .box (.t 4), none⟩,
      ⟨(some 6), .ifc 246 (.t 5), none⟩,
      ⟨(some 2), .mov (.t 6), none⟩])
    .ret))
def r114 : List DR := [.tmp 2]
theorem c114_ok : Try.f114.body.bind (cCode Try.prog) = some c114 := by kernel_rfl
theorem r114_ok : cRes Try.prog Try.f114.results.toList = some r114 := by kernel_rfl

/-- given.example/pub-assaymark/pub/gotime.LoadLocation -/
def c115 : DC :=
  (.seq (.rg [⟨(some 2), .mov (.c (.p (.pointer none))), none⟩,
      ⟨(some 3), .mov (.c (.p .nilIface)), none⟩])
    (.seq (.seq (.rg [⟨(some 4), .mov (.t 0), none⟩,
      ⟨(some 5), .bin .eql (.t 4) (.c (.p (.string ⟨#[]⟩))), none⟩,
      ⟨(some 6), .mov (.t 5), none⟩,
      ⟨(some 7), .mov (.t 0), (some (6, false))⟩,
      ⟨(some 8), .bin .eql (.t 7) (.c (.p (.string ⟨#[85, 84, 67]⟩))), (some (6, false))⟩,
      ⟨(some 9), .pick (.t 6) (.c (.p (.bool true))) (.t 8), none⟩])
    (.cond (.t 9) (.seq (.rg [⟨(some 10), .callr 149 [], none⟩,
        ⟨(some 2), .mov (.t 10), none⟩,
        ⟨(some 3), .mov (.c (.p .nilIface)), none⟩])
      .ret)
      .skip))
    (.seq (.seq (.rg [⟨(some 11), .mov (.t 0), none⟩,
      ⟨(some 12), .bin .eql (.t 11) (.c (.p (.string ⟨#[76, 111, 99, 97, 108]⟩))), none⟩])
    (.cond (.t 12) (.seq (.rg [⟨(some 13), .callr 150 [], none⟩,
        ⟨(some 2), .mov (.t 13), none⟩,
        ⟨(some 3), .mov (.c (.p .nilIface)), none⟩])
      .ret)
      .skip))
    (.seq (.rg [⟨(some 14), .ifc 249 (.c (.p (.string ⟨#[116, 105, 109, 101, 58, 32, 105, 110, 118, 97, 108, 105, 100, 32, 108, 111, 99, 97, 116, 105, 111, 110, 32, 110, 97, 109, 101]⟩))), none⟩,
      ⟨(some 2), .mov (.c (.p (.pointer none))), none⟩,
      ⟨(some 3), .mov (.t 14), none⟩])
    .ret))))
def r115 : List DR := [.tmp 2, .tmp 3]
theorem c115_ok : Try.f115.body.bind (cCode Try.prog) = some c115 := by kernel_rfl
theorem r115_ok : cRes Try.prog Try.f115.results.toList = some r115 := by kernel_rfl

/-- (*given.example/pub-assaymark/pub/gotime.Location).get -/
def c116 : DC :=
  (.seq (.rg [⟨(some 2), .mov (.c (.p (.pointer none))), none⟩])
    (.seq (.seq (.rg [⟨(some 3), .mov (.t 0), none⟩,
      ⟨(some 4), .eqn false .ptr (.t 3), none⟩])
    (.cond (.t 4) (.seq (.rg [⟨(some 5), .callr 149 [], none⟩,
        ⟨(some 2), .mov (.t 5), none⟩])
      .ret)
      .skip))
    (.seq (.rg [⟨(some 6), .mov (.t 0), none⟩,
      ⟨(some 2), .mov (.t 6), none⟩])
    .ret)))
def r116 : List DR := [.tmp 2]
theorem c116_ok : Try.f116.body.bind (cCode Try.prog) = some c116 := by kernel_rfl
theorem r116_ok : cRes Try.prog Try.f116.results.toList = some r116 := by kernel_rfl

/-- given.example/pub-assaymark/pub/gotime.UTC -/
def c149 : DC :=
  (.seq (.rg [⟨(some 0), .mov (.c (.p (.pointer none))), none⟩])
    (.seq (.rg [⟨(some 1), .bld [.p (.string ⟨#[]⟩), .p (.bool false), .p (.slice none 0 0), .p (.slice none 0 0), .p (.string ⟨#[]⟩), .p (.int .i64 0), .p (.int .i64 0), .p (.pointer none)] [(0, 1, (.c (.p (.string ⟨#[85, 84, 67]⟩)))), (1, 1, (.c (.p (.bool true))))], none⟩,
      ⟨(some 2), .box (.t 1), none⟩,
      ⟨(some 0), .mov (.t 2), none⟩])
    .ret))
def r149 : List DR := [.tmp 0]
theorem c149_ok : Try.f149.body.bind (cCode Try.prog) = some c149 := by kernel_rfl
theorem r149_ok : cRes Try.prog Try.f149.results.toList = some r149 := by kernel_rfl

end Go.Proofs.Ytbbafeocmchlnaa
