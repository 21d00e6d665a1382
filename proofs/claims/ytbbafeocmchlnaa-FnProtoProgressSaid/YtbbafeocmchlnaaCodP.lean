/- The codes of the functions, in the small language of Den. -/
import Derived.Test.YtbbafeocmchlnaaDuB
import Derived.Test.YtbbafeocmchlnaaPrB
set_option linter.unusedVariables false
set_option linter.unusedSimpArgs false
set_option maxRecDepth 100000
namespace Go.Proofs.Ytbbafeocmchlnaa
open Go Go.Den Go.Proofs

/-- given.example/pub-assaymark/laws.FnProtoProgress -/
def c10 : DC :=
  (.seq (.rg [⟨(some 4), .box (.t 0), none⟩,
      ⟨(some 8), .mov (.c (.p (.bool false))), none⟩])
    (.seq (.seq (.rg [⟨(some 16), .load true 7 (.t 4), none⟩,
      ⟨(some 17), .callr 38 [(.t 16)], none⟩,
      ⟨(some 18), .un .not (.t 17), none⟩,
      ⟨(some 19), .mov (.t 18), none⟩,
      ⟨(some 20), .mov (.t 2), (some (19, false))⟩,
      ⟨(some 21), .lens (.t 20), (some (19, false))⟩,
      ⟨(some 22), .bin .gtr (.t 21) (.c (.p (.int .i64 2147483647))), (some (19, false))⟩,
      ⟨(some 23), .pick (.t 19) (.c (.p (.bool true))) (.t 22), none⟩])
    (.cond (.t 23) (.seq (.rg [⟨(some 8), .mov (.c (.p (.bool true))), none⟩])
      .ret)
      .skip))
    (.seq (.seq (.rg [⟨(some 24), .faddr false 5 1 (.t 4), none⟩,
      ⟨(some 25), .load false 1 (.t 24), none⟩,
      ⟨(some 26), .bin .lss (.t 25) (.c (.p (.int .i64 0))), none⟩])
    (.cond (.t 26) (.seq (.rg [⟨(some 27), .callr 14 [], none⟩,
        ⟨(some 8), .mov (.t 27), none⟩])
      .ret)
      .skip))
    (.seq (.rgd [⟨⟨(some 28), .mov (.t 2), none⟩, 0, [0]⟩,
      ⟨⟨(some 29), .mov (.t 2), none⟩, 0, [0]⟩,
      ⟨⟨(some 30), .lens (.t 29), none⟩, 0, [0]⟩,
      ⟨⟨(some 31), .mm false (.t 30) (.c (.p (.int .i64 100))), none⟩, 0, [0]⟩,
      ⟨⟨(some 32), .slcs (.t 28) none (some (.t 31)), none⟩, 0, [0]⟩,
      ⟨⟨(some 33), .faddr false 6 1 (.t 4), none⟩, 0, [0]⟩,
      ⟨⟨none, .store 1 (.t 33) (.c (.p (.string ⟨#[]⟩))), none⟩, 0, []⟩,
      ⟨⟨(some 2), .mov (.t 32), none⟩, 1, []⟩])
    (.seq (.rg [⟨(some 34), .load true 7 (.t 4), none⟩,
      ⟨(some 35), .mov (.t 1), none⟩,
      ⟨(some 36), .callr 39 [(.t 34), (.t 35)], none⟩,
      ⟨(some 9), .mov (.t 36), none⟩])
    (.seq (.seq (.rg [⟨(some 37), .mov (.t 1), none⟩,
      ⟨(some 38), .bin .lss (.t 37) (.c (.p (.int .u64 54420))), none⟩])
    (.cond (.t 38) (.rg [⟨(some 39), .faddr false 3 1 (.t 4), none⟩,
        ⟨none, .store 1 (.t 39) (.c (.p (.int .u64 0))), none⟩,
        ⟨(some 40), .faddr false 4 1 (.t 4), none⟩,
        ⟨none, .store 1 (.t 40) (.c (.p (.int .u64 0))), none⟩])
      .skip))
    (.seq (.seq (.rg [⟨(some 41), .mov (.t 1), none⟩,
      ⟨(some 42), .bin .lss (.t 41) (.c (.p (.int .u64 54460))), none⟩])
    (.cond (.t 42) (.rg [⟨(some 43), .faddr false 5 1 (.t 4), none⟩,
        ⟨none, .store 1 (.t 43) (.c (.p (.int .i64 0))), none⟩])
      .skip))
    (.seq (.rg [⟨(some 45), .mov (.t 9), none⟩,
      ⟨(some 46), .mov (.t 2), none⟩,
      ⟨(some 47), .bin .add (.t 45) (.t 46), none⟩,
      ⟨(some 48), .mov (.t 1), none⟩,
      ⟨(some 49), .callr 40 [(.t 47), (.t 48)], none⟩,
      ⟨(some 44), .mov (.t 49), none⟩,
      ⟨(some 50), .ext (.t 44) 0, none⟩,
      ⟨(some 51), .ext (.t 44) 1, none⟩,
      ⟨(some 52), .ext (.t 44) 2, none⟩,
      ⟨(some 10), .alloc 7 (.agg [.p (.int .u64 0), .p (.int .u64 0), .p (.int .u64 0), .p (.int .u64 0), .p (.int .u64 0), .p (.int .i64 0), .p (.string ⟨#[]⟩)]), none⟩,
      ⟨none, .store 7 (.t 10) (.t 50), none⟩,
      ⟨(some 11), .mov (.t 51), none⟩,
      ⟨(some 12), .mov (.t 52), none⟩])
    (.seq (.rg [⟨(some 54), .mov (.t 9), none⟩,
      ⟨(some 55), .mov (.t 3), none⟩,
      ⟨(some 56), .cint .i64 (.t 55), none⟩,
      ⟨(some 57), .mov (.t 9), none⟩,
      ⟨(some 58), .lens (.t 57), none⟩,
      ⟨(some 59), .bin .rem (.t 56) (.t 58), none⟩,
      ⟨(some 60), .slcs (.t 54) none (some (.t 59)), none⟩,
      ⟨(some 61), .mov (.t 1), none⟩,
      ⟨(some 62), .callr 40 [(.t 60), (.t 61)], none⟩,
      ⟨(some 53), .mov (.t 62), none⟩,
      ⟨(some 63), .ext (.t 53) 0, none⟩,
      ⟨(some 64), .ext (.t 53) 1, none⟩,
      ⟨(some 65), .ext (.t 53) 2, none⟩,
      ⟨(some 13), .alloc 7 (.agg [.p (.int .u64 0), .p (.int .u64 0), .p (.int .u64 0), .p (.int .u64 0), .p (.int .u64 0), .p (.int .i64 0), .p (.string ⟨#[]⟩)]), none⟩,
      ⟨none, .store 7 (.t 13) (.t 63), none⟩,
      ⟨(some 14), .mov (.t 64), none⟩,
      ⟨(some 15), .mov (.t 65), none⟩])
    (.seq (.rg [⟨(some 66), .faddr false 6 1 (.t 10), none⟩,
      ⟨none, .store 1 (.t 66) (.c (.p (.string ⟨#[]⟩))), none⟩])
    (.seq (.rg [⟨(some 67), .mov (.t 12), none⟩,
      ⟨(some 68), .mov (.t 67), none⟩,
      ⟨(some 69), .mov (.t 15), (some (68, true))⟩,
      ⟨(some 70), .un .not (.t 69), (some (68, true))⟩,
      ⟨(some 71), .pick (.t 68) (.t 70) (.c (.p (.bool false))), none⟩,
      ⟨(some 72), .mov (.t 71), none⟩,
      ⟨(some 73), .mov (.t 11), (some (72, true))⟩,
      ⟨(some 74), .mov (.t 2), (some (72, true))⟩,
      ⟨(some 75), .lens (.t 74), (some (72, true))⟩,
      ⟨(some 76), .bin .eql (.t 73) (.t 75), (some (72, true))⟩,
      ⟨(some 77), .pick (.t 72) (.t 76) (.c (.p (.bool false))), none⟩,
      ⟨(some 78), .mov (.t 77), none⟩,
      ⟨(some 79), .load true 7 (.t 10), (some (78, true))⟩,
      ⟨(some 80), .load true 7 (.t 4), (some (78, true))⟩,
      ⟨(some 81), .eqs false [.int, .int, .int, .int, .int, .int, .str] (.t 79) (.t 80), (some (78, true))⟩,
      ⟨(some 82), .pick (.t 78) (.t 81) (.c (.p (.bool false))), none⟩,
      ⟨(some 83), .mov (.t 82), none⟩,
      ⟨(some 84), .callr 14 [], (some (83, true))⟩,
      ⟨(some 85), .pick (.t 83) (.t 84) (.c (.p (.bool false))), none⟩,
      ⟨(some 8), .mov (.t 85), none⟩])
    .ret)))))))))))
def r10 : List DR := [.tmp 8]
theorem c10_ok : Try.f10.body.bind (cCode Try.prog) = some c10 := by kernel_rfl
theorem r10_ok : cRes Try.prog Try.f10.results.toList = some r10 := by kernel_rfl

/-- given.example/pub-assaymark/laws.zzFits23 -/
def c38 : DC :=
  (.seq (.rg [⟨(some 1), .box (.t 0), none⟩,
      ⟨(some 2), .mov (.c (.p (.bool false))), none⟩])
    (.seq (.seq (.rg [⟨(some 3), .faddr false 6 1 (.t 1), none⟩,
      ⟨(some 4), .load false 1 (.t 3), none⟩,
      ⟨(some 5), .lens (.t 4), none⟩,
      ⟨(some 6), .bin .gtr (.t 5) (.c (.p (.int .i64 2147483647))), none⟩])
    (.cond (.t 6) (.seq (.rg [⟨(some 2), .mov (.c (.p (.bool false))), none⟩])
      .ret)
      .skip))
    (.seq (.rg [⟨(some 2), .mov (.c (.p (.bool true))), none⟩])
    .ret)))
def r38 : List DR := [.tmp 2]
theorem c38_ok : Try.f38.body.bind (cCode Try.prog) = some c38 := by kernel_rfl
theorem r38_ok : cRes Try.prog Try.f38.results.toList = some r38 := by kernel_rfl

/-- given.example/pub-assaymark/spec.ProtoProgressWrite -/
def c39 : DC :=
  (.seq (.rg [⟨(some 2), .box (.t 0), none⟩,
      ⟨(some 4), .mov (.c (.p (.string ⟨#[]⟩))), none⟩])
    (.seq (.rgd [⟨⟨(some 6), .faddr false 0 1 (.t 2), none⟩, 0, [0]⟩,
      ⟨⟨(some 7), .load false 1 (.t 6), none⟩, 0, [0]⟩,
      ⟨⟨(some 8), .call 17 [(.t 7)], none⟩, 0, [0]⟩,
      ⟨⟨(some 9), .faddr false 1 1 (.t 2), none⟩, 0, [0]⟩,
      ⟨⟨(some 10), .load false 1 (.t 9), none⟩, 0, [0]⟩,
      ⟨⟨(some 11), .call 17 [(.t 10)], none⟩, 1, [0]⟩,
      ⟨⟨(some 12), .bin .add (.t 8) (.t 11), none⟩, 2, [0]⟩,
      ⟨⟨(some 13), .faddr false 2 1 (.t 2), none⟩, 0, [0]⟩,
      ⟨⟨(some 14), .load false 1 (.t 13), none⟩, 0, [0]⟩,
      ⟨⟨(some 15), .call 17 [(.t 14)], none⟩, 2, []⟩,
      ⟨⟨(some 16), .bin .add (.t 12) (.t 15), none⟩, 3, []⟩,
      ⟨⟨(some 5), .mov (.t 16), none⟩, 3, []⟩])
    (.seq (.seq (.rg [⟨(some 17), .mov (.t 1), none⟩,
      ⟨(some 18), .bin .geq (.t 17) (.c (.p (.int .u64 54420))), none⟩])
    (.cond (.t 18) (.rgd [⟨⟨(some 19), .mov (.t 5), none⟩, 0, [0]⟩,
        ⟨⟨(some 20), .faddr false 3 1 (.t 2), none⟩, 0, [0]⟩,
        ⟨⟨(some 21), .load false 1 (.t 20), none⟩, 0, [0]⟩,
        ⟨⟨(some 22), .call 17 [(.t 21)], none⟩, 0, [0]⟩,
        ⟨⟨(some 23), .faddr false 4 1 (.t 2), none⟩, 0, [0]⟩,
        ⟨⟨(some 24), .load false 1 (.t 23), none⟩, 0, [0]⟩,
        ⟨⟨(some 25), .call 17 [(.t 24)], none⟩, 1, []⟩,
        ⟨⟨(some 26), .bin .add (.t 22) (.t 25), none⟩, 2, []⟩,
        ⟨⟨(some 27), .bin .add (.t 19) (.t 26), none⟩, 2, []⟩,
        ⟨⟨(some 5), .mov (.t 27), none⟩, 2, []⟩])
      .skip))
    (.seq (.seq (.rg [⟨(some 28), .mov (.t 1), none⟩,
      ⟨(some 29), .bin .geq (.t 28) (.c (.p (.int .u64 54460))), none⟩])
    (.cond (.t 29) (.rg [⟨(some 30), .mov (.t 5), none⟩,
        ⟨(some 31), .faddr false 5 1 (.t 2), none⟩,
        ⟨(some 32), .load false 1 (.t 31), none⟩,
        ⟨(some 33), .cint .u64 (.t 32), none⟩,
        ⟨(some 34), .callr 17 [(.t 33)], none⟩,
        ⟨(some 35), .bin .add (.t 30) (.t 34), none⟩,
        ⟨(some 5), .mov (.t 35), none⟩])
      .skip))
    (.seq (.rg [⟨(some 36), .mov (.t 5), none⟩,
      ⟨(some 4), .mov (.t 36), none⟩])
    .ret)))))
def r39 : List DR := [.tmp 4]
theorem c39_ok : Try.f39.body.bind (cCode Try.prog) = some c39 := by kernel_rfl
theorem r39_ok : cRes Try.prog Try.f39.results.toList = some r39 := by kernel_rfl

/-- given.example/pub-assaymark/impl.ProtoProgressRead -/
def c40 : DC :=
  (.seq (.rg [⟨(some 4), .alloc 7 (.agg [.p (.int .u64 0), .p (.int .u64 0), .p (.int .u64 0), .p (.int .u64 0), .p (.int .u64 0), .p (.int .i64 0), .p (.string ⟨#[]⟩)]), none⟩,
      ⟨(some 5), .mov (.c (.p (.int .i64 0))), none⟩,
      ⟨(some 6), .mov (.c (.p (.bool false))), none⟩])
    (.seq (.rg [⟨(some 9), .mov (.t 0), none⟩,
      ⟨(some 10), .callr 60 [(.t 9)], none⟩,
      ⟨(some 7), .mov (.t 10), none⟩])
    (.seq (.rg [⟨(some 8), .alloc 7 (.agg [.p (.int .u64 0), .p (.int .u64 0), .p (.int .u64 0), .p (.int .u64 0), .p (.int .u64 0), .p (.int .i64 0), .p (.bool false)]), none⟩])
    (.seq (.seq (.rg [⟨(some 11), .mov (.t 7), none⟩,
      ⟨(some 12), .mov (.t 1), none⟩,
      ⟨(some 13), .callr 77 [(.t 8), (.t 11), (.t 12)], none⟩,
      ⟨(some 14), .eqn true .iface (.t 13), none⟩])
    (.cond (.t 14) (.seq (.rg [⟨(some 15), .load true 7 (.t 4), none⟩,
        ⟨none, .store 7 (.t 4) (.t 15), none⟩,
        ⟨(some 5), .mov (.c (.p (.int .i64 0))), none⟩,
        ⟨(some 6), .mov (.c (.p (.bool false))), none⟩])
      .ret)
      .skip))
    (.seq (.rgd [⟨⟨(some 16), .faddr false 0 1 (.t 8), none⟩, 0, [0]⟩,
      ⟨⟨(some 17), .load false 1 (.t 16), none⟩, 0, [0]⟩,
      ⟨⟨(some 18), .faddr false 1 1 (.t 8), none⟩, 0, [0]⟩,
      ⟨⟨(some 19), .load false 1 (.t 18), none⟩, 0, [0]⟩,
      ⟨⟨(some 20), .faddr false 2 1 (.t 8), none⟩, 0, [0]⟩,
      ⟨⟨(some 21), .load false 1 (.t 20), none⟩, 0, [0]⟩,
      ⟨⟨(some 22), .faddr false 3 1 (.t 8), none⟩, 0, [0]⟩,
      ⟨⟨(some 23), .load false 1 (.t 22), none⟩, 0, [0]⟩,
      ⟨⟨(some 24), .faddr false 4 1 (.t 8), none⟩, 0, [0]⟩,
      ⟨⟨(some 25), .load false 1 (.t 24), none⟩, 0, [0]⟩,
      ⟨⟨(some 26), .faddr false 5 1 (.t 8), none⟩, 0, [0]⟩,
      ⟨⟨(some 27), .load false 1 (.t 26), none⟩, 0, [0]⟩,
      ⟨⟨(some 28), .call 78 [(.t 8)], none⟩, 0, [0]⟩,
      ⟨⟨(some 29), .bld [.p (.int .u64 0), .p (.int .u64 0), .p (.int .u64 0), .p (.int .u64 0), .p (.int .u64 0), .p (.int .i64 0), .p (.string ⟨#[]⟩)] [(0, 1, (.t 17)), (1, 1, (.t 19)), (2, 1, (.t 21)), (3, 1, (.t 23)), (4, 1, (.t 25)), (5, 1, (.t 27)), (6, 1, (.t 28))], none⟩, 1, []⟩,
      ⟨⟨(some 30), .mov (.t 7), none⟩, 0, [0]⟩,
      ⟨⟨(some 31), .call 63 [(.t 30)], none⟩, 1, [0]⟩,
      ⟨⟨none, .store 7 (.t 4) (.t 29), none⟩, 2, []⟩,
      ⟨⟨(some 5), .mov (.t 31), none⟩, 3, []⟩,
      ⟨⟨(some 6), .mov (.c (.p (.bool true))), none⟩, 3, []⟩])
    .ret)))))
def r40 : List DR := [.cell 4 true 7, .tmp 5, .tmp 6]
theorem c40_ok : Try.f40.body.bind (cCode Try.prog) = some c40 := by kernel_rfl
theorem r40_ok : cRes Try.prog Try.f40.results.toList = some r40 := by kernel_rfl

/-- (*given.example/pub-assaymark/pub/clickhousego/lib/proto.Progress).Decode -/
def c77 : DC :=
  (.seq (.rg [⟨(some 6), .mov (.c (.p .nilIface)), none⟩])
    (.seq (.seq (.rg [⟨(some 9), .mov (.t 0), none⟩,
      ⟨(some 10), .mov (.t 1), none⟩,
      ⟨(some 11), .callr 104 [(.t 10)], none⟩,
      ⟨(some 8), .mov (.t 11), none⟩,
      ⟨(some 12), .ext (.t 8) 0, none⟩,
      ⟨(some 13), .ext (.t 8) 1, none⟩,
      ⟨(some 14), .nilchk .ptr (.t 9), none⟩,
      ⟨(some 15), .faddr false 0 1 (.t 14), none⟩,
      ⟨none, .store 1 (.t 15) (.t 12), none⟩,
      ⟨(some 6), .mov (.t 13), none⟩])
    (.seq (.rg [⟨(some 16), .mov (.t 6), none⟩,
      ⟨(some 17), .eqn true .iface (.t 16), none⟩])
    (.cond (.t 17) (.seq (.rg [⟨(some 18), .mov (.t 6), none⟩,
        ⟨(some 6), .mov (.t 18), none⟩])
      .ret)
      .skip)))
    (.seq (.seq (.rg [⟨(some 20), .mov (.t 0), none⟩,
      ⟨(some 21), .mov (.t 1), none⟩,
      ⟨(some 22), .callr 104 [(.t 21)], none⟩,
      ⟨(some 19), .mov (.t 22), none⟩,
      ⟨(some 23), .ext (.t 19) 0, none⟩,
      ⟨(some 24), .ext (.t 19) 1, none⟩,
      ⟨(some 25), .nilchk .ptr (.t 20), none⟩,
      ⟨(some 26), .faddr false 1 1 (.t 25), none⟩,
      ⟨none, .store 1 (.t 26) (.t 23), none⟩,
      ⟨(some 6), .mov (.t 24), none⟩])
    (.seq (.rg [⟨(some 27), .mov (.t 6), none⟩,
      ⟨(some 28), .eqn true .iface (.t 27), none⟩])
    (.cond (.t 28) (.seq (.rg [⟨(some 29), .mov (.t 6), none⟩,
        ⟨(some 6), .mov (.t 29), none⟩])
      .ret)
      .skip)))
    (.seq (.seq (.rg [⟨(some 31), .mov (.t 0), none⟩,
      ⟨(some 32), .mov (.t 1), none⟩,
      ⟨(some 33), .callr 104 [(.t 32)], none⟩,
      ⟨(some 30), .mov (.t 33), none⟩,
      ⟨(some 34), .ext (.t 30) 0, none⟩,
      ⟨(some 35), .ext (.t 30) 1, none⟩,
      ⟨(some 36), .nilchk .ptr (.t 31), none⟩,
      ⟨(some 37), .faddr false 2 1 (.t 36), none⟩,
      ⟨none, .store 1 (.t 37) (.t 34), none⟩,
      ⟨(some 6), .mov (.t 35), none⟩])
    (.seq (.rg [⟨(some 38), .mov (.t 6), none⟩,
      ⟨(some 39), .eqn true .iface (.t 38), none⟩])
    (.cond (.t 39) (.seq (.rg [⟨(some 40), .mov (.t 6), none⟩,
        ⟨(some 6), .mov (.t 40), none⟩])
      .ret)
      .skip)))
    (.seq (.seq (.rg [⟨(some 41), .mov (.t 2), none⟩,
      ⟨(some 42), .bin .geq (.t 41) (.c (.p (.int .u64 54420))), none⟩])
    (.cond (.t 42) (.seq (.rg [⟨(some 43), .mov (.t 0), none⟩,
        ⟨(some 44), .nilchk .ptr (.t 43), none⟩,
        ⟨(some 45), .faddr false 6 1 (.t 44), none⟩,
        ⟨none, .store 1 (.t 45) (.c (.p (.bool true))), none⟩])
      (.seq (.seq (.rg [⟨(some 47), .mov (.t 0), none⟩,
        ⟨(some 48), .mov (.t 1), none⟩,
        ⟨(some 49), .callr 104 [(.t 48)], none⟩,
        ⟨(some 46), .mov (.t 49), none⟩,
        ⟨(some 50), .ext (.t 46) 0, none⟩,
        ⟨(some 51), .ext (.t 46) 1, none⟩,
        ⟨(some 52), .nilchk .ptr (.t 47), none⟩,
        ⟨(some 53), .faddr false 3 1 (.t 52), none⟩,
        ⟨none, .store 1 (.t 53) (.t 50), none⟩,
        ⟨(some 6), .mov (.t 51), none⟩])
      (.seq (.rg [⟨(some 54), .mov (.t 6), none⟩,
        ⟨(some 55), .eqn true .iface (.t 54), none⟩])
      (.cond (.t 55) (.seq (.rg [⟨(some 56), .mov (.t 6), none⟩,
          ⟨(some 6), .mov (.t 56), none⟩])
        .ret)
        .skip)))
      (.seq (.rg [⟨(some 58), .mov (.t 0), none⟩,
        ⟨(some 59), .mov (.t 1), none⟩,
        ⟨(some 60), .callr 104 [(.t 59)], none⟩,
        ⟨(some 57), .mov (.t 60), none⟩,
        ⟨(some 61), .ext (.t 57) 0, none⟩,
        ⟨(some 62), .ext (.t 57) 1, none⟩,
        ⟨(some 63), .nilchk .ptr (.t 58), none⟩,
        ⟨(some 64), .faddr false 4 1 (.t 63), none⟩,
        ⟨none, .store 1 (.t 64) (.t 61), none⟩,
        ⟨(some 6), .mov (.t 62), none⟩])
      (.seq (.rg [⟨(some 65), .mov (.t 6), none⟩,
        ⟨(some 66), .eqn true .iface (.t 65), none⟩])
      (.cond (.t 66) (.seq (.rg [⟨(some 67), .mov (.t 6), none⟩,
          ⟨(some 6), .mov (.t 67), none⟩])
        .ret)
        .skip)))))
      .skip))
    (.seq (.seq (.rg [⟨(some 68), .mov (.t 2), none⟩,
      ⟨(some 69), .bin .geq (.t 68) (.c (.p (.int .u64 54460))), none⟩])
    (.cond (.t 69) (.seq (.rg [⟨(some 7), .mov (.c (.p (.int .u64 0))), none⟩])
      (.seq (.seq (.rg [⟨(some 71), .mov (.t 1), none⟩,
        ⟨(some 72), .callr 104 [(.t 71)], none⟩,
        ⟨(some 70), .mov (.t 72), none⟩,
        ⟨(some 73), .ext (.t 70) 0, none⟩,
        ⟨(some 74), .ext (.t 70) 1, none⟩,
        ⟨(some 7), .mov (.t 73), none⟩,
        ⟨(some 6), .mov (.t 74), none⟩])
      (.seq (.rg [⟨(some 75), .mov (.t 6), none⟩,
        ⟨(some 76), .eqn true .iface (.t 75), none⟩])
      (.cond (.t 76) (.seq (.rg [⟨(some 77), .mov (.t 6), none⟩,
          ⟨(some 6), .mov (.t 77), none⟩])
        .ret)
        .skip)))
      (.rg [⟨(some 78), .mov (.t 0), none⟩,
        ⟨(some 79), .mov (.t 7), none⟩,
        ⟨(some 80), .cint .i64 (.t 79), none⟩,
        ⟨(some 81), .bin .mul (.t 80) (.c (.p (.int .i64 1))), none⟩,
        ⟨(some 82), .nilchk .ptr (.t 78), none⟩,
        ⟨(some 83), .faddr false 5 1 (.t 82), none⟩,
        ⟨none, .store 1 (.t 83) (.t 81), none⟩])))
      .skip))
    (.seq (.rg [⟨(some 6), .mov (.c (.p .nilIface)), none⟩])
    .ret)))))))
def r77 : List DR := [.tmp 6]
theorem c77_ok : Try.f77.body.bind (cCode Try.prog) = some c77 := by kernel_rfl
theorem r77_ok : cRes Try.prog Try.f77.results.toList = some r77 := by kernel_rfl

/-- (*given.example/pub-assaymark/pub/clickhousego/lib/proto.Progress).String -/
def c78 : DC :=
  (.seq (.rg [⟨(some 2), .mov (.c (.p (.string ⟨#[]⟩))), none⟩])
    (.seq (.rg [⟨(some 3), .mov (.c (.fn (.func 117) [] [])), none⟩])
    (.seq (.rgd [⟨⟨(some 5), .mov (.t 3), none⟩, 0, [0]⟩,
      ⟨⟨(some 6), .mov (.t 0), none⟩, 0, [0]⟩,
      ⟨⟨(some 7), .nilchk .ptr (.t 6), none⟩, 0, [0]⟩,
      ⟨⟨(some 8), .faddr false 0 1 (.t 7), none⟩, 0, [0]⟩,
      ⟨⟨(some 9), .load false 1 (.t 8), none⟩, 0, [0]⟩,
      ⟨⟨(some 10), .callv false (.t 5) [(.t 9)], none⟩, 0, [0]⟩,
      ⟨⟨(some 11), .bin .add (.c (.p (.string ⟨#[114, 111, 119, 115, 61]⟩))) (.t 10), none⟩, 1, [0]⟩,
      ⟨⟨(some 12), .bin .add (.t 11) (.c (.p (.string ⟨#[44, 32, 98, 121, 116, 101, 115, 61]⟩))), none⟩, 1, [0]⟩,
      ⟨⟨(some 13), .mov (.t 3), none⟩, 0, [0]⟩,
      ⟨⟨(some 14), .mov (.t 0), none⟩, 0, [0]⟩,
      ⟨⟨(some 15), .nilchk .ptr (.t 14), none⟩, 0, [0]⟩,
      ⟨⟨(some 16), .faddr false 1 1 (.t 15), none⟩, 0, [0]⟩,
      ⟨⟨(some 17), .load false 1 (.t 16), none⟩, 0, [0]⟩,
      ⟨⟨(some 18), .callv false (.t 13) [(.t 17)], none⟩, 1, [0]⟩,
      ⟨⟨(some 19), .bin .add (.t 12) (.t 18), none⟩, 2, [0]⟩,
      ⟨⟨(some 20), .bin .add (.t 19) (.c (.p (.string ⟨#[44, 32, 116, 111, 116, 97, 108, 32, 114, 111, 119, 115, 61]⟩))), none⟩, 2, [0]⟩,
      ⟨⟨(some 21), .mov (.t 3), none⟩, 0, [0]⟩,
      ⟨⟨(some 22), .mov (.t 0), none⟩, 0, [0]⟩,
      ⟨⟨(some 23), .nilchk .ptr (.t 22), none⟩, 0, [0]⟩,
      ⟨⟨(some 24), .faddr false 2 1 (.t 23), none⟩, 0, [0]⟩,
      ⟨⟨(some 25), .load false 1 (.t 24), none⟩, 0, [0]⟩,
      ⟨⟨(some 26), .callv false (.t 21) [(.t 25)], none⟩, 2, []⟩,
      ⟨⟨(some 27), .bin .add (.t 20) (.t 26), none⟩, 3, []⟩,
      ⟨⟨(some 4), .mov (.t 27), none⟩, 3, []⟩])
    (.seq (.seq (.rg [⟨(some 28), .mov (.t 0), none⟩,
      ⟨(some 29), .nilchk .ptr (.t 28), none⟩,
      ⟨(some 30), .faddr false 6 1 (.t 29), none⟩,
      ⟨(some 31), .load false 1 (.t 30), none⟩,
      ⟨(some 32), .un .not (.t 31), none⟩])
    (.cond (.t 32) (.seq (.rg [⟨(some 33), .mov (.t 4), none⟩,
        ⟨(some 34), .bin .add (.t 33) (.c (.p (.string ⟨#[44, 32, 101, 108, 97, 112, 115, 101, 100, 61]⟩))), none⟩,
        ⟨(some 35), .mov (.t 0), none⟩,
        ⟨(some 36), .nilchk .ptr (.t 35), none⟩,
        ⟨(some 37), .faddr false 5 1 (.t 36), none⟩,
        ⟨(some 38), .load false 1 (.t 37), none⟩,
        ⟨(some 39), .callr 118 [(.t 38)], none⟩,
        ⟨(some 40), .bin .add (.t 34) (.t 39), none⟩,
        ⟨(some 2), .mov (.t 40), none⟩])
      .ret)
      .skip))
    (.seq (.rgd [⟨⟨(some 41), .mov (.t 4), none⟩, 0, [0]⟩,
      ⟨⟨(some 42), .bin .add (.t 41) (.c (.p (.string ⟨#[44, 32, 119, 114, 111, 116, 101, 32, 114, 111, 119, 115, 61]⟩))), none⟩, 0, [0]⟩,
      ⟨⟨(some 43), .mov (.t 3), none⟩, 0, [0]⟩,
      ⟨⟨(some 44), .mov (.t 0), none⟩, 0, [0]⟩,
      ⟨⟨(some 45), .nilchk .ptr (.t 44), none⟩, 0, [0]⟩,
      ⟨⟨(some 46), .faddr false 3 1 (.t 45), none⟩, 0, [0]⟩,
      ⟨⟨(some 47), .load false 1 (.t 46), none⟩, 0, [0]⟩,
      ⟨⟨(some 48), .callv false (.t 43) [(.t 47)], none⟩, 0, [0]⟩,
      ⟨⟨(some 49), .bin .add (.t 42) (.t 48), none⟩, 1, [0]⟩,
      ⟨⟨(some 50), .bin .add (.t 49) (.c (.p (.string ⟨#[32, 119, 114, 111, 116, 101, 32, 98, 121, 116, 101, 115, 61]⟩))), none⟩, 1, [0]⟩,
      ⟨⟨(some 51), .mov (.t 3), none⟩, 0, [0]⟩,
      ⟨⟨(some 52), .mov (.t 0), none⟩, 0, [0]⟩,
      ⟨⟨(some 53), .nilchk .ptr (.t 52), none⟩, 0, [0]⟩,
      ⟨⟨(some 54), .faddr false 4 1 (.t 53), none⟩, 0, [0]⟩,
      ⟨⟨(some 55), .load false 1 (.t 54), none⟩, 0, [0]⟩,
      ⟨⟨(some 56), .callv false (.t 51) [(.t 55)], none⟩, 1, [0]⟩,
      ⟨⟨(some 57), .bin .add (.t 50) (.t 56), none⟩, 2, [0]⟩,
      ⟨⟨(some 58), .bin .add (.t 57) (.c (.p (.string ⟨#[32, 101, 108, 97, 112, 115, 101, 100, 61]⟩))), none⟩, 2, [0]⟩,
      ⟨⟨(some 59), .mov (.t 0), none⟩, 0, [0]⟩,
      ⟨⟨(some 60), .nilchk .ptr (.t 59), none⟩, 0, [0]⟩,
      ⟨⟨(some 61), .faddr false 5 1 (.t 60), none⟩, 0, [0]⟩,
      ⟨⟨(some 62), .load false 1 (.t 61), none⟩, 0, [0]⟩,
      ⟨⟨(some 63), .call 118 [(.t 62)], none⟩, 2, []⟩,
      ⟨⟨(some 64), .bin .add (.t 58) (.t 63), none⟩, 3, []⟩,
      ⟨⟨(some 2), .mov (.t 64), none⟩, 3, []⟩])
    .ret)))))
def r78 : List DR := [.tmp 2]
theorem c78_ok : Try.f78.body.bind (cCode Try.prog) = some c78 := by kernel_rfl
theorem r78_ok : cRes Try.prog Try.f78.results.toList = some r78 := by kernel_rfl

/-- (*given.example/pub-assaymark/pub/clickhousego/lib/proto.Progress).String$1 -/
def c117 : DC :=
  (.seq (.rg [⟨(some 2), .mov (.c (.p (.string ⟨#[]⟩))), none⟩])
    (.seq (.rg [⟨(some 3), .mov (.t 0), none⟩,
      ⟨(some 4), .callr 107 [(.t 3), (.c (.p (.int .i64 10)))], none⟩,
      ⟨(some 2), .mov (.t 4), none⟩])
    .ret))
def r117 : List DR := [.tmp 2]
theorem c117_ok : Try.f117.body.bind (cCode Try.prog) = some c117 := by kernel_rfl
theorem r117_ok : cRes Try.prog Try.f117.results.toList = some r117 := by kernel_rfl

end Go.Proofs.Ytbbafeocmchlnaa
