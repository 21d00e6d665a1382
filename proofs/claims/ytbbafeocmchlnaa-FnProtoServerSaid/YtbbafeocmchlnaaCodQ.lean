/- The codes of the functions, in the small language of Den. -/
import Derived.Test.YtbbafeocmchlnaaRdC
set_option linter.unusedVariables false
set_option linter.unusedSimpArgs false
set_option maxRecDepth 100000
namespace Go.Proofs.Ytbbafeocmchlnaa
open Go Go.Den Go.Proofs

/-- given.example/pub-assaymark/laws.FnProtoProfile -/
def c5 : DC :=
  (.seq (.rg [⟨(some 4), .box (.t 0), none⟩,
      ⟨(some 8), .mov (.c (.p (.bool false))), none⟩])
    (.seq (.seq (.rg [⟨(some 16), .load true 7 (.t 4), none⟩,
      ⟨(some 17), .callr 22 [(.t 16)], none⟩,
      ⟨(some 18), .un .not (.t 17), none⟩,
      ⟨(some 19), .mov (.t 18), none⟩,
      ⟨(some 20), .mov (.t 2), (some (19, false))⟩,
      ⟨(some 21), .lens (.t 20), (some (19, false))⟩,
      ⟨(some 22), .bin .gtr (.t 21) (.c (.p (.int .i64 2147483647))), (some (19, false))⟩,
      ⟨(some 23), .pick (.t 19) (.c (.p (.bool true))) (.t 22), none⟩])
    (.cond (.t 23) (.seq (.rg [⟨(some 8), .mov (.c (.p (.bool true))), none⟩])
      .ret)
      .skip))
    (.seq (.rgd [⟨⟨(some 24), .mov (.t 2), none⟩, 0, [0]⟩,
      ⟨⟨(some 25), .mov (.t 2), none⟩, 0, [0]⟩,
      ⟨⟨(some 26), .lens (.t 25), none⟩, 0, [0]⟩,
      ⟨⟨(some 27), .mm false (.t 26) (.c (.p (.int .i64 100))), none⟩, 0, [0]⟩,
      ⟨⟨(some 28), .slcs (.t 24) none (some (.t 27)), none⟩, 0, [0]⟩,
      ⟨⟨(some 29), .faddr false 6 1 (.t 4), none⟩, 0, [0]⟩,
      ⟨⟨none, .store 1 (.t 29) (.c (.p (.string ⟨#[]⟩))), none⟩, 0, []⟩,
      ⟨⟨(some 2), .mov (.t 28), none⟩, 1, []⟩])
    (.seq (.rg [⟨(some 30), .load true 7 (.t 4), none⟩,
      ⟨(some 31), .callr 23 [(.t 30)], none⟩,
      ⟨(some 9), .mov (.t 31), none⟩])
    (.seq (.rg [⟨(some 33), .mov (.t 9), none⟩,
      ⟨(some 34), .mov (.t 2), none⟩,
      ⟨(some 35), .bin .add (.t 33) (.t 34), none⟩,
      ⟨(some 36), .mov (.t 1), none⟩,
      ⟨(some 37), .callr 24 [(.t 35), (.t 36)], none⟩,
      ⟨(some 32), .mov (.t 37), none⟩,
      ⟨(some 38), .ext (.t 32) 0, none⟩,
      ⟨(some 39), .ext (.t 32) 1, none⟩,
      ⟨(some 40), .ext (.t 32) 2, none⟩,
      ⟨(some 10), .alloc 7 (.agg [.p (.int .u64 0), .p (.int .u64 0), .p (.int .u64 0), .p (.int .u64 0), .p (.bool false), .p (.bool false), .p (.string ⟨#[]⟩)]), none⟩,
      ⟨none, .store 7 (.t 10) (.t 38), none⟩,
      ⟨(some 11), .mov (.t 39), none⟩,
      ⟨(some 12), .mov (.t 40), none⟩])
    (.seq (.rg [⟨(some 42), .mov (.t 9), none⟩,
      ⟨(some 43), .mov (.t 3), none⟩,
      ⟨(some 44), .cint .i64 (.t 43), none⟩,
      ⟨(some 45), .mov (.t 9), none⟩,
      ⟨(some 46), .lens (.t 45), none⟩,
      ⟨(some 47), .bin .rem (.t 44) (.t 46), none⟩,
      ⟨(some 48), .slcs (.t 42) none (some (.t 47)), none⟩,
      ⟨(some 49), .mov (.t 1), none⟩,
      ⟨(some 50), .callr 24 [(.t 48), (.t 49)], none⟩,
      ⟨(some 41), .mov (.t 50), none⟩,
      ⟨(some 51), .ext (.t 41) 0, none⟩,
      ⟨(some 52), .ext (.t 41) 1, none⟩,
      ⟨(some 53), .ext (.t 41) 2, none⟩,
      ⟨(some 13), .alloc 7 (.agg [.p (.int .u64 0), .p (.int .u64 0), .p (.int .u64 0), .p (.int .u64 0), .p (.bool false), .p (.bool false), .p (.string ⟨#[]⟩)]), none⟩,
      ⟨none, .store 7 (.t 13) (.t 51), none⟩,
      ⟨(some 14), .mov (.t 52), none⟩,
      ⟨(some 15), .mov (.t 53), none⟩])
    (.seq (.rg [⟨(some 54), .faddr false 6 1 (.t 10), none⟩,
      ⟨none, .store 1 (.t 54) (.c (.p (.string ⟨#[]⟩))), none⟩])
    (.seq (.rg [⟨(some 55), .mov (.t 12), none⟩,
      ⟨(some 56), .mov (.t 55), none⟩,
      ⟨(some 57), .mov (.t 15), (some (56, true))⟩,
      ⟨(some 58), .un .not (.t 57), (some (56, true))⟩,
      ⟨(some 59), .pick (.t 56) (.t 58) (.c (.p (.bool false))), none⟩,
      ⟨(some 60), .mov (.t 59), none⟩,
      ⟨(some 61), .mov (.t 11), (some (60, true))⟩,
      ⟨(some 62), .mov (.t 2), (some (60, true))⟩,
      ⟨(some 63), .lens (.t 62), (some (60, true))⟩,
      ⟨(some 64), .bin .eql (.t 61) (.t 63), (some (60, true))⟩,
      ⟨(some 65), .pick (.t 60) (.t 64) (.c (.p (.bool false))), none⟩,
      ⟨(some 66), .mov (.t 65), none⟩,
      ⟨(some 67), .load true 7 (.t 10), (some (66, true))⟩,
      ⟨(some 68), .load true 7 (.t 4), (some (66, true))⟩,
      ⟨(some 69), .eqs false [.int, .int, .int, .int, .bool, .bool, .str] (.t 67) (.t 68), (some (66, true))⟩,
      ⟨(some 70), .pick (.t 66) (.t 69) (.c (.p (.bool false))), none⟩,
      ⟨(some 71), .mov (.t 70), none⟩,
      ⟨(some 72), .callr 14 [], (some (71, true))⟩,
      ⟨(some 73), .pick (.t 71) (.t 72) (.c (.p (.bool false))), none⟩,
      ⟨(some 8), .mov (.t 73), none⟩])
    .ret))))))))
def r5 : List DR := [.tmp 8]
theorem c5_ok : Try.f5.body.bind (cCode Try.prog) = some c5 := by kernel_rfl
theorem r5_ok : cRes Try.prog Try.f5.results.toList = some r5 := by kernel_rfl

/-- given.example/pub-assaymark/laws.zzFits22 -/
def c22 : DC :=
  (.seq (.rg [⟨(some 1), .box (.t 0), none⟩,
      ⟨(some 2), .mov (.c (.p (.bool false))), none⟩])
    (.seq (.seq (.rg [⟨(some 3), .faddr false 6 1 (.t 1), none⟩,
      ⟨(some 4), .load false 1 (.t 3), none⟩,
      ⟨(some 5), .lens (.t 4), none⟩,
      ⟨(some 6), .bin .gtr (.t 5) (.c (.p (.int .i64 2147483647))), none⟩])
    (.cond (.t 6) (.seq (.rg [⟨(some 2), .mov (.c (.p (.bool false))), none⟩])
      .ret)
      .skip))
    (.seq (.rg [⟨(some 2), .mov (.c (.p (.bool true))), none⟩])
    .ret)))
def r22 : List DR := [.tmp 2]
theorem c22_ok : Try.f22.body.bind (cCode Try.prog) = some c22 := by kernel_rfl
theorem r22_ok : cRes Try.prog Try.f22.results.toList = some r22 := by kernel_rfl

/-- given.example/pub-assaymark/spec.ProtoProfileWrite -/
def c23 : DC :=
  (.seq (.rg [⟨(some 1), .box (.t 0), none⟩,
      ⟨(some 2), .mov (.c (.p (.string ⟨#[]⟩))), none⟩])
    (.seq (.rgd [⟨⟨(some 3), .faddr false 0 1 (.t 1), none⟩, 0, [0]⟩,
      ⟨⟨(some 4), .load false 1 (.t 3), none⟩, 0, [0]⟩,
      ⟨⟨(some 5), .call 17 [(.t 4)], none⟩, 0, [0]⟩,
      ⟨⟨(some 6), .faddr false 2 1 (.t 1), none⟩, 0, [0]⟩,
      ⟨⟨(some 7), .load false 1 (.t 6), none⟩, 0, [0]⟩,
      ⟨⟨(some 8), .call 17 [(.t 7)], none⟩, 1, [0]⟩,
      ⟨⟨(some 9), .bin .add (.t 5) (.t 8), none⟩, 2, [0]⟩,
      ⟨⟨(some 10), .faddr false 1 1 (.t 1), none⟩, 0, [0]⟩,
      ⟨⟨(some 11), .load false 1 (.t 10), none⟩, 0, [0]⟩,
      ⟨⟨(some 12), .call 17 [(.t 11)], none⟩, 2, [0]⟩,
      ⟨⟨(some 13), .bin .add (.t 9) (.t 12), none⟩, 3, [0]⟩,
      ⟨⟨(some 14), .faddr false 4 1 (.t 1), none⟩, 0, [0]⟩,
      ⟨⟨(some 15), .load false 1 (.t 14), none⟩, 0, [0]⟩,
      ⟨⟨(some 16), .call 59 [(.t 15)], none⟩, 3, [0]⟩,
      ⟨⟨(some 17), .bin .add (.t 13) (.t 16), none⟩, 4, [0]⟩,
      ⟨⟨(some 18), .faddr false 3 1 (.t 1), none⟩, 0, [0]⟩,
      ⟨⟨(some 19), .load false 1 (.t 18), none⟩, 0, [0]⟩,
      ⟨⟨(some 20), .call 17 [(.t 19)], none⟩, 4, [0]⟩,
      ⟨⟨(some 21), .bin .add (.t 17) (.t 20), none⟩, 5, [0]⟩,
      ⟨⟨(some 22), .faddr false 5 1 (.t 1), none⟩, 0, [0]⟩,
      ⟨⟨(some 23), .load false 1 (.t 22), none⟩, 0, [0]⟩,
      ⟨⟨(some 24), .call 59 [(.t 23)], none⟩, 5, []⟩,
      ⟨⟨(some 25), .bin .add (.t 21) (.t 24), none⟩, 6, []⟩,
      ⟨⟨(some 2), .mov (.t 25), none⟩, 6, []⟩])
    .ret))
def r23 : List DR := [.tmp 2]
theorem c23_ok : Try.f23.body.bind (cCode Try.prog) = some c23 := by kernel_rfl
theorem r23_ok : cRes Try.prog Try.f23.results.toList = some r23 := by kernel_rfl

/-- given.example/pub-assaymark/impl.ProtoProfileRead -/
def c24 : DC :=
  (.seq (.rg [⟨(some 4), .alloc 7 (.agg [.p (.int .u64 0), .p (.int .u64 0), .p (.int .u64 0), .p (.int .u64 0), .p (.bool false), .p (.bool false), .p (.string ⟨#[]⟩)]), none⟩,
      ⟨(some 5), .mov (.c (.p (.int .i64 0))), none⟩,
      ⟨(some 6), .mov (.c (.p (.bool false))), none⟩])
    (.seq (.rg [⟨(some 9), .mov (.t 0), none⟩,
      ⟨(some 10), .callr 60 [(.t 9)], none⟩,
      ⟨(some 7), .mov (.t 10), none⟩])
    (.seq (.rg [⟨(some 8), .alloc 6 (.agg [.p (.int .u64 0), .p (.int .u64 0), .p (.int .u64 0), .p (.bool false), .p (.int .u64 0), .p (.bool false)]), none⟩])
    (.seq (.seq (.rg [⟨(some 11), .mov (.t 7), none⟩,
      ⟨(some 12), .mov (.t 1), none⟩,
      ⟨(some 13), .callr 61 [(.t 8), (.t 11), (.t 12)], none⟩,
      ⟨(some 14), .eqn true .iface (.t 13), none⟩])
    (.cond (.t 14) (.seq (.rg [⟨(some 15), .load true 7 (.t 4), none⟩,
        ⟨none, .store 7 (.t 4) (.t 15), none⟩,
        ⟨(some 5), .mov (.c (.p (.int .i64 0))), none⟩,
        ⟨(some 6), .mov (.c (.p (.bool false))), none⟩])
      .ret)
      .skip))
    (.seq (.rgd [⟨⟨(some 16), .faddr false 0 1 (.t 8), none⟩, 0, [0]⟩,
      ⟨⟨(some 17), .load false 1 (.t 16), none⟩, 0, [0]⟩,
      ⟨⟨(some 18), .faddr false 1 1 (.t 8), none⟩, 0, [0]⟩,
      ⟨⟨(some 19), .load false 1 (.t 18), none⟩, 0, [0]⟩,
      ⟨⟨(some 20), .faddr false 2 1 (.t 8), none⟩, 0, [0]⟩,
      ⟨⟨(some 21), .load false 1 (.t 20), none⟩, 0, [0]⟩,
      ⟨⟨(some 22), .faddr false 4 1 (.t 8), none⟩, 0, [0]⟩,
      ⟨⟨(some 23), .load false 1 (.t 22), none⟩, 0, [0]⟩,
      ⟨⟨(some 24), .faddr false 3 1 (.t 8), none⟩, 0, [0]⟩,
      ⟨⟨(some 25), .load false 1 (.t 24), none⟩, 0, [0]⟩,
      ⟨⟨(some 26), .faddr false 5 1 (.t 8), none⟩, 0, [0]⟩,
      ⟨⟨(some 27), .load false 1 (.t 26), none⟩, 0, [0]⟩,
      ⟨⟨(some 28), .call 62 [(.t 8)], none⟩, 0, [0]⟩,
      ⟨⟨(some 29), .bld [.p (.int .u64 0), .p (.int .u64 0), .p (.int .u64 0), .p (.int .u64 0), .p (.bool false), .p (.bool false), .p (.string ⟨#[]⟩)] [(0, 1, (.t 17)), (1, 1, (.t 19)), (2, 1, (.t 21)), (3, 1, (.t 23)), (4, 1, (.t 25)), (5, 1, (.t 27)), (6, 1, (.t 28))], none⟩, 1, []⟩,
      ⟨⟨(some 30), .mov (.t 7), none⟩, 0, [0]⟩,
      ⟨⟨(some 31), .call 63 [(.t 30)], none⟩, 1, [0]⟩,
      ⟨⟨none, .store 7 (.t 4) (.t 29), none⟩, 2, []⟩,
      ⟨⟨(some 5), .mov (.t 31), none⟩, 3, []⟩,
      ⟨⟨(some 6), .mov (.c (.p (.bool true))), none⟩, 3, []⟩])
    .ret)))))
def r24 : List DR := [.cell 4 true 7, .tmp 5, .tmp 6]
theorem c24_ok : Try.f24.body.bind (cCode Try.prog) = some c24 := by kernel_rfl
theorem r24_ok : cRes Try.prog Try.f24.results.toList = some r24 := by kernel_rfl

/-- given.example/pub-assaymark/spec.YesNo -/
def c59 : DC :=
  (.seq (.rg [⟨(some 2), .mov (.c (.p (.string ⟨#[]⟩))), none⟩])
    (.seq (.seq (.rg [⟨(some 3), .mov (.t 0), none⟩])
    (.cond (.t 3) (.seq (.rg [⟨(some 2), .mov (.c (.p (.string ⟨#[1]⟩))), none⟩])
      .ret)
      .skip))
    (.seq (.rg [⟨(some 2), .mov (.c (.p (.string ⟨#[0]⟩))), none⟩])
    .ret)))
def r59 : List DR := [.tmp 2]
theorem c59_ok : Try.f59.body.bind (cCode Try.prog) = some c59 := by kernel_rfl
theorem r59_ok : cRes Try.prog Try.f59.results.toList = some r59 := by kernel_rfl

/-- (*given.example/pub-assaymark/pub/clickhousego/lib/proto.ProfileInfo).Decode -/
def c61 : DC :=
  (.seq (.rg [⟨(some 6), .mov (.c (.p .nilIface)), none⟩])
    (.seq (.seq (.rg [⟨(some 8), .mov (.t 0), none⟩,
      ⟨(some 9), .mov (.t 1), none⟩,
      ⟨(some 10), .callr 104 [(.t 9)], none⟩,
      ⟨(some 7), .mov (.t 10), none⟩,
      ⟨(some 11), .ext (.t 7) 0, none⟩,
      ⟨(some 12), .ext (.t 7) 1, none⟩,
      ⟨(some 13), .nilchk .ptr (.t 8), none⟩,
      ⟨(some 14), .faddr false 0 1 (.t 13), none⟩,
      ⟨none, .store 1 (.t 14) (.t 11), none⟩,
      ⟨(some 6), .mov (.t 12), none⟩])
    (.seq (.rg [⟨(some 15), .mov (.t 6), none⟩,
      ⟨(some 16), .eqn true .iface (.t 15), none⟩])
    (.cond (.t 16) (.seq (.rg [⟨(some 17), .mov (.t 6), none⟩,
        ⟨(some 6), .mov (.t 17), none⟩])
      .ret)
      .skip)))
    (.seq (.seq (.rg [⟨(some 19), .mov (.t 0), none⟩,
      ⟨(some 20), .mov (.t 1), none⟩,
      ⟨(some 21), .callr 104 [(.t 20)], none⟩,
      ⟨(some 18), .mov (.t 21), none⟩,
      ⟨(some 22), .ext (.t 18) 0, none⟩,
      ⟨(some 23), .ext (.t 18) 1, none⟩,
      ⟨(some 24), .nilchk .ptr (.t 19), none⟩,
      ⟨(some 25), .faddr false 2 1 (.t 24), none⟩,
      ⟨none, .store 1 (.t 25) (.t 22), none⟩,
      ⟨(some 6), .mov (.t 23), none⟩])
    (.seq (.rg [⟨(some 26), .mov (.t 6), none⟩,
      ⟨(some 27), .eqn true .iface (.t 26), none⟩])
    (.cond (.t 27) (.seq (.rg [⟨(some 28), .mov (.t 6), none⟩,
        ⟨(some 6), .mov (.t 28), none⟩])
      .ret)
      .skip)))
    (.seq (.seq (.rg [⟨(some 30), .mov (.t 0), none⟩,
      ⟨(some 31), .mov (.t 1), none⟩,
      ⟨(some 32), .callr 104 [(.t 31)], none⟩,
      ⟨(some 29), .mov (.t 32), none⟩,
      ⟨(some 33), .ext (.t 29) 0, none⟩,
      ⟨(some 34), .ext (.t 29) 1, none⟩,
      ⟨(some 35), .nilchk .ptr (.t 30), none⟩,
      ⟨(some 36), .faddr false 1 1 (.t 35), none⟩,
      ⟨none, .store 1 (.t 36) (.t 33), none⟩,
      ⟨(some 6), .mov (.t 34), none⟩])
    (.seq (.rg [⟨(some 37), .mov (.t 6), none⟩,
      ⟨(some 38), .eqn true .iface (.t 37), none⟩])
    (.cond (.t 38) (.seq (.rg [⟨(some 39), .mov (.t 6), none⟩,
        ⟨(some 6), .mov (.t 39), none⟩])
      .ret)
      .skip)))
    (.seq (.seq (.rg [⟨(some 41), .mov (.t 0), none⟩,
      ⟨(some 42), .mov (.t 1), none⟩,
      ⟨(some 43), .callr 105 [(.t 42)], none⟩,
      ⟨(some 40), .mov (.t 43), none⟩,
      ⟨(some 44), .ext (.t 40) 0, none⟩,
      ⟨(some 45), .ext (.t 40) 1, none⟩,
      ⟨(some 46), .nilchk .ptr (.t 41), none⟩,
      ⟨(some 47), .faddr false 3 1 (.t 46), none⟩,
      ⟨none, .store 1 (.t 47) (.t 44), none⟩,
      ⟨(some 6), .mov (.t 45), none⟩])
    (.seq (.rg [⟨(some 48), .mov (.t 6), none⟩,
      ⟨(some 49), .eqn true .iface (.t 48), none⟩])
    (.cond (.t 49) (.seq (.rg [⟨(some 50), .mov (.t 6), none⟩,
        ⟨(some 6), .mov (.t 50), none⟩])
      .ret)
      .skip)))
    (.seq (.seq (.rg [⟨(some 52), .mov (.t 0), none⟩,
      ⟨(some 53), .mov (.t 1), none⟩,
      ⟨(some 54), .callr 104 [(.t 53)], none⟩,
      ⟨(some 51), .mov (.t 54), none⟩,
      ⟨(some 55), .ext (.t 51) 0, none⟩,
      ⟨(some 56), .ext (.t 51) 1, none⟩,
      ⟨(some 57), .nilchk .ptr (.t 52), none⟩,
      ⟨(some 58), .faddr false 4 1 (.t 57), none⟩,
      ⟨none, .store 1 (.t 58) (.t 55), none⟩,
      ⟨(some 6), .mov (.t 56), none⟩])
    (.seq (.rg [⟨(some 59), .mov (.t 6), none⟩,
      ⟨(some 60), .eqn true .iface (.t 59), none⟩])
    (.cond (.t 60) (.seq (.rg [⟨(some 61), .mov (.t 6), none⟩,
        ⟨(some 6), .mov (.t 61), none⟩])
      .ret)
      .skip)))
    (.seq (.seq (.rg [⟨(some 63), .mov (.t 0), none⟩,
      ⟨(some 64), .mov (.t 1), none⟩,
      ⟨(some 65), .callr 105 [(.t 64)], none⟩,
      ⟨(some 62), .mov (.t 65), none⟩,
      ⟨(some 66), .ext (.t 62) 0, none⟩,
      ⟨(some 67), .ext (.t 62) 1, none⟩,
      ⟨(some 68), .nilchk .ptr (.t 63), none⟩,
      ⟨(some 69), .faddr false 5 1 (.t 68), none⟩,
      ⟨none, .store 1 (.t 69) (.t 66), none⟩,
      ⟨(some 6), .mov (.t 67), none⟩])
    (.seq (.rg [⟨(some 70), .mov (.t 6), none⟩,
      ⟨(some 71), .eqn true .iface (.t 70), none⟩])
    (.cond (.t 71) (.seq (.rg [⟨(some 72), .mov (.t 6), none⟩,
        ⟨(some 6), .mov (.t 72), none⟩])
      .ret)
      .skip)))
    (.seq (.rg [⟨(some 6), .mov (.c (.p .nilIface)), none⟩])
    .ret))))))))
def r61 : List DR := [.tmp 6]
theorem c61_ok : Try.f61.body.bind (cCode Try.prog) = some c61 := by kernel_rfl
theorem r61_ok : cRes Try.prog Try.f61.results.toList = some r61 := by kernel_rfl

/-- (*given.example/pub-assaymark/pub/clickhousego/lib/proto.ProfileInfo).String -/
def c62 : DC :=
  (.seq (.rg [⟨(some 2), .mov (.c (.p (.string ⟨#[]⟩))), none⟩])
    (.seq (.rg [⟨(some 3), .mov (.c (.fn (.func 106) [] [])), none⟩])
    (.seq (.rgd [⟨⟨(some 4), .mov (.t 3), none⟩, 0, [0]⟩,
      ⟨⟨(some 5), .mov (.t 0), none⟩, 0, [0]⟩,
      ⟨⟨(some 6), .nilchk .ptr (.t 5), none⟩, 0, [0]⟩,
      ⟨⟨(some 7), .faddr false 0 1 (.t 6), none⟩, 0, [0]⟩,
      ⟨⟨(some 8), .load false 1 (.t 7), none⟩, 0, [0]⟩,
      ⟨⟨(some 9), .callv false (.t 4) [(.t 8)], none⟩, 0, [0]⟩,
      ⟨⟨(some 10), .bin .add (.c (.p (.string ⟨#[114, 111, 119, 115, 61]⟩))) (.t 9), none⟩, 1, [0]⟩,
      ⟨⟨(some 11), .bin .add (.t 10) (.c (.p (.string ⟨#[44, 32, 98, 121, 116, 101, 115, 61]⟩))), none⟩, 1, [0]⟩,
      ⟨⟨(some 12), .mov (.t 3), none⟩, 0, [0]⟩,
      ⟨⟨(some 13), .mov (.t 0), none⟩, 0, [0]⟩,
      ⟨⟨(some 14), .nilchk .ptr (.t 13), none⟩, 0, [0]⟩,
      ⟨⟨(some 15), .faddr false 1 1 (.t 14), none⟩, 0, [0]⟩,
      ⟨⟨(some 16), .load false 1 (.t 15), none⟩, 0, [0]⟩,
      ⟨⟨(some 17), .callv false (.t 12) [(.t 16)], none⟩, 1, [0]⟩,
      ⟨⟨(some 18), .bin .add (.t 11) (.t 17), none⟩, 2, [0]⟩,
      ⟨⟨(some 19), .bin .add (.t 18) (.c (.p (.string ⟨#[44, 32, 98, 108, 111, 99, 107, 115, 61]⟩))), none⟩, 2, [0]⟩,
      ⟨⟨(some 20), .mov (.t 3), none⟩, 0, [0]⟩,
      ⟨⟨(some 21), .mov (.t 0), none⟩, 0, [0]⟩,
      ⟨⟨(some 22), .nilchk .ptr (.t 21), none⟩, 0, [0]⟩,
      ⟨⟨(some 23), .faddr false 2 1 (.t 22), none⟩, 0, [0]⟩,
      ⟨⟨(some 24), .load false 1 (.t 23), none⟩, 0, [0]⟩,
      ⟨⟨(some 25), .callv false (.t 20) [(.t 24)], none⟩, 2, [0]⟩,
      ⟨⟨(some 26), .bin .add (.t 19) (.t 25), none⟩, 3, [0]⟩,
      ⟨⟨(some 27), .bin .add (.t 26) (.c (.p (.string ⟨#[44, 32, 114, 111, 119, 115, 32, 98, 101, 102, 111, 114, 101, 32, 108, 105, 109, 105, 116, 61]⟩))), none⟩, 3, [0]⟩,
      ⟨⟨(some 28), .mov (.t 3), none⟩, 0, [0]⟩,
      ⟨⟨(some 29), .mov (.t 0), none⟩, 0, [0]⟩,
      ⟨⟨(some 30), .nilchk .ptr (.t 29), none⟩, 0, [0]⟩,
      ⟨⟨(some 31), .faddr false 4 1 (.t 30), none⟩, 0, [0]⟩,
      ⟨⟨(some 32), .load false 1 (.t 31), none⟩, 0, [0]⟩,
      ⟨⟨(some 33), .callv false (.t 28) [(.t 32)], none⟩, 3, [0]⟩,
      ⟨⟨(some 34), .bin .add (.t 27) (.t 33), none⟩, 4, [0]⟩,
      ⟨⟨(some 35), .bin .add (.t 34) (.c (.p (.string ⟨#[44, 32, 97, 112, 112, 108, 105, 101, 100, 32, 108, 105, 109, 105, 116, 61]⟩))), none⟩, 4, [0]⟩,
      ⟨⟨(some 36), .mov (.t 0), none⟩, 0, [0]⟩,
      ⟨⟨(some 37), .nilchk .ptr (.t 36), none⟩, 0, [0]⟩,
      ⟨⟨(some 38), .faddr false 3 1 (.t 37), none⟩, 0, [0]⟩,
      ⟨⟨(some 39), .load false 1 (.t 38), none⟩, 0, [0]⟩,
      ⟨⟨(some 40), .call 108 [(.t 39)], none⟩, 4, [0]⟩,
      ⟨⟨(some 41), .bin .add (.t 35) (.t 40), none⟩, 5, [0]⟩,
      ⟨⟨(some 42), .bin .add (.t 41) (.c (.p (.string ⟨#[44, 32, 99, 97, 108, 99, 117, 108, 97, 116, 101, 100, 32, 114, 111, 119, 115, 32, 98, 101, 102, 111, 114, 101, 32, 108, 105, 109, 105, 116, 61]⟩))), none⟩, 5, [0]⟩,
      ⟨⟨(some 43), .mov (.t 0), none⟩, 0, [0]⟩,
      ⟨⟨(some 44), .nilchk .ptr (.t 43), none⟩, 0, [0]⟩,
      ⟨⟨(some 45), .faddr false 5 1 (.t 44), none⟩, 0, [0]⟩,
      ⟨⟨(some 46), .load false 1 (.t 45), none⟩, 0, [0]⟩,
      ⟨⟨(some 47), .call 108 [(.t 46)], none⟩, 5, []⟩,
      ⟨⟨(some 48), .bin .add (.t 42) (.t 47), none⟩, 6, []⟩,
      ⟨⟨(some 2), .mov (.t 48), none⟩, 6, []⟩])
    .ret)))
def r62 : List DR := [.tmp 2]
theorem c62_ok : Try.f62.body.bind (cCode Try.prog) = some c62 := by kernel_rfl
theorem r62_ok : cRes Try.prog Try.f62.results.toList = some r62 := by kernel_rfl

/-- (*given.example/pub-assaymark/pub/clickhousego/lib/proto.ProfileInfo).String$1 -/
def c106 : DC :=
  (.seq (.rg [⟨(some 2), .mov (.c (.p (.string ⟨#[]⟩))), none⟩])
    (.seq (.rg [⟨(some 3), .mov (.t 0), none⟩,
      ⟨(some 4), .callr 107 [(.t 3), (.c (.p (.int .i64 10)))], none⟩,
      ⟨(some 2), .mov (.t 4), none⟩])
    .ret))
def r106 : List DR := [.tmp 2]
theorem c106_ok : Try.f106.body.bind (cCode Try.prog) = some c106 := by kernel_rfl
theorem r106_ok : cRes Try.prog Try.f106.results.toList = some r106 := by kernel_rfl

/-- given.example/pub-assaymark/pub/lightstrconv.FormatBool -/
def c108 : DC :=
  (.seq (.rg [⟨(some 2), .mov (.c (.p (.string ⟨#[]⟩))), none⟩])
    (.seq (.seq (.rg [⟨(some 3), .mov (.t 0), none⟩])
    (.cond (.t 3) (.seq (.rg [⟨(some 2), .mov (.c (.p (.string ⟨#[116, 114, 117, 101]⟩))), none⟩])
      .ret)
      .skip))
    (.seq (.rg [⟨(some 2), .mov (.c (.p (.string ⟨#[102, 97, 108, 115, 101]⟩))), none⟩])
    .ret)))
def r108 : List DR := [.tmp 2]
theorem c108_ok : Try.f108.body.bind (cCode Try.prog) = some c108 := by kernel_rfl
theorem r108_ok : cRes Try.prog Try.f108.results.toList = some r108 := by kernel_rfl

end Go.Proofs.Ytbbafeocmchlnaa
