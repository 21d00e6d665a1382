/- The codes of the functions, in the small language of Den. -/
import Derived.Test.YtbbafeocmchlnaaLibE
import Derived.Test.YtbbafeocmchlnaaProg
set_option linter.unusedVariables false
set_option linter.unusedSimpArgs false
set_option maxRecDepth 100000
namespace Go.Proofs.Ytbbafeocmchlnaa
open Go Go.Den Go.Proofs

/-- given.example/pub-assaymark/laws.FnProtoVersion -/
def c8 : DC :=
  (.seq (.rg [⟨(some 2), .box (.t 0), none⟩,
      ⟨(some 3), .box (.t 1), none⟩,
      ⟨(some 4), .mov (.c (.p (.bool false))), none⟩])
    (.seq (.rg [⟨(some 7), .load true 3 (.t 2), none⟩,
      ⟨(some 8), .callr 31 [(.t 7)], none⟩,
      ⟨(some 5), .mov (.t 8), none⟩])
    (.seq (.rg [⟨(some 9), .faddr false 0 1 (.t 2), none⟩,
      ⟨(some 10), .load false 1 (.t 9), none⟩,
      ⟨(some 11), .faddr false 0 1 (.t 3), none⟩,
      ⟨(some 12), .load false 1 (.t 11), none⟩,
      ⟨(some 13), .bin .gtr (.t 10) (.t 12), none⟩,
      ⟨(some 14), .mov (.t 13), none⟩,
      ⟨(some 15), .faddr false 0 1 (.t 2), (some (14, false))⟩,
      ⟨(some 16), .load false 1 (.t 15), (some (14, false))⟩,
      ⟨(some 17), .faddr false 0 1 (.t 3), (some (14, false))⟩,
      ⟨(some 18), .load false 1 (.t 17), (some (14, false))⟩,
      ⟨(some 19), .bin .eql (.t 16) (.t 18), (some (14, false))⟩,
      ⟨(some 20), .mov (.t 19), (some (14, false))⟩,
      ⟨(some 21), .faddr false 1 1 (.t 2), (some (20, true))⟩,
      ⟨(some 22), .load false 1 (.t 21), (some (20, true))⟩,
      ⟨(some 23), .faddr false 1 1 (.t 3), (some (20, true))⟩,
      ⟨(some 24), .load false 1 (.t 23), (some (20, true))⟩,
      ⟨(some 25), .bin .gtr (.t 22) (.t 24), (some (20, true))⟩,
      ⟨(some 26), .mov (.t 25), (some (20, true))⟩,
      ⟨(some 27), .faddr false 1 1 (.t 2), (some (26, false))⟩,
      ⟨(some 28), .load false 1 (.t 27), (some (26, false))⟩,
      ⟨(some 29), .faddr false 1 1 (.t 3), (some (26, false))⟩,
      ⟨(some 30), .load false 1 (.t 29), (some (26, false))⟩,
      ⟨(some 31), .bin .eql (.t 28) (.t 30), (some (26, false))⟩,
      ⟨(some 32), .mov (.t 31), (some (26, false))⟩,
      ⟨(some 33), .faddr false 2 1 (.t 2), (some (32, true))⟩,
      ⟨(some 34), .load false 1 (.t 33), (some (32, true))⟩,
      ⟨(some 35), .faddr false 2 1 (.t 3), (some (32, true))⟩,
      ⟨(some 36), .load false 1 (.t 35), (some (32, true))⟩,
      ⟨(some 37), .bin .geq (.t 34) (.t 36), (some (32, true))⟩,
      ⟨(some 38), .pick (.t 32) (.t 37) (.c (.p (.bool false))), (some (26, false))⟩,
      ⟨(some 39), .pick (.t 26) (.c (.p (.bool true))) (.t 38), (some (20, true))⟩,
      ⟨(some 40), .pick (.t 20) (.t 39) (.c (.p (.bool false))), (some (14, false))⟩,
      ⟨(some 41), .pick (.t 14) (.c (.p (.bool true))) (.t 40), none⟩,
      ⟨(some 6), .mov (.t 41), none⟩])
    (.seq (.seq (.rgd [⟨⟨(some 42), .faddr false 0 1 (.t 2), none⟩, 0, [0]⟩,
      ⟨⟨(some 43), .load false 1 (.t 42), none⟩, 0, [0]⟩,
      ⟨⟨(some 44), .bin .lss (.t 43) (.c (.p (.int .u64 256))), none⟩, 0, []⟩,
      ⟨⟨(some 45), .mov (.t 44), none⟩, 0, []⟩,
      ⟨⟨(some 46), .faddr false 1 1 (.t 2), (some (45, true))⟩, 0, [0]⟩,
      ⟨⟨(some 47), .load false 1 (.t 46), (some (45, true))⟩, 0, [0]⟩,
      ⟨⟨(some 48), .bin .lss (.t 47) (.c (.p (.int .u64 256))), (some (45, true))⟩, 0, []⟩,
      ⟨⟨(some 49), .pick (.t 45) (.t 48) (.c (.p (.bool false))), none⟩, 0, []⟩,
      ⟨⟨(some 50), .mov (.t 49), none⟩, 0, []⟩,
      ⟨⟨(some 51), .faddr false 2 1 (.t 2), (some (50, true))⟩, 0, [0]⟩,
      ⟨⟨(some 52), .load false 1 (.t 51), (some (50, true))⟩, 0, [0]⟩,
      ⟨⟨(some 53), .bin .lss (.t 52) (.c (.p (.int .u64 256))), (some (50, true))⟩, 0, []⟩,
      ⟨⟨(some 54), .pick (.t 50) (.t 53) (.c (.p (.bool false))), none⟩, 0, []⟩,
      ⟨⟨(some 55), .mov (.t 54), none⟩, 0, []⟩,
      ⟨⟨(some 56), .mov (.t 5), (some (55, true))⟩, 0, [0]⟩,
      ⟨⟨(some 57), .call 32 [(.t 56)], (some (55, true))⟩, 0, [0]⟩,
      ⟨⟨(some 58), .load true 3 (.t 2), (some (55, true))⟩, 0, [0]⟩,
      ⟨⟨(some 59), .eqs true [.int, .int, .int] (.t 57) (.t 58), (some (55, true))⟩, 1, []⟩,
      ⟨⟨(some 60), .pick (.t 55) (.t 59) (.c (.p (.bool false))), none⟩, 1, []⟩])
    (.cond (.t 60) (.seq (.rg [⟨(some 4), .mov (.c (.p (.bool false))), none⟩])
      .ret)
      .skip))
    (.seq (.rgd [⟨⟨(some 61), .mov (.t 5), none⟩, 0, [0]⟩,
      ⟨⟨(some 62), .faddr false 0 1 (.t 2), none⟩, 0, [0]⟩,
      ⟨⟨(some 63), .load false 1 (.t 62), none⟩, 0, [0]⟩,
      ⟨⟨(some 64), .call 33 [(.t 63)], none⟩, 0, [0]⟩,
      ⟨⟨(some 65), .bin .add (.t 64) (.c (.p (.string ⟨#[46]⟩))), none⟩, 1, [0]⟩,
      ⟨⟨(some 66), .faddr false 1 1 (.t 2), none⟩, 0, [0]⟩,
      ⟨⟨(some 67), .load false 1 (.t 66), none⟩, 0, [0]⟩,
      ⟨⟨(some 68), .call 33 [(.t 67)], none⟩, 1, [0]⟩,
      ⟨⟨(some 69), .bin .add (.t 65) (.t 68), none⟩, 2, [0]⟩,
      ⟨⟨(some 70), .bin .add (.t 69) (.c (.p (.string ⟨#[46]⟩))), none⟩, 2, [0]⟩,
      ⟨⟨(some 71), .faddr false 2 1 (.t 2), none⟩, 0, [0]⟩,
      ⟨⟨(some 72), .load false 1 (.t 71), none⟩, 0, [0]⟩,
      ⟨⟨(some 73), .call 33 [(.t 72)], none⟩, 2, []⟩,
      ⟨⟨(some 74), .bin .add (.t 70) (.t 73), none⟩, 3, []⟩,
      ⟨⟨(some 75), .bin .eql (.t 61) (.t 74), none⟩, 3, []⟩,
      ⟨⟨(some 76), .mov (.t 75), none⟩, 3, []⟩,
      ⟨⟨(some 77), .load true 3 (.t 3), (some (76, true))⟩, 3, [3]⟩,
      ⟨⟨(some 78), .load true 3 (.t 2), (some (76, true))⟩, 3, [3]⟩,
      ⟨⟨(some 79), .call 34 [(.t 77), (.t 78)], (some (76, true))⟩, 3, []⟩,
      ⟨⟨(some 80), .mov (.t 6), (some (76, true))⟩, 3, [3]⟩,
      ⟨⟨(some 81), .eqb false (.t 79) (.t 80), (some (76, true))⟩, 4, []⟩,
      ⟨⟨(some 82), .pick (.t 76) (.t 81) (.c (.p (.bool false))), none⟩, 4, []⟩,
      ⟨⟨(some 83), .mov (.t 82), none⟩, 4, []⟩,
      ⟨⟨(some 84), .call 14 [], (some (83, true))⟩, 4, []⟩,
      ⟨⟨(some 85), .pick (.t 83) (.t 84) (.c (.p (.bool false))), none⟩, 5, []⟩,
      ⟨⟨(some 4), .mov (.t 85), none⟩, 5, []⟩])
    .ret)))))
def r8 : List DR := [.tmp 4]
theorem c8_ok : Try.f8.body.bind (cCode Try.prog) = some c8 := by kernel_rfl
theorem r8_ok : cRes Try.prog Try.f8.results.toList = some r8 := by kernel_rfl

/-- given.example/pub-assaymark/laws.protoAwake -/
def c14 : DC :=
  (.seq (.rg [⟨(some 0), .mov (.c (.p (.bool false))), none⟩])
    (.seq (.rg [⟨(some 1), .bld [.p (.int .u64 0), .p (.int .u64 0), .p (.int .u64 0)] [(0, 1, (.c (.p (.int .u64 1)))), (1, 1, (.c (.p (.int .u64 2)))), (2, 1, (.c (.p (.int .u64 3))))], none⟩,
      ⟨(some 2), .callr 31 [(.t 1)], none⟩,
      ⟨(some 3), .bin .eql (.t 2) (.c (.p (.string ⟨#[49, 46, 50, 46, 51]⟩))), none⟩,
      ⟨(some 0), .mov (.t 3), none⟩])
    .ret))
def r14 : List DR := [.tmp 0]
theorem c14_ok : Try.f14.body.bind (cCode Try.prog) = some c14 := by kernel_rfl
theorem r14_ok : cRes Try.prog Try.f14.results.toList = some r14 := by kernel_rfl

/-- given.example/pub-assaymark/impl.ProtoVersionText -/
def c31 : DC :=
  (.seq (.rg [⟨(some 1), .box (.t 0), none⟩,
      ⟨(some 2), .mov (.c (.p (.string ⟨#[]⟩))), none⟩])
    (.seq (.rg [⟨(some 3), .load true 3 (.t 1), none⟩,
      ⟨(some 4), .callr 52 [(.t 3)], none⟩,
      ⟨(some 5), .callr 70 [(.t 4)], none⟩,
      ⟨(some 2), .mov (.t 5), none⟩])
    .ret))
def r31 : List DR := [.tmp 2]
theorem c31_ok : Try.f31.body.bind (cCode Try.prog) = some c31 := by kernel_rfl
theorem r31_ok : cRes Try.prog Try.f31.results.toList = some r31 := by kernel_rfl

/-- given.example/pub-assaymark/impl.ProtoVersionParse -/
def c32 : DC :=
  (.seq (.rg [⟨(some 2), .alloc 3 (.agg [.p (.int .u64 0), .p (.int .u64 0), .p (.int .u64 0)]), none⟩])
    (.seq (.rg [⟨(some 3), .mov (.t 0), none⟩,
      ⟨(some 4), .callr 72 [(.t 3)], none⟩,
      ⟨(some 5), .callr 71 [(.t 4)], none⟩,
      ⟨none, .store 3 (.t 2) (.t 5), none⟩])
    .ret))
def r32 : List DR := [.cell 2 true 3]
theorem c32_ok : Try.f32.body.bind (cCode Try.prog) = some c32 := by kernel_rfl
theorem r32_ok : cRes Try.prog Try.f32.results.toList = some r32 := by kernel_rfl

/-- given.example/pub-assaymark/spec.Number -/
def c33 : DC :=
  (.seq (.rg [⟨(some 2), .mov (.c (.p (.string ⟨#[]⟩))), none⟩])
    (.seq (.rg [⟨(some 4), .mov (.t 0), none⟩,
      ⟨(some 5), .bin .rem (.t 4) (.c (.p (.int .u64 10))), none⟩,
      ⟨(some 6), .bin .add (.c (.p (.int .u64 48))) (.t 5), none⟩,
      ⟨(some 7), .cint .i32 (.t 6), none⟩,
      ⟨(some 8), .cstr (.t 7), none⟩,
      ⟨(some 3), .mov (.t 8), none⟩])
    (.seq (.seq (.rg [⟨(some 9), .mov (.t 0), none⟩,
      ⟨(some 10), .bin .quo (.t 9) (.c (.p (.int .u64 10))), none⟩,
      ⟨(some 0), .mov (.t 10), none⟩])
    (.block 0 (.loop (.seq (.seq (.rg [⟨(some 11), .mov (.t 0), none⟩,
        ⟨(some 12), .bin .gtr (.t 11) (.c (.p (.int .u64 0))), none⟩])
      (.cond (.t 12) .skip
        (.exit 0)))
      (.seq (.block 1 (.rg [⟨(some 15), .mov (.t 0), none⟩,
         ⟨(some 16), .bin .rem (.t 15) (.c (.p (.int .u64 10))), none⟩,
         ⟨(some 17), .bin .add (.c (.p (.int .u64 48))) (.t 16), none⟩,
         ⟨(some 18), .cint .i32 (.t 17), none⟩,
         ⟨(some 19), .cstr (.t 18), none⟩,
         ⟨(some 20), .mov (.t 3), none⟩,
         ⟨(some 21), .bin .add (.t 19) (.t 20), none⟩,
         ⟨(some 3), .mov (.t 21), none⟩]))
      (.rg [⟨(some 13), .mov (.t 0), none⟩,
        ⟨(some 14), .bin .quo (.t 13) (.c (.p (.int .u64 10))), none⟩,
        ⟨(some 0), .mov (.t 14), none⟩]))))))
    (.seq (.rg [⟨(some 22), .mov (.t 3), none⟩,
      ⟨(some 2), .mov (.t 22), none⟩])
    .ret))))
def r33 : List DR := [.tmp 2]
theorem c33_ok : Try.f33.body.bind (cCode Try.prog) = some c33 := by kernel_rfl
theorem r33_ok : cRes Try.prog Try.f33.results.toList = some r33 := by kernel_rfl

/-- given.example/pub-assaymark/impl.ProtoMin -/
def c34 : DC :=
  (.seq (.rg [⟨(some 2), .box (.t 0), none⟩,
      ⟨(some 3), .box (.t 1), none⟩,
      ⟨(some 4), .mov (.c (.p (.bool false))), none⟩])
    (.seq (.rgd [⟨⟨(some 5), .load true 3 (.t 2), none⟩, 0, [0]⟩,
      ⟨⟨(some 6), .call 52 [(.t 5)], none⟩, 0, [0]⟩,
      ⟨⟨(some 7), .load true 3 (.t 3), none⟩, 0, [0]⟩,
      ⟨⟨(some 8), .call 52 [(.t 7)], none⟩, 1, []⟩,
      ⟨⟨(some 9), .call 73 [(.t 6), (.t 8)], none⟩, 2, []⟩,
      ⟨⟨(some 4), .mov (.t 9), none⟩, 3, []⟩])
    .ret))
def r34 : List DR := [.tmp 4]
theorem c34_ok : Try.f34.body.bind (cCode Try.prog) = some c34 := by kernel_rfl
theorem r34_ok : cRes Try.prog Try.f34.results.toList = some r34 := by kernel_rfl

/-- given.example/pub-assaymark/impl.protoVersion -/
def c52 : DC :=
  (.seq (.rg [⟨(some 1), .box (.t 0), none⟩,
      ⟨(some 2), .alloc 3 (.agg [.p (.int .u64 0), .p (.int .u64 0), .p (.int .u64 0)]), none⟩])
    (.seq (.rg [⟨(some 3), .faddr false 0 1 (.t 1), none⟩,
      ⟨(some 4), .load false 1 (.t 3), none⟩,
      ⟨(some 5), .faddr false 1 1 (.t 1), none⟩,
      ⟨(some 6), .load false 1 (.t 5), none⟩,
      ⟨(some 7), .faddr false 2 1 (.t 1), none⟩,
      ⟨(some 8), .load false 1 (.t 7), none⟩,
      ⟨(some 9), .bld [.p (.int .u64 0), .p (.int .u64 0), .p (.int .u64 0)] [(0, 1, (.t 4)), (1, 1, (.t 6)), (2, 1, (.t 8))], none⟩,
      ⟨none, .store 3 (.t 2) (.t 9), none⟩])
    .ret))
def r52 : List DR := [.cell 2 true 3]
theorem c52_ok : Try.f52.body.bind (cCode Try.prog) = some c52 := by kernel_rfl
theorem r52_ok : cRes Try.prog Try.f52.results.toList = some r52 := by kernel_rfl

/-- (given.example/pub-assaymark/pub/clickhousego/lib/proto.Version).String -/
def c70 : DC :=
  (.seq (.rg [⟨(some 1), .box (.t 0), none⟩,
      ⟨(some 2), .mov (.c (.p (.string ⟨#[]⟩))), none⟩])
    (.seq (.rgd [⟨⟨(some 3), .faddr false 0 1 (.t 1), none⟩, 0, [0]⟩,
      ⟨⟨(some 4), .load false 1 (.t 3), none⟩, 0, [0]⟩,
      ⟨⟨(some 5), .call 107 [(.t 4), (.c (.p (.int .i64 10)))], none⟩, 0, [0]⟩,
      ⟨⟨(some 6), .bin .add (.t 5) (.c (.p (.string ⟨#[46]⟩))), none⟩, 1, [0]⟩,
      ⟨⟨(some 7), .faddr false 1 1 (.t 1), none⟩, 0, [0]⟩,
      ⟨⟨(some 8), .load false 1 (.t 7), none⟩, 0, [0]⟩,
      ⟨⟨(some 9), .call 107 [(.t 8), (.c (.p (.int .i64 10)))], none⟩, 1, [0]⟩,
      ⟨⟨(some 10), .bin .add (.t 6) (.t 9), none⟩, 2, [0]⟩,
      ⟨⟨(some 11), .bin .add (.t 10) (.c (.p (.string ⟨#[46]⟩))), none⟩, 2, [0]⟩,
      ⟨⟨(some 12), .faddr false 2 1 (.t 1), none⟩, 0, [0]⟩,
      ⟨⟨(some 13), .load false 1 (.t 12), none⟩, 0, [0]⟩,
      ⟨⟨(some 14), .call 107 [(.t 13), (.c (.p (.int .i64 10)))], none⟩, 2, []⟩,
      ⟨⟨(some 15), .bin .add (.t 11) (.t 14), none⟩, 3, []⟩,
      ⟨⟨(some 2), .mov (.t 15), none⟩, 3, []⟩])
    .ret))
def r70 : List DR := [.tmp 2]
theorem c70_ok : Try.f70.body.bind (cCode Try.prog) = some c70 := by kernel_rfl
theorem r70_ok : cRes Try.prog Try.f70.results.toList = some r70 := by kernel_rfl

/-- given.example/pub-assaymark/impl.protoTold -/
def c71 : DC :=
  (.seq (.rg [⟨(some 1), .box (.t 0), none⟩,
      ⟨(some 2), .alloc 3 (.agg [.p (.int .u64 0), .p (.int .u64 0), .p (.int .u64 0)]), none⟩])
    (.seq (.rg [⟨(some 3), .faddr false 0 1 (.t 1), none⟩,
      ⟨(some 4), .load false 1 (.t 3), none⟩,
      ⟨(some 5), .faddr false 1 1 (.t 1), none⟩,
      ⟨(some 6), .load false 1 (.t 5), none⟩,
      ⟨(some 7), .faddr false 2 1 (.t 1), none⟩,
      ⟨(some 8), .load false 1 (.t 7), none⟩,
      ⟨(some 9), .bld [.p (.int .u64 0), .p (.int .u64 0), .p (.int .u64 0)] [(0, 1, (.t 4)), (1, 1, (.t 6)), (2, 1, (.t 8))], none⟩,
      ⟨none, .store 3 (.t 2) (.t 9), none⟩])
    .ret))
def r71 : List DR := [.cell 2 true 3]
theorem c71_ok : Try.f71.body.bind (cCode Try.prog) = some c71 := by kernel_rfl
theorem r71_ok : cRes Try.prog Try.f71.results.toList = some r71 := by kernel_rfl

/-- given.example/pub-assaymark/pub/clickhousego/lib/proto.ParseVersion -/
def c72 : DC :=
  (.seq (.rg [⟨(some 2), .alloc 3 (.agg [.p (.int .u64 0), .p (.int .u64 0), .p (.int .u64 0)]), none⟩])
    (.seq (.rg [⟨(some 3), .mov (.c (.p .nilIface)), none⟩])
    (.seq (.rg [⟨(some 5), .mov (.t 0), none⟩,
      ⟨(some 6), .callr 112 [(.t 5), (.c (.p (.string ⟨#[46]⟩)))], none⟩,
      ⟨(some 4), .mov (.t 6), none⟩])
    (.seq (.seq (.rg [⟨(some 7), .mov (.t 4), none⟩,
      ⟨(some 8), .lenl (.t 7), none⟩,
      ⟨(some 9), .bin .lss (.t 8) (.c (.p (.int .i64 3))), none⟩])
    (.cond (.t 9) (.seq (.rg [⟨(some 10), .load true 3 (.t 2), none⟩,
        ⟨none, .store 3 (.t 2) (.t 10), none⟩])
      .ret)
      .skip))
    (.seq (.seq (.rg [⟨(some 12), .mov (.t 4), none⟩,
      ⟨(some 13), .iaddr 1 (.t 12) (.c (.p (.int .i64 0))), none⟩,
      ⟨(some 14), .load false 1 (.t 13), none⟩,
      ⟨(some 15), .callr 113 [(.t 14), (.c (.p (.int .i64 10))), (.c (.p (.int .i64 8)))], none⟩,
      ⟨(some 11), .mov (.t 15), none⟩,
      ⟨(some 16), .ext (.t 11) 0, none⟩,
      ⟨(some 17), .ext (.t 11) 1, none⟩,
      ⟨(some 18), .faddr false 0 1 (.t 2), none⟩,
      ⟨none, .store 1 (.t 18) (.t 16), none⟩,
      ⟨(some 3), .mov (.t 17), none⟩])
    (.seq (.rg [⟨(some 19), .mov (.t 3), none⟩,
      ⟨(some 20), .eqn true .iface (.t 19), none⟩])
    (.cond (.t 20) (.seq (.rg [⟨(some 21), .load true 3 (.t 2), none⟩,
        ⟨none, .store 3 (.t 2) (.t 21), none⟩])
      .ret)
      .skip)))
    (.seq (.seq (.rg [⟨(some 23), .mov (.t 4), none⟩,
      ⟨(some 24), .iaddr 1 (.t 23) (.c (.p (.int .i64 1))), none⟩,
      ⟨(some 25), .load false 1 (.t 24), none⟩,
      ⟨(some 26), .callr 113 [(.t 25), (.c (.p (.int .i64 10))), (.c (.p (.int .i64 8)))], none⟩,
      ⟨(some 22), .mov (.t 26), none⟩,
      ⟨(some 27), .ext (.t 22) 0, none⟩,
      ⟨(some 28), .ext (.t 22) 1, none⟩,
      ⟨(some 29), .faddr false 1 1 (.t 2), none⟩,
      ⟨none, .store 1 (.t 29) (.t 27), none⟩,
      ⟨(some 3), .mov (.t 28), none⟩])
    (.seq (.rg [⟨(some 30), .mov (.t 3), none⟩,
      ⟨(some 31), .eqn true .iface (.t 30), none⟩])
    (.cond (.t 31) (.seq (.rg [⟨(some 32), .load true 3 (.t 2), none⟩,
        ⟨none, .store 3 (.t 2) (.t 32), none⟩])
      .ret)
      .skip)))
    (.seq (.seq (.rg [⟨(some 34), .mov (.t 4), none⟩,
      ⟨(some 35), .iaddr 1 (.t 34) (.c (.p (.int .i64 2))), none⟩,
      ⟨(some 36), .load false 1 (.t 35), none⟩,
      ⟨(some 37), .callr 113 [(.t 36), (.c (.p (.int .i64 10))), (.c (.p (.int .i64 8)))], none⟩,
      ⟨(some 33), .mov (.t 37), none⟩,
      ⟨(some 38), .ext (.t 33) 0, none⟩,
      ⟨(some 39), .ext (.t 33) 1, none⟩,
      ⟨(some 40), .faddr false 2 1 (.t 2), none⟩,
      ⟨none, .store 1 (.t 40) (.t 38), none⟩,
      ⟨(some 3), .mov (.t 39), none⟩])
    (.seq (.rg [⟨(some 41), .mov (.t 3), none⟩,
      ⟨(some 42), .eqn true .iface (.t 41), none⟩])
    (.cond (.t 42) (.seq (.rg [⟨(some 43), .load true 3 (.t 2), none⟩,
        ⟨none, .store 3 (.t 2) (.t 43), none⟩])
      .ret)
      .skip)))
    (.seq (.rg [⟨(some 44), .load true 3 (.t 2), none⟩,
      ⟨none, .store 3 (.t 2) (.t 44), none⟩])
    .ret))))))))
def r72 : List DR := [.cell 2 true 3]
theorem c72_ok : Try.f72.body.bind (cCode Try.prog) = some c72 := by kernel_rfl
theorem r72_ok : cRes Try.prog Try.f72.results.toList = some r72 := by kernel_rfl

/-- given.example/pub-assaymark/pub/clickhousego/lib/proto.CheckMinVersion -/
def c73 : DC :=
  (.seq (.rg [⟨(some 2), .box (.t 0), none⟩,
      ⟨(some 3), .box (.t 1), none⟩,
      ⟨(some 4), .mov (.c (.p (.bool false))), none⟩])
    (.seq (.seq (.rg [⟨(some 5), .faddr false 0 1 (.t 3), none⟩,
      ⟨(some 6), .load false 1 (.t 5), none⟩,
      ⟨(some 7), .faddr false 0 1 (.t 2), none⟩,
      ⟨(some 8), .load false 1 (.t 7), none⟩,
      ⟨(some 9), .bin .lss (.t 6) (.t 8), none⟩,
      ⟨(some 10), .mov (.t 9), none⟩,
      ⟨(some 11), .faddr false 0 1 (.t 3), (some (10, false))⟩,
      ⟨(some 12), .load false 1 (.t 11), (some (10, false))⟩,
      ⟨(some 13), .faddr false 0 1 (.t 2), (some (10, false))⟩,
      ⟨(some 14), .load false 1 (.t 13), (some (10, false))⟩,
      ⟨(some 15), .bin .eql (.t 12) (.t 14), (some (10, false))⟩,
      ⟨(some 16), .mov (.t 15), (some (10, false))⟩,
      ⟨(some 17), .faddr false 1 1 (.t 3), (some (16, true))⟩,
      ⟨(some 18), .load false 1 (.t 17), (some (16, true))⟩,
      ⟨(some 19), .faddr false 1 1 (.t 2), (some (16, true))⟩,
      ⟨(some 20), .load false 1 (.t 19), (some (16, true))⟩,
      ⟨(some 21), .bin .lss (.t 18) (.t 20), (some (16, true))⟩,
      ⟨(some 22), .pick (.t 16) (.t 21) (.c (.p (.bool false))), (some (10, false))⟩,
      ⟨(some 23), .pick (.t 10) (.c (.p (.bool true))) (.t 22), none⟩,
      ⟨(some 24), .mov (.t 23), none⟩,
      ⟨(some 25), .faddr false 0 1 (.t 3), (some (24, false))⟩,
      ⟨(some 26), .load false 1 (.t 25), (some (24, false))⟩,
      ⟨(some 27), .faddr false 0 1 (.t 2), (some (24, false))⟩,
      ⟨(some 28), .load false 1 (.t 27), (some (24, false))⟩,
      ⟨(some 29), .bin .eql (.t 26) (.t 28), (some (24, false))⟩,
      ⟨(some 30), .mov (.t 29), (some (24, false))⟩,
      ⟨(some 31), .faddr false 1 1 (.t 3), (some (30, true))⟩,
      ⟨(some 32), .load false 1 (.t 31), (some (30, true))⟩,
      ⟨(some 33), .faddr false 1 1 (.t 2), (some (30, true))⟩,
      ⟨(some 34), .load false 1 (.t 33), (some (30, true))⟩,
      ⟨(some 35), .bin .eql (.t 32) (.t 34), (some (30, true))⟩,
      ⟨(some 36), .pick (.t 30) (.t 35) (.c (.p (.bool false))), (some (24, false))⟩,
      ⟨(some 37), .mov (.t 36), (some (24, false))⟩,
      ⟨(some 38), .faddr false 2 1 (.t 3), (some (37, true))⟩,
      ⟨(some 39), .load false 1 (.t 38), (some (37, true))⟩,
      ⟨(some 40), .faddr false 2 1 (.t 2), (some (37, true))⟩,
      ⟨(some 41), .load false 1 (.t 40), (some (37, true))⟩,
      ⟨(some 42), .bin .lss (.t 39) (.t 41), (some (37, true))⟩,
      ⟨(some 43), .pick (.t 37) (.t 42) (.c (.p (.bool false))), (some (24, false))⟩,
      ⟨(some 44), .pick (.t 24) (.c (.p (.bool true))) (.t 43), none⟩])
    (.cond (.t 44) (.seq (.rg [⟨(some 4), .mov (.c (.p (.bool false))), none⟩])
      .ret)
      .skip))
    (.seq (.rg [⟨(some 4), .mov (.c (.p (.bool true))), none⟩])
    .ret)))
def r73 : List DR := [.tmp 4]
theorem c73_ok : Try.f73.body.bind (cCode Try.prog) = some c73 := by kernel_rfl
theorem r73_ok : cRes Try.prog Try.f73.results.toList = some r73 := by kernel_rfl

/-- given.example/pub-assaymark/pub/lightstrconv.FormatUint -/
def c107 : DC :=
  (.seq (.rg [⟨(some 4), .mov (.c (.p (.string ⟨#[]⟩))), none⟩])
    (.seq (.seq (.rg [⟨(some 7), .mov (.t 1), none⟩,
      ⟨(some 8), .bin .lss (.t 7) (.c (.p (.int .i64 2))), none⟩,
      ⟨(some 9), .mov (.t 8), none⟩,
      ⟨(some 10), .mov (.t 1), (some (9, false))⟩,
      ⟨(some 11), .bin .gtr (.t 10) (.c (.p (.int .i64 36))), (some (9, false))⟩,
      ⟨(some 12), .pick (.t 9) (.c (.p (.bool true))) (.t 11), none⟩])
    (.cond (.t 12) (.rg [⟨(some 13), .ifc 9 (.c (.p (.string ⟨#[115, 116, 114, 99, 111, 110, 118, 58, 32, 105, 108, 108, 101, 103, 97, 108, 32, 65, 112, 112, 101, 110, 100, 73, 110, 116, 47, 70, 111, 114, 109, 97, 116, 73, 110, 116, 32, 98, 97, 115, 101]⟩))), none⟩,
        ⟨none, .stop, none⟩])
      .skip))
    (.seq (.rg [⟨(some 5), .alloc 64 (.agg [.p (.int .u8 0), .p (.int .u8 0), .p (.int .u8 0), .p (.int .u8 0), .p (.int .u8 0), .p (.int .u8 0), .p (.int .u8 0), .p (.int .u8 0), .p (.int .u8 0), .p (.int .u8 0), .p (.int .u8 0), .p (.int .u8 0), .p (.int .u8 0), .p (.int .u8 0), .p (.int .u8 0), .p (.int .u8 0), .p (.int .u8 0), .p (.int .u8 0), .p (.int .u8 0), .p (.int .u8 0), .p (.int .u8 0), .p (.int .u8 0), .p (.int .u8 0), .p (.int .u8 0), .p (.int .u8 0), .p (.int .u8 0), .p (.int .u8 0), .p (.int .u8 0), .p (.int .u8 0), .p (.int .u8 0), .p (.int .u8 0), .p (.int .u8 0), .p (.int .u8 0), .p (.int .u8 0), .p (.int .u8 0), .p (.int .u8 0), .p (.int .u8 0), .p (.int .u8 0), .p (.int .u8 0), .p (.int .u8 0), .p (.int .u8 0), .p (.int .u8 0), .p (.int .u8 0), .p (.int .u8 0), .p (.int .u8 0), .p (.int .u8 0), .p (.int .u8 0), .p (.int .u8 0), .p (.int .u8 0), .p (.int .u8 0), .p (.int .u8 0), .p (.int .u8 0), .p (.int .u8 0), .p (.int .u8 0), .p (.int .u8 0), .p (.int .u8 0), .p (.int .u8 0), .p (.int .u8 0), .p (.int .u8 0), .p (.int .u8 0), .p (.int .u8 0), .p (.int .u8 0), .p (.int .u8 0), .p (.int .u8 0)]), none⟩])
    (.seq (.rg [⟨(some 6), .mov (.c (.p (.int .i64 64))), none⟩])
    (.seq (.block 0 (.loop (.seq (.seq (.rg [⟨(some 14), .mov (.t 6), none⟩,
        ⟨(some 15), .bin .eql (.t 14) (.c (.p (.int .i64 64))), none⟩,
        ⟨(some 16), .mov (.t 15), none⟩,
        ⟨(some 17), .mov (.t 0), (some (16, false))⟩,
        ⟨(some 18), .bin .gtr (.t 17) (.c (.p (.int .u64 0))), (some (16, false))⟩,
        ⟨(some 19), .pick (.t 16) (.c (.p (.bool true))) (.t 18), none⟩])
      (.cond (.t 19) .skip
        (.exit 0)))
      (.block 1 (.seq (.rg [⟨(some 20), .mov (.t 6), none⟩,
         ⟨(some 21), .bin .sub (.t 20) (.c (.p (.int .i64 1))), none⟩,
         ⟨(some 6), .mov (.t 21), none⟩])
       (.seq (.rg [⟨(some 22), .mov (.t 6), none⟩,
         ⟨(some 23), .mov (.t 0), none⟩,
         ⟨(some 24), .mov (.t 1), none⟩,
         ⟨(some 25), .cint .u64 (.t 24), none⟩,
         ⟨(some 26), .bin .rem (.t 23) (.t 25), none⟩,
         ⟨(some 27), .idxs (.c (.p (.string ⟨#[48, 49, 50, 51, 52, 53, 54, 55, 56, 57, 97, 98, 99, 100, 101, 102, 103, 104, 105, 106, 107, 108, 109, 110, 111, 112, 113, 114, 115, 116, 117, 118, 119, 120, 121, 122]⟩))) (.t 26), none⟩,
         ⟨(some 28), .iaddra 64 1 false (.t 5) (.t 22), none⟩,
         ⟨none, .store 1 (.t 28) (.t 27), none⟩])
       (.rg [⟨(some 29), .mov (.t 0), none⟩,
         ⟨(some 30), .mov (.t 1), none⟩,
         ⟨(some 31), .cint .u64 (.t 30), none⟩,
         ⟨(some 32), .bin .quo (.t 29) (.t 31), none⟩,
         ⟨(some 0), .mov (.t 32), none⟩])))))))
    (.seq (.rg [⟨(some 33), .mov (.t 6), none⟩,
      ⟨(some 34), .slca 64 1 false (.t 5) (some (.t 33)) none, none⟩,
      ⟨(some 35), .b2s (.t 34), none⟩,
      ⟨(some 4), .mov (.t 35), none⟩])
    .ret))))))
def r107 : List DR := [.tmp 4]
theorem c107_ok : Try.f107.body.bind (cCode Try.prog) = some c107 := by kernel_rfl
theorem r107_ok : cRes Try.prog Try.f107.results.toList = some r107 := by kernel_rfl

/-- given.example/pub-assaymark/pub/clickhousego/lib/proto.zzSplit -/
def c112 : DC :=
  (.seq (.rg [⟨(some 4), .mov (.c (.p (.slice none 0 0))), none⟩])
    (.seq (.rg [⟨(some 5), .mov (.c (.p (.slice none 0 0))), none⟩])
    (.seq (.seq (.rg [⟨(some 9), .mov (.t 1), none⟩,
      ⟨(some 10), .lens (.t 9), none⟩,
      ⟨(some 11), .bin .eql (.t 10) (.c (.p (.int .i64 0))), none⟩])
    (.cond (.t 11) (.seq (.rg [⟨(some 6), .mov (.c (.p (.int .i64 0))), none⟩])
      (.seq (.seq (.rg [⟨(some 12), .mov (.t 0), none⟩,
        ⟨(some 13), .rngs (.t 12), none⟩])
      (.block 0 (.loop (.seq (.rg [⟨(some 14), .nxts (.t 13), none⟩,
          ⟨(some 15), .ext (.t 14) 0, none⟩])
        (.seq (.cond (.t 15) .skip
          (.exit 0))
        (.block 1 (.seq (.rg [⟨(some 16), .ext (.t 14) 1, none⟩,
           ⟨(some 7), .mov (.t 16), none⟩])
         (.seq (.rg [⟨(some 17), .mov (.t 7), none⟩,
           ⟨(some 18), .bin .gtr (.t 17) (.c (.p (.int .i64 0))), none⟩])
         (.cond (.t 18) (.seq (.rg [⟨(some 19), .mov (.t 5), none⟩,
             ⟨(some 20), .mov (.t 0), none⟩,
             ⟨(some 21), .mov (.t 6), none⟩,
             ⟨(some 22), .mov (.t 7), none⟩,
             ⟨(some 23), .slcs (.t 20) (some (.t 21)) (some (.t 22)), none⟩,
             ⟨(some 24), .lit 1 [(.t 23)], none⟩,
             ⟨(some 25), .app 1 16 (.t 19) (.t 24), none⟩,
             ⟨(some 5), .mov (.t 25), none⟩])
           (.rg [⟨(some 26), .mov (.t 7), none⟩,
             ⟨(some 6), .mov (.t 26), none⟩]))
           .skip)))))))))
      (.seq (.seq (.rg [⟨(some 27), .mov (.t 0), none⟩,
        ⟨(some 28), .lens (.t 27), none⟩,
        ⟨(some 29), .bin .gtr (.t 28) (.c (.p (.int .i64 0))), none⟩])
      (.cond (.t 29) (.rg [⟨(some 30), .mov (.t 5), none⟩,
          ⟨(some 31), .mov (.t 0), none⟩,
          ⟨(some 32), .mov (.t 6), none⟩,
          ⟨(some 33), .slcs (.t 31) (some (.t 32)) none, none⟩,
          ⟨(some 34), .lit 1 [(.t 33)], none⟩,
          ⟨(some 35), .app 1 16 (.t 30) (.t 34), none⟩,
          ⟨(some 5), .mov (.t 35), none⟩])
        .skip))
      (.seq (.rg [⟨(some 36), .mov (.t 5), none⟩,
        ⟨(some 4), .mov (.t 36), none⟩])
      .ret))))
      .skip))
    (.block 2 (.loop (.block 3 (.seq (.rg [⟨(some 37), .mov (.t 0), none⟩,
         ⟨(some 38), .mov (.t 1), none⟩,
         ⟨(some 39), .callr 147 [(.t 37), (.t 38)], none⟩,
         ⟨(some 8), .mov (.t 39), none⟩])
       (.seq (.seq (.rg [⟨(some 40), .mov (.t 8), none⟩,
         ⟨(some 41), .bin .lss (.t 40) (.c (.p (.int .i64 0))), none⟩])
       (.cond (.t 41) (.seq (.rg [⟨(some 42), .mov (.t 5), none⟩,
           ⟨(some 43), .mov (.t 0), none⟩,
           ⟨(some 44), .lit 1 [(.t 43)], none⟩,
           ⟨(some 45), .app 1 16 (.t 42) (.t 44), none⟩,
           ⟨(some 4), .mov (.t 45), none⟩])
         .ret)
         .skip))
       (.seq (.rg [⟨(some 46), .mov (.t 5), none⟩,
         ⟨(some 47), .mov (.t 0), none⟩,
         ⟨(some 48), .mov (.t 8), none⟩,
         ⟨(some 49), .slcs (.t 47) none (some (.t 48)), none⟩,
         ⟨(some 50), .lit 1 [(.t 49)], none⟩,
         ⟨(some 51), .app 1 16 (.t 46) (.t 50), none⟩,
         ⟨(some 5), .mov (.t 51), none⟩])
       (.rg [⟨(some 52), .mov (.t 0), none⟩,
         ⟨(some 53), .mov (.t 8), none⟩,
         ⟨(some 54), .mov (.t 1), none⟩,
         ⟨(some 55), .lens (.t 54), none⟩,
         ⟨(some 56), .bin .add (.t 53) (.t 55), none⟩,
         ⟨(some 57), .slcs (.t 52) (some (.t 56)) none, none⟩,
         ⟨(some 0), .mov (.t 57), none⟩]))))))))))
def r112 : List DR := [.tmp 4]
theorem c112_ok : Try.f112.body.bind (cCode Try.prog) = some c112 := by kernel_rfl
theorem r112_ok : cRes Try.prog Try.f112.results.toList = some r112 := by kernel_rfl

/-- given.example/pub-assaymark/pub/lightstrconv.ParseUint -/
def c113 : DC :=
  (.seq (.rg [⟨(some 6), .mov (.c (.p (.int .u64 0))), none⟩,
      ⟨(some 7), .mov (.c (.p .nilIface)), none⟩])
    (.seq (.rg [⟨(some 11), .mov (.t 0), none⟩,
      ⟨(some 12), .mov (.t 1), none⟩,
      ⟨(some 13), .mov (.t 2), none⟩,
      ⟨(some 14), .callr 148 [(.t 11), (.t 12), (.t 13)], none⟩,
      ⟨(some 10), .mov (.t 14), none⟩,
      ⟨(some 15), .ext (.t 10) 0, none⟩,
      ⟨(some 16), .ext (.t 10) 1, none⟩,
      ⟨(some 8), .mov (.t 15), none⟩,
      ⟨(some 9), .mov (.t 16), none⟩])
    (.seq (.seq (.rg [⟨(some 17), .mov (.t 9), none⟩,
      ⟨(some 18), .eqn true .iface (.t 17), none⟩])
    (.cond (.t 18) (.seq (.rg [⟨(some 19), .mov (.t 8), none⟩,
        ⟨(some 20), .mov (.t 0), none⟩,
        ⟨(some 21), .mov (.t 9), none⟩,
        ⟨(some 22), .bld [.p (.string ⟨#[]⟩), .p (.string ⟨#[]⟩), .p .nilIface] [(0, 1, (.c (.p (.string ⟨#[80, 97, 114, 115, 101, 85, 105, 110, 116]⟩)))), (1, 1, (.t 20)), (2, 1, (.t 21))], none⟩,
        ⟨(some 23), .box (.t 22), none⟩,
        ⟨(some 24), .ifc 243 (.t 23), none⟩,
        ⟨(some 6), .mov (.t 19), none⟩,
        ⟨(some 7), .mov (.t 24), none⟩])
      .ret)
      .skip))
    (.seq (.rg [⟨(some 25), .mov (.t 8), none⟩,
      ⟨(some 6), .mov (.t 25), none⟩,
      ⟨(some 7), .mov (.c (.p .nilIface)), none⟩])
    .ret))))
def r113 : List DR := [.tmp 6, .tmp 7]
theorem c113_ok : Try.f113.body.bind (cCode Try.prog) = some c113 := by kernel_rfl
theorem r113_ok : cRes Try.prog Try.f113.results.toList = some r113 := by kernel_rfl

/-- given.example/pub-assaymark/pub/clickhousego/lib/proto.zzIndex -/
def c147 : DC :=
  (.seq (.rg [⟨(some 4), .mov (.c (.p (.int .i64 0))), none⟩])
    (.seq (.seq (.rg [⟨(some 5), .mov (.c (.p (.int .i64 0))), none⟩])
    (.block 0 (.loop (.seq (.seq (.rg [⟨(some 6), .mov (.t 5), none⟩,
        ⟨(some 7), .mov (.t 1), none⟩,
        ⟨(some 8), .lens (.t 7), none⟩,
        ⟨(some 9), .bin .add (.t 6) (.t 8), none⟩,
        ⟨(some 10), .mov (.t 0), none⟩,
        ⟨(some 11), .lens (.t 10), none⟩,
        ⟨(some 12), .bin .leq (.t 9) (.t 11), none⟩])
      (.cond (.t 12) .skip
        (.exit 0)))
      (.seq (.block 1 (.seq (.rg [⟨(some 15), .mov (.t 0), none⟩,
         ⟨(some 16), .mov (.t 5), none⟩,
         ⟨(some 17), .mov (.t 5), none⟩,
         ⟨(some 18), .mov (.t 1), none⟩,
         ⟨(some 19), .lens (.t 18), none⟩,
         ⟨(some 20), .bin .add (.t 17) (.t 19), none⟩,
         ⟨(some 21), .slcs (.t 15) (some (.t 16)) (some (.t 20)), none⟩,
         ⟨(some 22), .mov (.t 1), none⟩,
         ⟨(some 23), .bin .eql (.t 21) (.t 22), none⟩])
       (.cond (.t 23) (.seq (.rg [⟨(some 24), .mov (.t 5), none⟩,
           ⟨(some 4), .mov (.t 24), none⟩])
         .ret)
         .skip)))
      (.rg [⟨(some 13), .mov (.t 5), none⟩,
        ⟨(some 14), .bin .add (.t 13) (.c (.p (.int .i64 1))), none⟩,
        ⟨(some 5), .mov (.t 14), none⟩]))))))
    (.seq (.rg [⟨(some 4), .mov (.c (.p (.int .i64 (-1)))), none⟩])
    .ret)))
def r147 : List DR := [.tmp 4]
theorem c147_ok : Try.f147.body.bind (cCode Try.prog) = some c147 := by kernel_rfl
theorem r147_ok : cRes Try.prog Try.f147.results.toList = some r147 := by kernel_rfl

/-- given.example/pub-assaymark/pub/lightstrconv.parseUint -/
def c148 : DC :=
  (.seq (.rg [⟨(some 6), .mov (.c (.p (.int .u64 0))), none⟩,
      ⟨(some 7), .mov (.c (.p .nilIface)), none⟩])
    (.seq (.seq (.rg [⟨(some 16), .mov (.t 0), none⟩,
      ⟨(some 17), .bin .eql (.t 16) (.c (.p (.string ⟨#[]⟩))), none⟩])
    (.cond (.t 17) (.seq (.rg [⟨(some 18), .ifc 271 (.c (.p (.string ⟨#[105, 110, 118, 97, 108, 105, 100, 32, 115, 121, 110, 116, 97, 120]⟩))), none⟩,
        ⟨(some 6), .mov (.c (.p (.int .u64 0))), none⟩,
        ⟨(some 7), .mov (.t 18), none⟩])
      .ret)
      .skip))
    (.seq (.rg [⟨(some 19), .mov (.t 1), none⟩,
      ⟨(some 20), .bin .eql (.t 19) (.c (.p (.int .i64 0))), none⟩,
      ⟨(some 21), .mov (.t 0), none⟩,
      ⟨(some 8), .mov (.t 20), none⟩,
      ⟨(some 9), .mov (.t 21), none⟩])
    (.seq (.block 0 (.seq (.rg [⟨(some 24), .mov (.t 1), none⟩,
       ⟨(some 25), .bin .leq (.c (.p (.int .i64 2))) (.t 24), none⟩,
       ⟨(some 26), .mov (.t 25), none⟩,
       ⟨(some 27), .mov (.t 1), (some (26, true))⟩,
       ⟨(some 28), .bin .leq (.t 27) (.c (.p (.int .i64 36))), (some (26, true))⟩,
       ⟨(some 29), .pick (.t 26) (.t 28) (.c (.p (.bool false))), none⟩,
       ⟨(some 23), .mov (.t 29), none⟩])
     (.cond (.t 23) .skip
       (.seq (.rg [⟨(some 31), .mov (.t 8), none⟩,
         ⟨(some 30), .mov (.t 31), none⟩])
       (.cond (.t 30) (.seq (.rg [⟨(some 1), .mov (.c (.p (.int .i64 10))), none⟩])
         (.seq (.rg [⟨(some 32), .mov (.t 0), none⟩,
           ⟨(some 33), .idxs (.t 32) (.c (.p (.int .i64 0))), none⟩,
           ⟨(some 34), .bin .eql (.t 33) (.c (.p (.int .u8 48))), none⟩])
         (.cond (.t 34) (.block 1 (.seq (.rg [⟨(some 38), .mov (.t 0), none⟩,
              ⟨(some 39), .lens (.t 38), none⟩,
              ⟨(some 40), .bin .geq (.t 39) (.c (.p (.int .i64 3))), none⟩,
              ⟨(some 41), .mov (.t 40), none⟩,
              ⟨(some 42), .mov (.t 0), (some (41, true))⟩,
              ⟨(some 43), .idxs (.t 42) (.c (.p (.int .i64 1))), (some (41, true))⟩,
              ⟨(some 44), .callr 174 [(.t 43)], (some (41, true))⟩,
              ⟨(some 45), .bin .eql (.t 44) (.c (.p (.int .u8 98))), (some (41, true))⟩,
              ⟨(some 46), .pick (.t 41) (.t 45) (.c (.p (.bool false))), none⟩,
              ⟨(some 37), .mov (.t 46), none⟩])
            (.cond (.t 37) (.rgd [⟨⟨(some 47), .mov (.t 0), none⟩, 0, []⟩,
                ⟨⟨(some 48), .slcs (.t 47) (some (.c (.p (.int .i64 2)))) none, none⟩, 0, []⟩,
                ⟨⟨(some 1), .mov (.c (.p (.int .i64 2))), none⟩, 0, []⟩,
                ⟨⟨(some 0), .mov (.t 48), none⟩, 0, []⟩])
              (.seq (.rg [⟨(some 50), .mov (.t 0), none⟩,
                ⟨(some 51), .lens (.t 50), none⟩,
                ⟨(some 52), .bin .geq (.t 51) (.c (.p (.int .i64 3))), none⟩,
                ⟨(some 53), .mov (.t 52), none⟩,
                ⟨(some 54), .mov (.t 0), (some (53, true))⟩,
                ⟨(some 55), .idxs (.t 54) (.c (.p (.int .i64 1))), (some (53, true))⟩,
                ⟨(some 56), .callr 174 [(.t 55)], (some (53, true))⟩,
                ⟨(some 57), .bin .eql (.t 56) (.c (.p (.int .u8 111))), (some (53, true))⟩,
                ⟨(some 58), .pick (.t 53) (.t 57) (.c (.p (.bool false))), none⟩,
                ⟨(some 49), .mov (.t 58), none⟩])
              (.cond (.t 49) (.rgd [⟨⟨(some 59), .mov (.t 0), none⟩, 0, []⟩,
                  ⟨⟨(some 60), .slcs (.t 59) (some (.c (.p (.int .i64 2)))) none, none⟩, 0, []⟩,
                  ⟨⟨(some 1), .mov (.c (.p (.int .i64 8))), none⟩, 0, []⟩,
                  ⟨⟨(some 0), .mov (.t 60), none⟩, 0, []⟩])
                (.seq (.rg [⟨(some 62), .mov (.t 0), none⟩,
                  ⟨(some 63), .lens (.t 62), none⟩,
                  ⟨(some 64), .bin .geq (.t 63) (.c (.p (.int .i64 3))), none⟩,
                  ⟨(some 65), .mov (.t 64), none⟩,
                  ⟨(some 66), .mov (.t 0), (some (65, true))⟩,
                  ⟨(some 67), .idxs (.t 66) (.c (.p (.int .i64 1))), (some (65, true))⟩,
                  ⟨(some 68), .callr 174 [(.t 67)], (some (65, true))⟩,
                  ⟨(some 69), .bin .eql (.t 68) (.c (.p (.int .u8 120))), (some (65, true))⟩,
                  ⟨(some 70), .pick (.t 65) (.t 69) (.c (.p (.bool false))), none⟩,
                  ⟨(some 61), .mov (.t 70), none⟩])
                (.cond (.t 61) (.rgd [⟨⟨(some 71), .mov (.t 0), none⟩, 0, []⟩,
                    ⟨⟨(some 72), .slcs (.t 71) (some (.c (.p (.int .i64 2)))) none, none⟩, 0, []⟩,
                    ⟨⟨(some 1), .mov (.c (.p (.int .i64 16))), none⟩, 0, []⟩,
                    ⟨⟨(some 0), .mov (.t 72), none⟩, 0, []⟩])
                  (.rgd [⟨⟨(some 35), .mov (.t 0), none⟩, 0, []⟩,
                    ⟨⟨(some 36), .slcs (.t 35) (some (.c (.p (.int .i64 1)))) none, none⟩, 0, []⟩,
                    ⟨⟨(some 1), .mov (.c (.p (.int .i64 8))), none⟩, 0, []⟩,
                    ⟨⟨(some 0), .mov (.t 36), none⟩, 0, []⟩]))))))))
           .skip)))
         (.seq (.rg [⟨(some 22), .ifc 271 (.c (.p (.string ⟨#[105, 110, 118, 97, 108, 105, 100, 32, 98, 97, 115, 101]⟩))), none⟩,
           ⟨(some 6), .mov (.c (.p (.int .u64 0))), none⟩,
           ⟨(some 7), .mov (.t 22), none⟩])
         .ret))))))
    (.seq (.seq (.rg [⟨(some 73), .mov (.t 2), none⟩,
      ⟨(some 74), .bin .eql (.t 73) (.c (.p (.int .i64 0))), none⟩])
    (.cond (.t 74) (.rg [⟨(some 2), .mov (.c (.p (.int .i64 64))), none⟩])
      (.seq (.rg [⟨(some 75), .mov (.t 2), none⟩,
        ⟨(some 76), .bin .lss (.t 75) (.c (.p (.int .i64 0))), none⟩,
        ⟨(some 77), .mov (.t 76), none⟩,
        ⟨(some 78), .mov (.t 2), (some (77, false))⟩,
        ⟨(some 79), .bin .gtr (.t 78) (.c (.p (.int .i64 64))), (some (77, false))⟩,
        ⟨(some 80), .pick (.t 77) (.c (.p (.bool true))) (.t 79), none⟩])
      (.cond (.t 80) (.seq (.rg [⟨(some 81), .ifc 271 (.c (.p (.string ⟨#[105, 110, 118, 97, 108, 105, 100, 32, 98, 105, 116, 32, 115, 105, 122, 101]⟩))), none⟩,
          ⟨(some 6), .mov (.c (.p (.int .u64 0))), none⟩,
          ⟨(some 7), .mov (.t 81), none⟩])
        .ret)
        .skip))))
    (.seq (.rg [⟨(some 82), .mov (.t 2), none⟩,
      ⟨(some 83), .bin .shl (.c (.p (.int .u64 1))) (.t 82), none⟩,
      ⟨(some 84), .bin .sub (.t 83) (.c (.p (.int .u64 1))), none⟩,
      ⟨(some 10), .mov (.t 84), none⟩])
    (.seq (.rg [⟨(some 11), .mov (.c (.p (.int .u64 0))), none⟩])
    (.seq (.rg [⟨(some 12), .mov (.c (.p (.bool false))), none⟩])
    (.seq (.seq (.rg [⟨(some 85), .mov (.t 0), none⟩,
      ⟨(some 86), .s2b (.t 85), none⟩,
      ⟨(some 87), .lenl (.t 86), none⟩,
      ⟨(some 88), .mov (.c (.p (.int .i64 0))), none⟩])
    (.block 2 (.loop (.seq (.rg [⟨(some 89), .bin .lss (.t 88) (.t 87), none⟩])
      (.seq (.cond (.t 89) .skip
        (.exit 2))
      (.seq (.block 3 (.seq (.rg [⟨(some 90), .iaddr 1 (.t 86) (.t 88), none⟩,
         ⟨(some 91), .load false 1 (.t 90), none⟩,
         ⟨(some 14), .mov (.t 91), none⟩])
       (.seq (.rg [⟨(some 15), .mov (.c (.p (.int .u64 0))), none⟩])
       (.seq (.block 4 (.seq (.rg [⟨(some 94), .mov (.t 14), none⟩,
          ⟨(some 95), .bin .eql (.t 94) (.c (.p (.int .u8 95))), none⟩,
          ⟨(some 96), .mov (.t 95), none⟩,
          ⟨(some 97), .mov (.t 8), (some (96, true))⟩,
          ⟨(some 98), .pick (.t 96) (.t 97) (.c (.p (.bool false))), none⟩,
          ⟨(some 93), .mov (.t 98), none⟩])
        (.cond (.t 93) (.seq (.rg [⟨(some 12), .mov (.c (.p (.bool true))), none⟩])
          (.exit 3))
          (.seq (.rg [⟨(some 100), .mov (.t 14), none⟩,
            ⟨(some 101), .bin .leq (.c (.p (.int .u8 48))) (.t 100), none⟩,
            ⟨(some 102), .mov (.t 101), none⟩,
            ⟨(some 103), .mov (.t 14), (some (102, true))⟩,
            ⟨(some 104), .bin .leq (.t 103) (.c (.p (.int .u8 57))), (some (102, true))⟩,
            ⟨(some 105), .pick (.t 102) (.t 104) (.c (.p (.bool false))), none⟩,
            ⟨(some 99), .mov (.t 105), none⟩])
          (.cond (.t 99) (.rg [⟨(some 106), .mov (.t 14), none⟩,
              ⟨(some 107), .bin .sub (.t 106) (.c (.p (.int .u8 48))), none⟩,
              ⟨(some 108), .cint .u64 (.t 107), none⟩,
              ⟨(some 15), .mov (.t 108), none⟩])
            (.seq (.rg [⟨(some 110), .mov (.t 14), none⟩,
              ⟨(some 111), .callr 174 [(.t 110)], none⟩,
              ⟨(some 112), .bin .leq (.c (.p (.int .u8 97))) (.t 111), none⟩,
              ⟨(some 113), .mov (.t 112), none⟩,
              ⟨(some 114), .mov (.t 14), (some (113, true))⟩,
              ⟨(some 115), .callr 174 [(.t 114)], (some (113, true))⟩,
              ⟨(some 116), .bin .leq (.t 115) (.c (.p (.int .u8 122))), (some (113, true))⟩,
              ⟨(some 117), .pick (.t 113) (.t 116) (.c (.p (.bool false))), none⟩,
              ⟨(some 109), .mov (.t 117), none⟩])
            (.cond (.t 109) (.rg [⟨(some 118), .mov (.t 14), none⟩,
                ⟨(some 119), .callr 174 [(.t 118)], none⟩,
                ⟨(some 120), .bin .sub (.t 119) (.c (.p (.int .u8 97))), none⟩,
                ⟨(some 121), .cint .u64 (.t 120), none⟩,
                ⟨(some 122), .bin .add (.t 121) (.c (.p (.int .u64 10))), none⟩,
                ⟨(some 15), .mov (.t 122), none⟩])
              (.seq (.rg [⟨(some 92), .ifc 271 (.c (.p (.string ⟨#[105, 110, 118, 97, 108, 105, 100, 32, 115, 121, 110, 116, 97, 120]⟩))), none⟩,
                ⟨(some 6), .mov (.c (.p (.int .u64 0))), none⟩,
                ⟨(some 7), .mov (.t 92), none⟩])
              .ret))))))))
       (.seq (.seq (.rg [⟨(some 123), .mov (.t 15), none⟩,
         ⟨(some 124), .mov (.t 1), none⟩,
         ⟨(some 125), .cint .u64 (.t 124), none⟩,
         ⟨(some 126), .bin .geq (.t 123) (.t 125), none⟩])
       (.cond (.t 126) (.seq (.rg [⟨(some 127), .ifc 271 (.c (.p (.string ⟨#[105, 110, 118, 97, 108, 105, 100, 32, 115, 121, 110, 116, 97, 120]⟩))), none⟩,
           ⟨(some 6), .mov (.c (.p (.int .u64 0))), none⟩,
           ⟨(some 7), .mov (.t 127), none⟩])
         .ret)
         .skip))
       (.seq (.seq (.rg [⟨(some 128), .mov (.t 15), none⟩,
         ⟨(some 129), .mov (.t 10), none⟩,
         ⟨(some 130), .bin .gtr (.t 128) (.t 129), none⟩,
         ⟨(some 131), .mov (.t 130), none⟩,
         ⟨(some 132), .mov (.t 11), (some (131, false))⟩,
         ⟨(some 133), .mov (.t 10), (some (131, false))⟩,
         ⟨(some 134), .mov (.t 15), (some (131, false))⟩,
         ⟨(some 135), .bin .sub (.t 133) (.t 134), (some (131, false))⟩,
         ⟨(some 136), .mov (.t 1), (some (131, false))⟩,
         ⟨(some 137), .cint .u64 (.t 136), (some (131, false))⟩,
         ⟨(some 138), .bin .quo (.t 135) (.t 137), (some (131, false))⟩,
         ⟨(some 139), .bin .gtr (.t 132) (.t 138), (some (131, false))⟩,
         ⟨(some 140), .pick (.t 131) (.c (.p (.bool true))) (.t 139), none⟩])
       (.cond (.t 140) (.seq (.rg [⟨(some 141), .mov (.t 10), none⟩,
           ⟨(some 142), .ifc 271 (.c (.p (.string ⟨#[118, 97, 108, 117, 101, 32, 111, 117, 116, 32, 111, 102, 32, 114, 97, 110, 103, 101]⟩))), none⟩,
           ⟨(some 6), .mov (.t 141), none⟩,
           ⟨(some 7), .mov (.t 142), none⟩])
         .ret)
         .skip))
       (.rg [⟨(some 143), .mov (.t 11), none⟩,
         ⟨(some 144), .mov (.t 1), none⟩,
         ⟨(some 145), .cint .u64 (.t 144), none⟩,
         ⟨(some 146), .bin .mul (.t 143) (.t 145), none⟩,
         ⟨(some 147), .mov (.t 15), none⟩,
         ⟨(some 148), .bin .add (.t 146) (.t 147), none⟩,
         ⟨(some 11), .mov (.t 148), none⟩])))))))
      (.rg [⟨(some 149), .bin .add (.t 88) (.c (.p (.int .i64 1))), none⟩,
        ⟨(some 88), .mov (.t 149), none⟩])))))))
    (.seq (.seq (.rg [⟨(some 150), .mov (.t 12), none⟩,
      ⟨(some 151), .mov (.t 150), none⟩,
      ⟨(some 152), .mov (.t 9), (some (151, true))⟩,
      ⟨(some 153), .callr 175 [(.t 152)], (some (151, true))⟩,
      ⟨(some 154), .un .not (.t 153), (some (151, true))⟩,
      ⟨(some 155), .pick (.t 151) (.t 154) (.c (.p (.bool false))), none⟩])
    (.cond (.t 155) (.seq (.rg [⟨(some 156), .ifc 271 (.c (.p (.string ⟨#[105, 110, 118, 97, 108, 105, 100, 32, 115, 121, 110, 116, 97, 120]⟩))), none⟩,
        ⟨(some 6), .mov (.c (.p (.int .u64 0))), none⟩,
        ⟨(some 7), .mov (.t 156), none⟩])
      .ret)
      .skip))
    (.seq (.rg [⟨(some 157), .mov (.t 11), none⟩,
      ⟨(some 6), .mov (.t 157), none⟩,
      ⟨(some 7), .mov (.c (.p .nilIface)), none⟩])
    .ret)))))))))))
def r148 : List DR := [.tmp 6, .tmp 7]
theorem c148_ok : Try.f148.body.bind (cCode Try.prog) = some c148 := by kernel_rfl
theorem r148_ok : cRes Try.prog Try.f148.results.toList = some r148 := by kernel_rfl

/-- given.example/pub-assaymark/pub/lightstrconv.lower -/
def c174 : DC :=
  (.seq (.rg [⟨(some 2), .mov (.c (.p (.int .u8 0))), none⟩])
    (.seq (.rg [⟨(some 3), .mov (.t 0), none⟩,
      ⟨(some 4), .bin .or (.t 3) (.c (.p (.int .u8 32))), none⟩,
      ⟨(some 2), .mov (.t 4), none⟩])
    .ret))
def r174 : List DR := [.tmp 2]
theorem c174_ok : Try.f174.body.bind (cCode Try.prog) = some c174 := by kernel_rfl
theorem r174_ok : cRes Try.prog Try.f174.results.toList = some r174 := by kernel_rfl

/-- given.example/pub-assaymark/pub/lightstrconv.underscoreOK -/
def c175 : DC :=
  (.seq (.rg [⟨(some 2), .mov (.c (.p (.bool false))), none⟩])
    (.seq (.seq (.rg [⟨(some 7), .mov (.t 0), none⟩,
      ⟨(some 8), .bin .neq (.t 7) (.c (.p (.string ⟨#[]⟩))), none⟩,
      ⟨(some 9), .mov (.t 8), none⟩,
      ⟨(some 10), .mov (.t 0), (some (9, true))⟩,
      ⟨(some 11), .idxs (.t 10) (.c (.p (.int .i64 0))), (some (9, true))⟩,
      ⟨(some 12), .bin .eql (.t 11) (.c (.p (.int .u8 45))), (some (9, true))⟩,
      ⟨(some 13), .mov (.t 12), (some (9, true))⟩,
      ⟨(some 14), .mov (.t 0), (some (13, false))⟩,
      ⟨(some 15), .idxs (.t 14) (.c (.p (.int .i64 0))), (some (13, false))⟩,
      ⟨(some 16), .bin .eql (.t 15) (.c (.p (.int .u8 43))), (some (13, false))⟩,
      ⟨(some 17), .pick (.t 13) (.c (.p (.bool true))) (.t 16), (some (9, true))⟩,
      ⟨(some 18), .pick (.t 9) (.t 17) (.c (.p (.bool false))), none⟩])
    (.cond (.t 18) (.rg [⟨(some 19), .mov (.t 0), none⟩,
        ⟨(some 20), .slcs (.t 19) (some (.c (.p (.int .i64 1)))) none, none⟩,
        ⟨(some 0), .mov (.t 20), none⟩])
      .skip))
    (.seq (.rg [⟨(some 3), .mov (.c (.p (.int .u8 94))), none⟩,
      ⟨(some 4), .mov (.c (.p (.bool false))), none⟩])
    (.seq (.seq (.rg [⟨(some 21), .mov (.t 0), none⟩,
      ⟨(some 22), .lens (.t 21), none⟩,
      ⟨(some 23), .bin .geq (.t 22) (.c (.p (.int .i64 2))), none⟩,
      ⟨(some 24), .mov (.t 23), none⟩,
      ⟨(some 25), .mov (.t 0), (some (24, true))⟩,
      ⟨(some 26), .idxs (.t 25) (.c (.p (.int .i64 0))), (some (24, true))⟩,
      ⟨(some 27), .bin .eql (.t 26) (.c (.p (.int .u8 48))), (some (24, true))⟩,
      ⟨(some 28), .pick (.t 24) (.t 27) (.c (.p (.bool false))), none⟩,
      ⟨(some 29), .mov (.t 28), none⟩,
      ⟨(some 30), .mov (.t 0), (some (29, true))⟩,
      ⟨(some 31), .idxs (.t 30) (.c (.p (.int .i64 1))), (some (29, true))⟩,
      ⟨(some 32), .callr 174 [(.t 31)], (some (29, true))⟩,
      ⟨(some 33), .bin .eql (.t 32) (.c (.p (.int .u8 98))), (some (29, true))⟩,
      ⟨(some 34), .mov (.t 33), (some (29, true))⟩,
      ⟨(some 35), .mov (.t 0), (some (34, false))⟩,
      ⟨(some 36), .idxs (.t 35) (.c (.p (.int .i64 1))), (some (34, false))⟩,
      ⟨(some 37), .callr 174 [(.t 36)], (some (34, false))⟩,
      ⟨(some 38), .bin .eql (.t 37) (.c (.p (.int .u8 111))), (some (34, false))⟩,
      ⟨(some 39), .pick (.t 34) (.c (.p (.bool true))) (.t 38), (some (29, true))⟩,
      ⟨(some 40), .mov (.t 39), (some (29, true))⟩,
      ⟨(some 41), .mov (.t 0), (some (40, false))⟩,
      ⟨(some 42), .idxs (.t 41) (.c (.p (.int .i64 1))), (some (40, false))⟩,
      ⟨(some 43), .callr 174 [(.t 42)], (some (40, false))⟩,
      ⟨(some 44), .bin .eql (.t 43) (.c (.p (.int .u8 120))), (some (40, false))⟩,
      ⟨(some 45), .pick (.t 40) (.c (.p (.bool true))) (.t 44), (some (29, true))⟩,
      ⟨(some 46), .pick (.t 29) (.t 45) (.c (.p (.bool false))), none⟩])
    (.cond (.t 46) (.seq (.rg [⟨(some 47), .mov (.t 0), none⟩,
        ⟨(some 48), .idxs (.t 47) (.c (.p (.int .i64 1))), none⟩,
        ⟨(some 49), .callr 174 [(.t 48)], none⟩,
        ⟨(some 50), .bin .eql (.t 49) (.c (.p (.int .u8 120))), none⟩,
        ⟨(some 3), .mov (.c (.p (.int .u8 48))), none⟩,
        ⟨(some 4), .mov (.t 50), none⟩])
      (.rg [⟨(some 51), .mov (.t 0), none⟩,
        ⟨(some 52), .slcs (.t 51) (some (.c (.p (.int .i64 2)))) none, none⟩,
        ⟨(some 0), .mov (.t 52), none⟩]))
      .skip))
    (.seq (.seq (.rg [⟨(some 5), .mov (.c (.p (.int .i64 0))), none⟩])
    (.block 0 (.loop (.seq (.seq (.rg [⟨(some 53), .mov (.t 5), none⟩,
        ⟨(some 54), .mov (.t 0), none⟩,
        ⟨(some 55), .lens (.t 54), none⟩,
        ⟨(some 56), .bin .lss (.t 53) (.t 55), none⟩])
      (.cond (.t 56) .skip
        (.exit 0)))
      (.seq (.block 1 (.seq (.rg [⟨(some 59), .mov (.t 0), none⟩,
         ⟨(some 60), .mov (.t 5), none⟩,
         ⟨(some 61), .idxs (.t 59) (.t 60), none⟩,
         ⟨(some 6), .mov (.t 61), none⟩])
       (.block 2 (.seq (.rg [⟨(some 63), .mov (.t 6), none⟩,
          ⟨(some 64), .bin .leq (.c (.p (.int .u8 48))) (.t 63), none⟩,
          ⟨(some 65), .mov (.t 64), none⟩,
          ⟨(some 66), .mov (.t 6), (some (65, true))⟩,
          ⟨(some 67), .bin .leq (.t 66) (.c (.p (.int .u8 57))), (some (65, true))⟩,
          ⟨(some 68), .pick (.t 65) (.t 67) (.c (.p (.bool false))), none⟩,
          ⟨(some 69), .mov (.t 68), none⟩,
          ⟨(some 70), .mov (.t 4), (some (69, false))⟩,
          ⟨(some 71), .mov (.t 70), (some (69, false))⟩,
          ⟨(some 72), .mov (.t 6), (some (71, true))⟩,
          ⟨(some 73), .callr 174 [(.t 72)], (some (71, true))⟩,
          ⟨(some 74), .bin .leq (.c (.p (.int .u8 97))) (.t 73), (some (71, true))⟩,
          ⟨(some 75), .pick (.t 71) (.t 74) (.c (.p (.bool false))), (some (69, false))⟩,
          ⟨(some 76), .mov (.t 75), (some (69, false))⟩,
          ⟨(some 77), .mov (.t 6), (some (76, true))⟩,
          ⟨(some 78), .callr 174 [(.t 77)], (some (76, true))⟩,
          ⟨(some 79), .bin .leq (.t 78) (.c (.p (.int .u8 102))), (some (76, true))⟩,
          ⟨(some 80), .pick (.t 76) (.t 79) (.c (.p (.bool false))), (some (69, false))⟩,
          ⟨(some 81), .pick (.t 69) (.c (.p (.bool true))) (.t 80), none⟩,
          ⟨(some 62), .mov (.t 81), none⟩])
        (.cond (.t 62) (.rg [⟨(some 3), .mov (.c (.p (.int .u8 48))), none⟩])
          (.seq (.seq (.rg [⟨(some 83), .mov (.t 6), none⟩,
            ⟨(some 84), .bin .eql (.t 83) (.c (.p (.int .u8 95))), none⟩,
            ⟨(some 85), .mov (.t 84), none⟩,
            ⟨(some 86), .mov (.t 3), (some (85, true))⟩,
            ⟨(some 87), .bin .neq (.t 86) (.c (.p (.int .u8 48))), (some (85, true))⟩,
            ⟨(some 88), .pick (.t 85) (.t 87) (.c (.p (.bool false))), none⟩,
            ⟨(some 82), .mov (.t 88), none⟩])
          (.cond (.t 82) .skip
            (.rg [⟨(some 89), .mov (.t 6), none⟩,
              ⟨(some 90), .bin .neq (.t 89) (.c (.p (.int .u8 95))), none⟩,
              ⟨(some 91), .mov (.t 90), none⟩,
              ⟨(some 92), .mov (.t 3), (some (91, true))⟩,
              ⟨(some 93), .bin .eql (.t 92) (.c (.p (.int .u8 95))), (some (91, true))⟩,
              ⟨(some 94), .pick (.t 91) (.t 93) (.c (.p (.bool false))), none⟩,
              ⟨(some 82), .mov (.t 94), none⟩])))
          (.cond (.t 82) (.seq (.rg [⟨(some 2), .mov (.c (.p (.bool false))), none⟩])
            .ret)
            (.seq (.rg [⟨(some 96), .mov (.t 6), none⟩,
              ⟨(some 97), .bin .eql (.t 96) (.c (.p (.int .u8 95))), none⟩,
              ⟨(some 95), .mov (.t 97), none⟩])
            (.cond (.t 95) (.rg [⟨(some 3), .mov (.c (.p (.int .u8 95))), none⟩])
              (.rg [⟨(some 3), .mov (.c (.p (.int .u8 33))), none⟩]))))))))))
      (.rg [⟨(some 57), .mov (.t 5), none⟩,
        ⟨(some 58), .bin .add (.t 57) (.c (.p (.int .i64 1))), none⟩,
        ⟨(some 5), .mov (.t 58), none⟩]))))))
    (.seq (.rg [⟨(some 98), .mov (.t 3), none⟩,
      ⟨(some 99), .bin .neq (.t 98) (.c (.p (.int .u8 95))), none⟩,
      ⟨(some 2), .mov (.t 99), none⟩])
    .ret))))))
def r175 : List DR := [.tmp 2]
theorem c175_ok : Try.f175.body.bind (cCode Try.prog) = some c175 := by kernel_rfl
theorem r175_ok : cRes Try.prog Try.f175.results.toList = some r175 := by kernel_rfl

def tab : Tab := fun f => match f with
  | 8 => some (c8, r8, 86)
  | 14 => some (c14, r14, 4)
  | 31 => some (c31, r31, 6)
  | 32 => some (c32, r32, 6)
  | 33 => some (c33, r33, 23)
  | 34 => some (c34, r34, 10)
  | 52 => some (c52, r52, 10)
  | 70 => some (c70, r70, 16)
  | 71 => some (c71, r71, 10)
  | 72 => some (c72, r72, 45)
  | 73 => some (c73, r73, 45)
  | 107 => some (c107, r107, 36)
  | 112 => some (c112, r112, 58)
  | 113 => some (c113, r113, 26)
  | 147 => some (c147, r147, 25)
  | 148 => some (c148, r148, 158)
  | 174 => some (c174, r174, 5)
  | 175 => some (c175, r175, 100)
  | _ => none
theorem tab_ok : TabOk Try.prog tab := by
  intro f d rs n h
  unfold tab at h
  split at h
  · cases h; exact ⟨_, Try.func8, c8_ok, r8_ok, rfl⟩
  · cases h; exact ⟨_, Try.func14, c14_ok, r14_ok, rfl⟩
  · cases h; exact ⟨_, Try.func31, c31_ok, r31_ok, rfl⟩
  · cases h; exact ⟨_, Try.func32, c32_ok, r32_ok, rfl⟩
  · cases h; exact ⟨_, Try.func33, c33_ok, r33_ok, rfl⟩
  · cases h; exact ⟨_, Try.func34, c34_ok, r34_ok, rfl⟩
  · cases h; exact ⟨_, Try.func52, c52_ok, r52_ok, rfl⟩
  · cases h; exact ⟨_, Try.func70, c70_ok, r70_ok, rfl⟩
  · cases h; exact ⟨_, Try.func71, c71_ok, r71_ok, rfl⟩
  · cases h; exact ⟨_, Try.func72, c72_ok, r72_ok, rfl⟩
  · cases h; exact ⟨_, Try.func73, c73_ok, r73_ok, rfl⟩
  · cases h; exact ⟨_, Try.func107, c107_ok, r107_ok, rfl⟩
  · cases h; exact ⟨_, Try.func112, c112_ok, r112_ok, rfl⟩
  · cases h; exact ⟨_, Try.func113, c113_ok, r113_ok, rfl⟩
  · cases h; exact ⟨_, Try.func147, c147_ok, r147_ok, rfl⟩
  · cases h; exact ⟨_, Try.func148, c148_ok, r148_ok, rfl⟩
  · cases h; exact ⟨_, Try.func174, c174_ok, r174_ok, rfl⟩
  · cases h; exact ⟨_, Try.func175, c175_ok, r175_ok, rfl⟩
  · cases h
end Go.Proofs.Ytbbafeocmchlnaa
