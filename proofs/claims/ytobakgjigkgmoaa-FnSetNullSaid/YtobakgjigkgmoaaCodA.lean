/- The codes of the functions, in the small language of Den. -/
import Derived.Test.YtobakgjigkgmoaaLibE
import Derived.Test.YtobakgjigkgmoaaProg
set_option linter.unusedVariables false
set_option linter.unusedSimpArgs false
set_option maxRecDepth 100000
namespace Go.Proofs.Ytobakgjigkgmoaa
open Go Go.Den Go.Proofs

/-- given.example/pub-assaymark/laws.FnSetNull -/
def c3 : DC :=
  (.seq (.rg [⟨(some 2), .mov (.c (.p (.bool false))), none⟩])
    (.seq (.seq (.rg [⟨(some 12), .mov (.t 0), none⟩])
    (.cond (.t 12) (.seq (.rg [⟨(some 14), .callr 4 [(.c (.p (.slice none 0 0))), (.c (.p (.bool true))), (.c (.p (.string ⟨#[]⟩)))], none⟩,
        ⟨(some 13), .mov (.t 14), none⟩,
        ⟨(some 15), .ext (.t 13) 0, none⟩,
        ⟨(some 16), .ext (.t 13) 1, none⟩,
        ⟨(some 17), .ext (.t 13) 2, none⟩,
        ⟨(some 18), .ext (.t 13) 3, none⟩,
        ⟨(some 3), .mov (.t 15), none⟩,
        ⟨(some 4), .mov (.t 16), none⟩,
        ⟨(some 5), .mov (.t 17), none⟩,
        ⟨(some 6), .mov (.t 18), none⟩])
      (.seq (.rg [⟨(some 19), .mov (.t 6), none⟩,
        ⟨(some 20), .mov (.t 19), none⟩,
        ⟨(some 21), .mov (.t 4), (some (20, true))⟩,
        ⟨(some 22), .bin .eql (.t 21) (.c (.p (.string ⟨#[192]⟩))), (some (20, true))⟩,
        ⟨(some 23), .pick (.t 20) (.t 22) (.c (.p (.bool false))), none⟩,
        ⟨(some 2), .mov (.t 23), none⟩])
      .ret))
      .skip))
    (.seq (.rg [⟨(some 25), .callr 5 [(.c (.p (.slice none 0 0))), (.c (.p (.bool true))), (.c (.p (.string ⟨#[]⟩)))], none⟩,
      ⟨(some 24), .mov (.t 25), none⟩,
      ⟨(some 26), .ext (.t 24) 0, none⟩,
      ⟨(some 27), .ext (.t 24) 1, none⟩,
      ⟨(some 28), .ext (.t 24) 2, none⟩,
      ⟨(some 29), .ext (.t 24) 3, none⟩,
      ⟨(some 30), .ext (.t 24) 4, none⟩,
      ⟨(some 7), .mov (.t 26), none⟩,
      ⟨(some 8), .mov (.t 27), none⟩,
      ⟨(some 9), .mov (.t 28), none⟩,
      ⟨(some 10), .mov (.t 29), none⟩,
      ⟨(some 11), .mov (.t 30), none⟩])
    (.seq (.rg [⟨(some 31), .mov (.t 11), none⟩,
      ⟨(some 32), .mov (.t 31), none⟩,
      ⟨(some 33), .mov (.t 8), (some (32, true))⟩,
      ⟨(some 34), .bin .eql (.t 33) (.c (.p (.string ⟨#[192]⟩))), (some (32, true))⟩,
      ⟨(some 35), .pick (.t 32) (.t 34) (.c (.p (.bool false))), none⟩,
      ⟨(some 2), .mov (.t 35), none⟩])
    .ret))))
def r3 : List DR := [.tmp 2]
theorem c3_ok : Try.f3.body.bind (cCode Try.prog) = some c3 := by kernel_rfl
theorem r3_ok : cRes Try.prog Try.f3.results.toList = some r3 := by kernel_rfl

/-- given.example/pub-assaymark/impl.IntSetCode -/
def c4 : DC :=
  (.seq (.rg [⟨(some 6), .mov (.c (.p (.string ⟨#[]⟩))), none⟩,
      ⟨(some 7), .mov (.c (.p (.string ⟨#[]⟩))), none⟩,
      ⟨(some 8), .mov (.c (.p (.string ⟨#[]⟩))), none⟩,
      ⟨(some 9), .mov (.c (.p (.bool false))), none⟩])
    (.seq (.rg [⟨(some 17), .mov (.t 0), none⟩,
      ⟨(some 18), .callr 6 [(.t 17)], none⟩,
      ⟨(some 10), .mov (.t 18), none⟩])
    (.seq (.seq (.rg [⟨(some 19), .mov (.t 1), none⟩])
    (.cond (.t 19) (.rg [⟨(some 10), .mov (.c (.p (.map none))), none⟩])
      .skip))
    (.seq (.rg [⟨(some 21), .mov (.t 10), none⟩,
      ⟨(some 22), .callr 7 [(.t 21)], none⟩,
      ⟨(some 20), .mov (.t 22), none⟩,
      ⟨(some 23), .ext (.t 20) 0, none⟩,
      ⟨(some 24), .ext (.t 20) 1, none⟩,
      ⟨(some 11), .mov (.t 23), none⟩,
      ⟨(some 12), .mov (.t 24), none⟩])
    (.seq (.rg [⟨(some 26), .mov (.t 10), none⟩,
      ⟨(some 27), .callr 8 [(.t 26), (.c (.p (.slice none 0 0)))], none⟩,
      ⟨(some 25), .mov (.t 27), none⟩,
      ⟨(some 28), .ext (.t 25) 0, none⟩,
      ⟨(some 29), .ext (.t 25) 1, none⟩,
      ⟨(some 13), .mov (.t 28), none⟩,
      ⟨(some 14), .mov (.t 29), none⟩])
    (.seq (.rg [⟨(some 31), .mov (.t 10), none⟩,
      ⟨(some 32), .mov (.t 2), none⟩,
      ⟨(some 33), .s2b (.t 32), none⟩,
      ⟨(some 34), .callr 9 [(.t 31), (.t 33)], none⟩,
      ⟨(some 30), .mov (.t 34), none⟩,
      ⟨(some 35), .ext (.t 30) 0, none⟩,
      ⟨(some 36), .ext (.t 30) 1, none⟩,
      ⟨(some 15), .mov (.t 35), none⟩,
      ⟨(some 16), .mov (.t 36), none⟩])
    (.seq (.rgd [⟨⟨(some 37), .mov (.t 11), none⟩, 0, [0]⟩,
      ⟨⟨(some 38), .b2s (.t 37), none⟩, 0, [0]⟩,
      ⟨⟨(some 39), .mov (.t 13), none⟩, 0, [0]⟩,
      ⟨⟨(some 40), .b2s (.t 39), none⟩, 0, [0]⟩,
      ⟨⟨(some 41), .mov (.t 15), none⟩, 0, [0]⟩,
      ⟨⟨(some 42), .b2s (.t 41), none⟩, 0, [0]⟩,
      ⟨⟨(some 43), .mov (.t 12), none⟩, 0, [0]⟩,
      ⟨⟨(some 44), .eqn false .iface (.t 43), none⟩, 0, [0]⟩,
      ⟨⟨(some 45), .mov (.t 44), none⟩, 0, [0]⟩,
      ⟨⟨(some 46), .mov (.t 14), (some (45, true))⟩, 0, [0]⟩,
      ⟨⟨(some 47), .eqn false .iface (.t 46), (some (45, true))⟩, 0, [0]⟩,
      ⟨⟨(some 48), .pick (.t 45) (.t 47) (.c (.p (.bool false))), none⟩, 0, [0]⟩,
      ⟨⟨(some 49), .mov (.t 48), none⟩, 0, [0]⟩,
      ⟨⟨(some 50), .mov (.t 16), (some (49, true))⟩, 0, [0]⟩,
      ⟨⟨(some 51), .eqn false .iface (.t 50), (some (49, true))⟩, 0, [0]⟩,
      ⟨⟨(some 52), .pick (.t 49) (.t 51) (.c (.p (.bool false))), none⟩, 0, [0]⟩,
      ⟨⟨(some 6), .mov (.t 38), none⟩, 0, [0]⟩,
      ⟨⟨(some 7), .mov (.t 40), none⟩, 0, [0]⟩,
      ⟨⟨(some 8), .mov (.t 42), none⟩, 0, []⟩,
      ⟨⟨(some 9), .mov (.t 52), none⟩, 0, []⟩])
    .ret)))))))
def r4 : List DR := [.tmp 6, .tmp 7, .tmp 8, .tmp 9]
theorem c4_ok : Try.f4.body.bind (cCode Try.prog) = some c4 := by kernel_rfl
theorem r4_ok : cRes Try.prog Try.f4.results.toList = some r4 := by kernel_rfl

/-- given.example/pub-assaymark/impl.StrSetCode -/
def c5 : DC :=
  (.seq (.rg [⟨(some 6), .mov (.c (.p (.string ⟨#[]⟩))), none⟩,
      ⟨(some 7), .mov (.c (.p (.string ⟨#[]⟩))), none⟩,
      ⟨(some 8), .mov (.c (.p (.string ⟨#[]⟩))), none⟩,
      ⟨(some 9), .mov (.c (.p (.slice none 0 0))), none⟩,
      ⟨(some 10), .mov (.c (.p (.bool false))), none⟩])
    (.seq (.rg [⟨(some 20), .mov (.t 0), none⟩,
      ⟨(some 21), .callr 10 [(.t 20)], none⟩,
      ⟨(some 11), .mov (.t 21), none⟩])
    (.seq (.seq (.rg [⟨(some 22), .mov (.t 1), none⟩])
    (.cond (.t 22) (.rg [⟨(some 11), .mov (.c (.p (.map none))), none⟩])
      .skip))
    (.seq (.rg [⟨(some 24), .mov (.t 11), none⟩,
      ⟨(some 25), .callr 11 [(.t 24)], none⟩,
      ⟨(some 23), .mov (.t 25), none⟩,
      ⟨(some 26), .ext (.t 23) 0, none⟩,
      ⟨(some 27), .ext (.t 23) 1, none⟩,
      ⟨(some 12), .mov (.t 26), none⟩,
      ⟨(some 13), .mov (.t 27), none⟩])
    (.seq (.rg [⟨(some 29), .mov (.t 11), none⟩,
      ⟨(some 30), .callr 12 [(.t 29), (.c (.p (.slice none 0 0)))], none⟩,
      ⟨(some 28), .mov (.t 30), none⟩,
      ⟨(some 31), .ext (.t 28) 0, none⟩,
      ⟨(some 32), .ext (.t 28) 1, none⟩,
      ⟨(some 14), .mov (.t 31), none⟩,
      ⟨(some 15), .mov (.t 32), none⟩])
    (.seq (.rg [⟨(some 34), .mov (.t 11), none⟩,
      ⟨(some 35), .mov (.t 2), none⟩,
      ⟨(some 36), .s2b (.t 35), none⟩,
      ⟨(some 37), .callr 13 [(.t 34), (.t 36)], none⟩,
      ⟨(some 33), .mov (.t 37), none⟩,
      ⟨(some 38), .ext (.t 33) 0, none⟩,
      ⟨(some 39), .ext (.t 33) 1, none⟩,
      ⟨(some 16), .mov (.t 38), none⟩,
      ⟨(some 17), .mov (.t 39), none⟩])
    (.seq (.seq (.rg [⟨(some 40), .mov (.t 11), none⟩,
      ⟨(some 41), .callr 14 [(.t 40)], none⟩,
      ⟨(some 42), .lenl (.t 41), none⟩,
      ⟨(some 43), .mov (.c (.p (.int .i64 0))), none⟩])
    (.block 0 (.loop (.seq (.rg [⟨(some 44), .bin .lss (.t 43) (.t 42), none⟩])
      (.seq (.cond (.t 44) .skip
        (.exit 0))
      (.seq (.block 1 (.seq (.rg [⟨(some 45), .iaddr 1 (.t 41) (.t 43), none⟩,
         ⟨(some 46), .load false 1 (.t 45), none⟩,
         ⟨(some 19), .mov (.t 46), none⟩])
       (.rg [⟨(some 47), .mov (.t 9), none⟩,
         ⟨(some 48), .mov (.t 19), none⟩,
         ⟨(some 49), .b2s (.t 48), none⟩,
         ⟨(some 50), .lit 1 [(.t 49)], none⟩,
         ⟨(some 51), .app 1 16 (.t 47) (.t 50), none⟩,
         ⟨(some 9), .mov (.t 51), none⟩])))
      (.rg [⟨(some 52), .bin .add (.t 43) (.c (.p (.int .i64 1))), none⟩,
        ⟨(some 43), .mov (.t 52), none⟩])))))))
    (.seq (.rgd [⟨⟨(some 53), .mov (.t 12), none⟩, 0, [0]⟩,
      ⟨⟨(some 54), .b2s (.t 53), none⟩, 0, [0]⟩,
      ⟨⟨(some 55), .mov (.t 14), none⟩, 0, [0]⟩,
      ⟨⟨(some 56), .b2s (.t 55), none⟩, 0, [0]⟩,
      ⟨⟨(some 57), .mov (.t 16), none⟩, 0, [0]⟩,
      ⟨⟨(some 58), .b2s (.t 57), none⟩, 0, [0]⟩,
      ⟨⟨(some 59), .mov (.t 9), none⟩, 0, [0]⟩,
      ⟨⟨(some 60), .mov (.t 13), none⟩, 0, [0]⟩,
      ⟨⟨(some 61), .eqn false .iface (.t 60), none⟩, 0, [0]⟩,
      ⟨⟨(some 62), .mov (.t 61), none⟩, 0, [0]⟩,
      ⟨⟨(some 63), .mov (.t 15), (some (62, true))⟩, 0, [0]⟩,
      ⟨⟨(some 64), .eqn false .iface (.t 63), (some (62, true))⟩, 0, [0]⟩,
      ⟨⟨(some 65), .pick (.t 62) (.t 64) (.c (.p (.bool false))), none⟩, 0, [0]⟩,
      ⟨⟨(some 66), .mov (.t 65), none⟩, 0, [0]⟩,
      ⟨⟨(some 67), .mov (.t 17), (some (66, true))⟩, 0, [0]⟩,
      ⟨⟨(some 68), .eqn false .iface (.t 67), (some (66, true))⟩, 0, [0]⟩,
      ⟨⟨(some 69), .pick (.t 66) (.t 68) (.c (.p (.bool false))), none⟩, 0, [0]⟩,
      ⟨⟨(some 6), .mov (.t 54), none⟩, 0, [0]⟩,
      ⟨⟨(some 7), .mov (.t 56), none⟩, 0, [0]⟩,
      ⟨⟨(some 8), .mov (.t 58), none⟩, 0, []⟩,
      ⟨⟨(some 9), .mov (.t 59), none⟩, 0, []⟩,
      ⟨⟨(some 10), .mov (.t 69), none⟩, 0, []⟩])
    .ret))))))))
def r5 : List DR := [.tmp 6, .tmp 7, .tmp 8, .tmp 9, .tmp 10]
theorem c5_ok : Try.f5.body.bind (cCode Try.prog) = some c5 := by kernel_rfl
theorem r5_ok : cRes Try.prog Try.f5.results.toList = some r5 := by kernel_rfl

/-- given.example/pub-assaymark/pub/miniogo/pkg/set.CreateIntSet -/
def c6 : DC :=
  (.seq (.rg [⟨(some 2), .mov (.c (.p (.map none))), none⟩])
    (.seq (.rg [⟨(some 3), .mov (.t 0), none⟩,
      ⟨(some 4), .callr 15 [(.t 3)], none⟩,
      ⟨(some 2), .mov (.t 4), none⟩])
    .ret))
def r6 : List DR := [.tmp 2]
theorem c6_ok : Try.f6.body.bind (cCode Try.prog) = some c6 := by kernel_rfl
theorem r6_ok : cRes Try.prog Try.f6.results.toList = some r6 := by kernel_rfl

/-- (given.example/pub-assaymark/pub/miniogo/pkg/set.IntSet).MarshalJSON -/
def c7 : DC :=
  (.seq (.rg [⟨(some 2), .mov (.c (.p (.slice none 0 0))), none⟩,
      ⟨(some 3), .mov (.c (.p .nilIface)), none⟩])
    (.seq (.rg [⟨(some 4), .mov (.t 0), none⟩,
      ⟨(some 5), .callr 17 [(.t 4)], none⟩,
      ⟨(some 6), .ifc 46 (.t 5), none⟩,
      ⟨(some 7), .callr 16 [(.t 6)], none⟩,
      ⟨(some 8), .ext (.t 7) 0, none⟩,
      ⟨(some 9), .ext (.t 7) 1, none⟩,
      ⟨(some 2), .mov (.t 8), none⟩,
      ⟨(some 3), .mov (.t 9), none⟩])
    .ret))
def r7 : List DR := [.tmp 2, .tmp 3]
theorem c7_ok : Try.f7.body.bind (cCode Try.prog) = some c7 := by kernel_rfl
theorem r7_ok : cRes Try.prog Try.f7.results.toList = some r7 := by kernel_rfl

/-- (given.example/pub-assaymark/pub/miniogo/pkg/set.IntSet).MarshalMsg -/
def c8 : DC :=
  (.seq (.rg [⟨(some 4), .mov (.c (.p (.slice none 0 0))), none⟩,
      ⟨(some 5), .mov (.c (.p .nilIface)), none⟩])
    (.seq (.seq (.rg [⟨(some 8), .mov (.t 0), none⟩,
      ⟨(some 9), .eqn false .map (.t 8), none⟩])
    (.cond (.t 9) (.seq (.rg [⟨(some 10), .mov (.t 1), none⟩,
        ⟨(some 11), .callr 18 [(.t 10)], none⟩,
        ⟨(some 4), .mov (.t 11), none⟩,
        ⟨(some 5), .mov (.c (.p .nilIface)), none⟩])
      .ret)
      .skip))
    (.seq (.rg [⟨(some 12), .mov (.t 1), none⟩,
      ⟨(some 13), .mov (.t 0), none⟩,
      ⟨(some 14), .lenm (.t 13), none⟩,
      ⟨(some 15), .callr 19 [(.t 12), (.t 14)], none⟩,
      ⟨(some 1), .mov (.t 15), none⟩])
    (.seq (.seq (.rg [⟨(some 16), .mov (.t 0), none⟩,
      ⟨(some 17), .callr 17 [(.t 16)], none⟩,
      ⟨(some 18), .lenl (.t 17), none⟩,
      ⟨(some 19), .mov (.c (.p (.int .i64 0))), none⟩])
    (.block 0 (.loop (.seq (.rg [⟨(some 20), .bin .lss (.t 19) (.t 18), none⟩])
      (.seq (.cond (.t 20) .skip
        (.exit 0))
      (.seq (.block 1 (.seq (.rg [⟨(some 21), .iaddr 1 (.t 17) (.t 19), none⟩,
         ⟨(some 22), .load false 1 (.t 21), none⟩,
         ⟨(some 7), .mov (.t 22), none⟩])
       (.rg [⟨(some 23), .mov (.t 1), none⟩,
         ⟨(some 24), .mov (.t 7), none⟩,
         ⟨(some 25), .callr 20 [(.t 23), (.t 24)], none⟩,
         ⟨(some 1), .mov (.t 25), none⟩])))
      (.rg [⟨(some 26), .bin .add (.t 19) (.c (.p (.int .i64 1))), none⟩,
        ⟨(some 19), .mov (.t 26), none⟩])))))))
    (.seq (.rg [⟨(some 27), .mov (.t 1), none⟩,
      ⟨(some 4), .mov (.t 27), none⟩,
      ⟨(some 5), .mov (.c (.p .nilIface)), none⟩])
    .ret)))))
def r8 : List DR := [.tmp 4, .tmp 5]
theorem c8_ok : Try.f8.body.bind (cCode Try.prog) = some c8 := by kernel_rfl
theorem r8_ok : cRes Try.prog Try.f8.results.toList = some r8 := by kernel_rfl

/-- (given.example/pub-assaymark/pub/miniogo/pkg/set.IntSet).AppendBinary -/
def c9 : DC :=
  (.seq (.rg [⟨(some 4), .mov (.c (.p (.slice none 0 0))), none⟩,
      ⟨(some 5), .mov (.c (.p .nilIface)), none⟩])
    (.seq (.rg [⟨(some 6), .mov (.t 0), none⟩,
      ⟨(some 7), .mov (.t 1), none⟩,
      ⟨(some 8), .callr 8 [(.t 6), (.t 7)], none⟩,
      ⟨(some 9), .ext (.t 8) 0, none⟩,
      ⟨(some 10), .ext (.t 8) 1, none⟩,
      ⟨(some 4), .mov (.t 9), none⟩,
      ⟨(some 5), .mov (.t 10), none⟩])
    .ret))
def r9 : List DR := [.tmp 4, .tmp 5]
theorem c9_ok : Try.f9.body.bind (cCode Try.prog) = some c9 := by kernel_rfl
theorem r9_ok : cRes Try.prog Try.f9.results.toList = some r9 := by kernel_rfl

/-- given.example/pub-assaymark/pub/miniogo/pkg/set.CreateStringSet -/
def c10 : DC :=
  (.seq (.rg [⟨(some 2), .mov (.c (.p (.map none))), none⟩])
    (.seq (.rg [⟨(some 3), .mov (.t 0), none⟩,
      ⟨(some 4), .callr 21 [(.t 3)], none⟩,
      ⟨(some 2), .mov (.t 4), none⟩])
    .ret))
def r10 : List DR := [.tmp 2]
theorem c10_ok : Try.f10.body.bind (cCode Try.prog) = some c10 := by kernel_rfl
theorem r10_ok : cRes Try.prog Try.f10.results.toList = some r10 := by kernel_rfl

/-- (given.example/pub-assaymark/pub/miniogo/pkg/set.StringSet).MarshalJSON -/
def c11 : DC :=
  (.seq (.rg [⟨(some 2), .mov (.c (.p (.slice none 0 0))), none⟩,
      ⟨(some 3), .mov (.c (.p .nilIface)), none⟩])
    (.seq (.rg [⟨(some 4), .mov (.t 0), none⟩,
      ⟨(some 5), .callr 22 [(.t 4)], none⟩,
      ⟨(some 6), .ifc 53 (.t 5), none⟩,
      ⟨(some 7), .callr 16 [(.t 6)], none⟩,
      ⟨(some 8), .ext (.t 7) 0, none⟩,
      ⟨(some 9), .ext (.t 7) 1, none⟩,
      ⟨(some 2), .mov (.t 8), none⟩,
      ⟨(some 3), .mov (.t 9), none⟩])
    .ret))
def r11 : List DR := [.tmp 2, .tmp 3]
theorem c11_ok : Try.f11.body.bind (cCode Try.prog) = some c11 := by kernel_rfl
theorem r11_ok : cRes Try.prog Try.f11.results.toList = some r11 := by kernel_rfl

/-- (given.example/pub-assaymark/pub/miniogo/pkg/set.StringSet).MarshalMsg -/
def c12 : DC :=
  (.seq (.rg [⟨(some 4), .mov (.c (.p (.slice none 0 0))), none⟩,
      ⟨(some 5), .mov (.c (.p .nilIface)), none⟩])
    (.seq (.seq (.rg [⟨(some 8), .mov (.t 0), none⟩,
      ⟨(some 9), .eqn false .map (.t 8), none⟩])
    (.cond (.t 9) (.seq (.rg [⟨(some 10), .mov (.t 1), none⟩,
        ⟨(some 11), .callr 18 [(.t 10)], none⟩,
        ⟨(some 4), .mov (.t 11), none⟩,
        ⟨(some 5), .mov (.c (.p .nilIface)), none⟩])
      .ret)
      .skip))
    (.seq (.rg [⟨(some 12), .mov (.t 1), none⟩,
      ⟨(some 13), .mov (.t 0), none⟩,
      ⟨(some 14), .lenm (.t 13), none⟩,
      ⟨(some 15), .callr 19 [(.t 12), (.t 14)], none⟩,
      ⟨(some 1), .mov (.t 15), none⟩])
    (.seq (.seq (.rg [⟨(some 16), .mov (.t 0), none⟩,
      ⟨(some 17), .callr 22 [(.t 16)], none⟩,
      ⟨(some 18), .lenl (.t 17), none⟩,
      ⟨(some 19), .mov (.c (.p (.int .i64 0))), none⟩])
    (.block 0 (.loop (.seq (.rg [⟨(some 20), .bin .lss (.t 19) (.t 18), none⟩])
      (.seq (.cond (.t 20) .skip
        (.exit 0))
      (.seq (.block 1 (.seq (.rg [⟨(some 21), .iaddr 1 (.t 17) (.t 19), none⟩,
         ⟨(some 22), .load false 1 (.t 21), none⟩,
         ⟨(some 7), .mov (.t 22), none⟩])
       (.rg [⟨(some 23), .mov (.t 1), none⟩,
         ⟨(some 24), .mov (.t 7), none⟩,
         ⟨(some 25), .callr 23 [(.t 23), (.t 24)], none⟩,
         ⟨(some 1), .mov (.t 25), none⟩])))
      (.rg [⟨(some 26), .bin .add (.t 19) (.c (.p (.int .i64 1))), none⟩,
        ⟨(some 19), .mov (.t 26), none⟩])))))))
    (.seq (.rg [⟨(some 27), .mov (.t 1), none⟩,
      ⟨(some 4), .mov (.t 27), none⟩,
      ⟨(some 5), .mov (.c (.p .nilIface)), none⟩])
    .ret)))))
def r12 : List DR := [.tmp 4, .tmp 5]
theorem c12_ok : Try.f12.body.bind (cCode Try.prog) = some c12 := by kernel_rfl
theorem r12_ok : cRes Try.prog Try.f12.results.toList = some r12 := by kernel_rfl

/-- (given.example/pub-assaymark/pub/miniogo/pkg/set.StringSet).AppendBinary -/
def c13 : DC :=
  (.seq (.rg [⟨(some 4), .mov (.c (.p (.slice none 0 0))), none⟩,
      ⟨(some 5), .mov (.c (.p .nilIface)), none⟩])
    (.seq (.rg [⟨(some 6), .mov (.t 0), none⟩,
      ⟨(some 7), .mov (.t 1), none⟩,
      ⟨(some 8), .callr 12 [(.t 6), (.t 7)], none⟩,
      ⟨(some 9), .ext (.t 8) 0, none⟩,
      ⟨(some 10), .ext (.t 8) 1, none⟩,
      ⟨(some 4), .mov (.t 9), none⟩,
      ⟨(some 5), .mov (.t 10), none⟩])
    .ret))
def r13 : List DR := [.tmp 4, .tmp 5]
theorem c13_ok : Try.f13.body.bind (cCode Try.prog) = some c13 := by kernel_rfl
theorem r13_ok : cRes Try.prog Try.f13.results.toList = some r13 := by kernel_rfl

/-- (given.example/pub-assaymark/pub/miniogo/pkg/set.StringSet).ToByteSlices -/
def c14 : DC :=
  (.seq (.rg [⟨(some 2), .mov (.c (.p (.slice none 0 0))), none⟩])
    (.seq (.rg [⟨(some 3), .mov (.c (.p (.int .i64 0))), none⟩])
    (.seq (.seq (.rg [⟨(some 11), .mov (.t 0), none⟩,
      ⟨(some 12), .rngm (.t 11), none⟩])
    (.block 0 (.loop (.seq (.rg [⟨(some 13), .nxtm (.t 12), none⟩,
        ⟨(some 14), .ext (.t 13) 0, none⟩])
      (.seq (.cond (.t 14) .skip
        (.exit 0))
      (.block 1 (.seq (.rg [⟨(some 15), .ent (.t 12), none⟩,
         ⟨(some 16), .ext (.t 15) 0, none⟩,
         ⟨(some 4), .mov (.t 16), none⟩])
       (.rg [⟨(some 17), .mov (.t 3), none⟩,
         ⟨(some 18), .mov (.t 4), none⟩,
         ⟨(some 19), .lens (.t 18), none⟩,
         ⟨(some 20), .bin .add (.t 17) (.t 19), none⟩,
         ⟨(some 3), .mov (.t 20), none⟩]))))))))
    (.seq (.rg [⟨(some 21), .mov (.t 3), none⟩,
      ⟨(some 22), .mks false 1 1 (.p (.int .u8 0)) (.t 21) (.t 21), none⟩,
      ⟨(some 5), .mov (.t 22), none⟩])
    (.seq (.rg [⟨(some 23), .mov (.t 0), none⟩,
      ⟨(some 24), .lenm (.t 23), none⟩,
      ⟨(some 25), .mks false 1 24 (.p (.slice none 0 0)) (.c (.p (.int .i64 0))) (.t 24), none⟩,
      ⟨(some 6), .mov (.t 25), none⟩])
    (.seq (.seq (.rg [⟨(some 26), .mov (.t 0), none⟩,
      ⟨(some 27), .rngm (.t 26), none⟩])
    (.block 2 (.loop (.seq (.rg [⟨(some 28), .nxtm (.t 27), none⟩,
        ⟨(some 29), .ext (.t 28) 0, none⟩])
      (.seq (.cond (.t 29) .skip
        (.exit 2))
      (.block 3 (.seq (.rg [⟨(some 30), .ent (.t 27), none⟩,
         ⟨(some 31), .ext (.t 30) 0, none⟩,
         ⟨(some 7), .mov (.t 31), none⟩])
       (.seq (.rg [⟨(some 32), .mov (.t 5), none⟩,
         ⟨(some 33), .mov (.t 7), none⟩,
         ⟨(some 34), .cpy 1 (.t 32) (.t 33), none⟩,
         ⟨(some 8), .mov (.t 34), none⟩])
       (.seq (.rg [⟨(some 35), .mov (.t 6), none⟩,
         ⟨(some 36), .mov (.t 5), none⟩,
         ⟨(some 37), .mov (.t 8), none⟩,
         ⟨(some 38), .slcl 1 (.t 36) none (some (.t 37)), none⟩,
         ⟨(some 39), .lit 1 [(.t 38)], none⟩,
         ⟨(some 40), .app 1 24 (.t 35) (.t 39), none⟩,
         ⟨(some 6), .mov (.t 40), none⟩])
       (.rg [⟨(some 41), .mov (.t 5), none⟩,
         ⟨(some 42), .mov (.t 8), none⟩,
         ⟨(some 43), .slcl 1 (.t 41) (some (.t 42)) none, none⟩,
         ⟨(some 5), .mov (.t 43), none⟩]))))))))))
    (.seq (.seq (.rg [⟨(some 9), .mov (.c (.p (.int .i64 1))), none⟩])
    (.block 4 (.loop (.seq (.seq (.rg [⟨(some 44), .mov (.t 9), none⟩,
        ⟨(some 45), .mov (.t 6), none⟩,
        ⟨(some 46), .lenl (.t 45), none⟩,
        ⟨(some 47), .bin .lss (.t 44) (.t 46), none⟩])
      (.cond (.t 47) .skip
        (.exit 4)))
      (.seq (.block 5 (.seq (.rg [⟨(some 50), .mov (.t 9), none⟩,
         ⟨(some 10), .mov (.t 50), none⟩])
       (.block 6 (.loop (.seq (.seq (.rgd [⟨⟨(some 51), .mov (.t 10), none⟩, 0, []⟩,
           ⟨⟨(some 52), .bin .gtr (.t 51) (.c (.p (.int .i64 0))), none⟩, 0, []⟩,
           ⟨⟨(some 53), .mov (.t 52), none⟩, 0, []⟩,
           ⟨⟨(some 54), .mov (.t 6), (some (53, true))⟩, 0, [0]⟩,
           ⟨⟨(some 55), .mov (.t 10), (some (53, true))⟩, 0, [0]⟩,
           ⟨⟨(some 56), .iaddr 1 (.t 54) (.t 55), (some (53, true))⟩, 0, [0]⟩,
           ⟨⟨(some 57), .load false 1 (.t 56), (some (53, true))⟩, 0, [0]⟩,
           ⟨⟨(some 58), .b2s (.t 57), (some (53, true))⟩, 0, [0]⟩,
           ⟨⟨(some 59), .mov (.t 6), (some (53, true))⟩, 0, [0]⟩,
           ⟨⟨(some 60), .mov (.t 10), (some (53, true))⟩, 0, [0]⟩,
           ⟨⟨(some 61), .bin .sub (.t 60) (.c (.p (.int .i64 1))), (some (53, true))⟩, 0, [0]⟩,
           ⟨⟨(some 62), .iaddr 1 (.t 59) (.t 61), (some (53, true))⟩, 0, [0]⟩,
           ⟨⟨(some 63), .load false 1 (.t 62), (some (53, true))⟩, 0, [0]⟩,
           ⟨⟨(some 64), .b2s (.t 63), (some (53, true))⟩, 0, [0]⟩,
           ⟨⟨(some 65), .bin .lss (.t 58) (.t 64), (some (53, true))⟩, 0, []⟩,
           ⟨⟨(some 66), .pick (.t 53) (.t 65) (.c (.p (.bool false))), none⟩, 0, []⟩])
         (.cond (.t 66) .skip
           (.exit 6)))
         (.seq (.block 7 (.rgd [⟨⟨(some 69), .mov (.t 6), none⟩, 0, [0]⟩,
            ⟨⟨(some 70), .mov (.t 10), none⟩, 0, [0]⟩,
            ⟨⟨(some 71), .mov (.t 6), none⟩, 0, [0]⟩,
            ⟨⟨(some 72), .mov (.t 10), none⟩, 0, [0]⟩,
            ⟨⟨(some 73), .bin .sub (.t 72) (.c (.p (.int .i64 1))), none⟩, 0, [0]⟩,
            ⟨⟨(some 74), .mov (.t 6), none⟩, 0, [0]⟩,
            ⟨⟨(some 75), .mov (.t 10), none⟩, 0, [0]⟩,
            ⟨⟨(some 76), .bin .sub (.t 75) (.c (.p (.int .i64 1))), none⟩, 0, [0]⟩,
            ⟨⟨(some 77), .iaddr 1 (.t 74) (.t 76), none⟩, 0, [0]⟩,
            ⟨⟨(some 78), .load false 1 (.t 77), none⟩, 0, [0]⟩,
            ⟨⟨(some 79), .mov (.t 6), none⟩, 0, [0]⟩,
            ⟨⟨(some 80), .mov (.t 10), none⟩, 0, [0]⟩,
            ⟨⟨(some 81), .iaddr 1 (.t 79) (.t 80), none⟩, 0, [0]⟩,
            ⟨⟨(some 82), .load false 1 (.t 81), none⟩, 0, [0]⟩,
            ⟨⟨(some 83), .iaddr 1 (.t 69) (.t 70), none⟩, 0, [0]⟩,
            ⟨⟨none, .store 1 (.t 83) (.t 78), none⟩, 0, []⟩,
            ⟨⟨(some 84), .iaddr 1 (.t 71) (.t 73), none⟩, 1, [1]⟩,
            ⟨⟨none, .store 1 (.t 84) (.t 82), none⟩, 1, []⟩]))
         (.rg [⟨(some 67), .mov (.t 10), none⟩,
           ⟨(some 68), .bin .sub (.t 67) (.c (.p (.int .i64 1))), none⟩,
           ⟨(some 10), .mov (.t 68), none⟩])))))))
      (.rg [⟨(some 48), .mov (.t 9), none⟩,
        ⟨(some 49), .bin .add (.t 48) (.c (.p (.int .i64 1))), none⟩,
        ⟨(some 9), .mov (.t 49), none⟩]))))))
    (.seq (.rg [⟨(some 85), .mov (.t 6), none⟩,
      ⟨(some 2), .mov (.t 85), none⟩])
    .ret))))))))
def r14 : List DR := [.tmp 2]
theorem c14_ok : Try.f14.body.bind (cCode Try.prog) = some c14 := by kernel_rfl
theorem r14_ok : cRes Try.prog Try.f14.results.toList = some r14 := by kernel_rfl

/-- given.example/pub-assaymark/pub/miniogo/pkg/set.Create[int] -/
def c15 : DC :=
  (.seq (.rg [⟨(some 2), .mov (.c (.p (.map none))), none⟩])
    (.seq (.rg [⟨(some 6), .mov (.t 0), none⟩,
      ⟨(some 7), .lenl (.t 6), none⟩,
      ⟨(some 8), .mkmapr (.t 7), none⟩,
      ⟨(some 3), .mov (.t 8), none⟩])
    (.seq (.seq (.rg [⟨(some 9), .mov (.t 0), none⟩,
      ⟨(some 10), .lenl (.t 9), none⟩,
      ⟨(some 11), .mov (.c (.p (.int .i64 0))), none⟩])
    (.block 0 (.loop (.seq (.rg [⟨(some 12), .bin .lss (.t 11) (.t 10), none⟩])
      (.seq (.cond (.t 12) .skip
        (.exit 0))
      (.seq (.block 1 (.seq (.rg [⟨(some 13), .iaddr 1 (.t 9) (.t 11), none⟩,
         ⟨(some 14), .load false 1 (.t 13), none⟩,
         ⟨(some 5), .mov (.t 14), none⟩])
       (.rg [⟨(some 15), .mov (.t 3), none⟩,
         ⟨(some 16), .mov (.t 5), none⟩,
         ⟨(some 17), .callr 24 [(.t 15), (.t 16)], none⟩])))
      (.rg [⟨(some 18), .bin .add (.t 11) (.c (.p (.int .i64 1))), none⟩,
        ⟨(some 11), .mov (.t 18), none⟩])))))))
    (.seq (.rg [⟨(some 19), .mov (.t 3), none⟩,
      ⟨(some 2), .mov (.t 19), none⟩])
    .ret))))
def r15 : List DR := [.tmp 2]
theorem c15_ok : Try.f15.body.bind (cCode Try.prog) = some c15 := by kernel_rfl
theorem r15_ok : cRes Try.prog Try.f15.results.toList = some r15 := by kernel_rfl

/-- given.example/pub-assaymark/pub/zzjson.Marshal -/
def c16 : DC :=
  (.seq (.rg [⟨(some 2), .mov (.c (.p (.slice none 0 0))), none⟩,
      ⟨(some 3), .mov (.c (.p .nilIface)), none⟩])
    (.seq (.rg [⟨(some 5), .bld [.p (.bool false), .p (.slice none 0 0), .p (.bool false)] [], none⟩,
      ⟨(some 6), .box (.t 5), none⟩,
      ⟨(some 4), .mov (.t 6), none⟩])
    (.seq (.rg [⟨(some 7), .mov (.t 0), none⟩,
      ⟨(some 8), .mov (.t 4), none⟩,
      ⟨(some 9), .inv true "ZzPut" (.t 7) [(.t 8)], none⟩])
    (.seq (.seq (.rg [⟨(some 10), .mov (.t 4), none⟩,
      ⟨(some 11), .nilchk .ptr (.t 10), none⟩,
      ⟨(some 12), .faddr false 0 1 (.t 11), none⟩,
      ⟨(some 13), .load false 1 (.t 12), none⟩])
    (.cond (.t 13) (.seq (.rg [⟨(some 14), .ifc 63 (.c (.p (.string ⟨#[118, 97, 108, 117, 101, 32, 116, 104, 97, 116, 32, 99, 97, 110, 39, 116, 32, 98, 101, 32, 112, 117, 116]⟩))), none⟩,
        ⟨(some 2), .mov (.c (.p (.slice none 0 0))), none⟩,
        ⟨(some 3), .mov (.t 14), none⟩])
      .ret)
      .skip))
    (.seq (.rg [⟨(some 15), .mov (.t 4), none⟩,
      ⟨(some 16), .nilchk .ptr (.t 15), none⟩,
      ⟨(some 17), .faddr false 1 1 (.t 16), none⟩,
      ⟨(some 18), .load false 1 (.t 17), none⟩,
      ⟨(some 2), .mov (.t 18), none⟩,
      ⟨(some 3), .mov (.c (.p .nilIface)), none⟩])
    .ret)))))
def r16 : List DR := [.tmp 2, .tmp 3]
theorem c16_ok : Try.f16.body.bind (cCode Try.prog) = some c16 := by kernel_rfl
theorem r16_ok : cRes Try.prog Try.f16.results.toList = some r16 := by kernel_rfl

/-- (given.example/pub-assaymark/pub/miniogo/pkg/set.IntSet).ToSlice -/
def c17 : DC :=
  (.seq (.rg [⟨(some 2), .mov (.c (.p (.slice none 0 0))), none⟩])
    (.seq (.rg [⟨(some 3), .mov (.t 0), none⟩,
      ⟨(some 4), .callr 25 [(.t 3)], none⟩,
      ⟨(some 2), .mov (.t 4), none⟩])
    .ret))
def r17 : List DR := [.tmp 2]
theorem c17_ok : Try.f17.body.bind (cCode Try.prog) = some c17 := by kernel_rfl
theorem r17_ok : cRes Try.prog Try.f17.results.toList = some r17 := by kernel_rfl

/-- given.example/pub-assaymark/pub/zzmsgp.AppendNil -/
def c18 : DC :=
  (.seq (.rg [⟨(some 2), .mov (.c (.p (.slice none 0 0))), none⟩])
    (.seq (.rg [⟨(some 3), .mov (.t 0), none⟩,
      ⟨(some 4), .lit 1 [(.c (.p (.int .u8 192)))], none⟩,
      ⟨(some 5), .app 1 1 (.t 3) (.t 4), none⟩,
      ⟨(some 2), .mov (.t 5), none⟩])
    .ret))
def r18 : List DR := [.tmp 2]
theorem c18_ok : Try.f18.body.bind (cCode Try.prog) = some c18 := by kernel_rfl
theorem r18_ok : cRes Try.prog Try.f18.results.toList = some r18 := by kernel_rfl

/-- given.example/pub-assaymark/pub/miniogo/pkg/set.Create[string] -/
def c21 : DC :=
  (.seq (.rg [⟨(some 2), .mov (.c (.p (.map none))), none⟩])
    (.seq (.rg [⟨(some 6), .mov (.t 0), none⟩,
      ⟨(some 7), .lenl (.t 6), none⟩,
      ⟨(some 8), .mkmapr (.t 7), none⟩,
      ⟨(some 3), .mov (.t 8), none⟩])
    (.seq (.seq (.rg [⟨(some 9), .mov (.t 0), none⟩,
      ⟨(some 10), .lenl (.t 9), none⟩,
      ⟨(some 11), .mov (.c (.p (.int .i64 0))), none⟩])
    (.block 0 (.loop (.seq (.rg [⟨(some 12), .bin .lss (.t 11) (.t 10), none⟩])
      (.seq (.cond (.t 12) .skip
        (.exit 0))
      (.seq (.block 1 (.seq (.rg [⟨(some 13), .iaddr 1 (.t 9) (.t 11), none⟩,
         ⟨(some 14), .load false 1 (.t 13), none⟩,
         ⟨(some 5), .mov (.t 14), none⟩])
       (.rg [⟨(some 15), .mov (.t 3), none⟩,
         ⟨(some 16), .mov (.t 5), none⟩,
         ⟨(some 17), .callr 27 [(.t 15), (.t 16)], none⟩])))
      (.rg [⟨(some 18), .bin .add (.t 11) (.c (.p (.int .i64 1))), none⟩,
        ⟨(some 11), .mov (.t 18), none⟩])))))))
    (.seq (.rg [⟨(some 19), .mov (.t 3), none⟩,
      ⟨(some 2), .mov (.t 19), none⟩])
    .ret))))
def r21 : List DR := [.tmp 2]
theorem c21_ok : Try.f21.body.bind (cCode Try.prog) = some c21 := by kernel_rfl
theorem r21_ok : cRes Try.prog Try.f21.results.toList = some r21 := by kernel_rfl

/-- (given.example/pub-assaymark/pub/miniogo/pkg/set.StringSet).ToSlice -/
def c22 : DC :=
  (.seq (.rg [⟨(some 2), .mov (.c (.p (.slice none 0 0))), none⟩])
    (.seq (.rg [⟨(some 3), .mov (.t 0), none⟩,
      ⟨(some 4), .callr 28 [(.t 3)], none⟩,
      ⟨(some 2), .mov (.t 4), none⟩])
    .ret))
def r22 : List DR := [.tmp 2]
theorem c22_ok : Try.f22.body.bind (cCode Try.prog) = some c22 := by kernel_rfl
theorem r22_ok : cRes Try.prog Try.f22.results.toList = some r22 := by kernel_rfl

/-- given.example/pub-assaymark/pub/miniogo/pkg/set.ToSliceOrdered[int] -/
def c25 : DC :=
  (.seq (.rg [⟨(some 2), .mov (.c (.p (.slice none 0 0))), none⟩])
    (.seq (.rg [⟨(some 5), .mov (.t 0), none⟩,
      ⟨(some 6), .lenm (.t 5), none⟩,
      ⟨(some 7), .mks false 1 8 (.p (.int .i64 0)) (.c (.p (.int .i64 0))) (.t 6), none⟩,
      ⟨(some 3), .mov (.t 7), none⟩])
    (.seq (.seq (.rg [⟨(some 8), .mov (.t 0), none⟩,
      ⟨(some 9), .rngm (.t 8), none⟩])
    (.block 0 (.loop (.seq (.rg [⟨(some 10), .nxtm (.t 9), none⟩,
        ⟨(some 11), .ext (.t 10) 0, none⟩])
      (.seq (.cond (.t 11) .skip
        (.exit 0))
      (.block 1 (.seq (.rg [⟨(some 12), .ent (.t 9), none⟩,
         ⟨(some 13), .ext (.t 12) 0, none⟩,
         ⟨(some 4), .mov (.t 13), none⟩])
       (.rg [⟨(some 14), .mov (.t 3), none⟩,
         ⟨(some 15), .mov (.t 4), none⟩,
         ⟨(some 16), .lit 1 [(.t 15)], none⟩,
         ⟨(some 17), .app 1 8 (.t 14) (.t 16), none⟩,
         ⟨(some 3), .mov (.t 17), none⟩]))))))))
    (.seq (.rg [⟨(some 18), .mov (.t 3), none⟩,
      ⟨(some 19), .callr 29 [(.t 18)], none⟩])
    (.seq (.rg [⟨(some 20), .mov (.t 3), none⟩,
      ⟨(some 2), .mov (.t 20), none⟩])
    .ret)))))
def r25 : List DR := [.tmp 2]
theorem c25_ok : Try.f25.body.bind (cCode Try.prog) = some c25 := by kernel_rfl
theorem r25_ok : cRes Try.prog Try.f25.results.toList = some r25 := by kernel_rfl

/-- given.example/pub-assaymark/pub/miniogo/pkg/set.ToSliceOrdered[string] -/
def c28 : DC :=
  (.seq (.rg [⟨(some 2), .mov (.c (.p (.slice none 0 0))), none⟩])
    (.seq (.rg [⟨(some 5), .mov (.t 0), none⟩,
      ⟨(some 6), .lenm (.t 5), none⟩,
      ⟨(some 7), .mks false 1 16 (.p (.string ⟨#[]⟩)) (.c (.p (.int .i64 0))) (.t 6), none⟩,
      ⟨(some 3), .mov (.t 7), none⟩])
    (.seq (.seq (.rg [⟨(some 8), .mov (.t 0), none⟩,
      ⟨(some 9), .rngm (.t 8), none⟩])
    (.block 0 (.loop (.seq (.rg [⟨(some 10), .nxtm (.t 9), none⟩,
        ⟨(some 11), .ext (.t 10) 0, none⟩])
      (.seq (.cond (.t 11) .skip
        (.exit 0))
      (.block 1 (.seq (.rg [⟨(some 12), .ent (.t 9), none⟩,
         ⟨(some 13), .ext (.t 12) 0, none⟩,
         ⟨(some 4), .mov (.t 13), none⟩])
       (.rg [⟨(some 14), .mov (.t 3), none⟩,
         ⟨(some 15), .mov (.t 4), none⟩,
         ⟨(some 16), .lit 1 [(.t 15)], none⟩,
         ⟨(some 17), .app 1 16 (.t 14) (.t 16), none⟩,
         ⟨(some 3), .mov (.t 17), none⟩]))))))))
    (.seq (.rg [⟨(some 18), .mov (.t 3), none⟩,
      ⟨(some 19), .callr 30 [(.t 18)], none⟩])
    (.seq (.rg [⟨(some 20), .mov (.t 3), none⟩,
      ⟨(some 2), .mov (.t 20), none⟩])
    .ret)))))
def r28 : List DR := [.tmp 2]
theorem c28_ok : Try.f28.body.bind (cCode Try.prog) = some c28 := by kernel_rfl
theorem r28_ok : cRes Try.prog Try.f28.results.toList = some r28 := by kernel_rfl

/-- slices.Sort[[]int,int] -/
def c29 : DC :=
  (.seq (.rg [⟨(some 3), .mov (.t 0), none⟩,
      ⟨(some 4), .lenl (.t 3), none⟩,
      ⟨(some 2), .mov (.t 4), none⟩])
    (.rg [⟨(some 5), .mov (.t 0), none⟩,
      ⟨(some 6), .mov (.t 2), none⟩,
      ⟨(some 7), .mov (.t 2), none⟩,
      ⟨(some 8), .cint .u64 (.t 7), none⟩,
      ⟨(some 9), .callr 32 [(.t 8)], none⟩,
      ⟨(some 10), .callr 31 [(.t 5), (.c (.p (.int .i64 0))), (.t 6), (.t 9)], none⟩]))
def r29 : List DR := []
theorem c29_ok : Try.f29.body.bind (cCode Try.prog) = some c29 := by kernel_rfl
theorem r29_ok : cRes Try.prog Try.f29.results.toList = some r29 := by kernel_rfl

/-- slices.Sort[[]string,string] -/
def c30 : DC :=
  (.seq (.rg [⟨(some 3), .mov (.t 0), none⟩,
      ⟨(some 4), .lenl (.t 3), none⟩,
      ⟨(some 2), .mov (.t 4), none⟩])
    (.rg [⟨(some 5), .mov (.t 0), none⟩,
      ⟨(some 6), .mov (.t 2), none⟩,
      ⟨(some 7), .mov (.t 2), none⟩,
      ⟨(some 8), .cint .u64 (.t 7), none⟩,
      ⟨(some 9), .callr 32 [(.t 8)], none⟩,
      ⟨(some 10), .callr 33 [(.t 5), (.c (.p (.int .i64 0))), (.t 6), (.t 9)], none⟩]))
def r30 : List DR := []
theorem c30_ok : Try.f30.body.bind (cCode Try.prog) = some c30 := by kernel_rfl
theorem r30_ok : cRes Try.prog Try.f30.results.toList = some r30 := by kernel_rfl

/-- slices.pdqsortOrdered[int] -/
def c31 : DC :=
  (.seq (.rg [⟨(some 8), .mov (.c (.p (.bool true))), none⟩])
    (.seq (.rg [⟨(some 9), .mov (.c (.p (.bool true))), none⟩])
    (.block 0 (.loop (.block 1 (.seq (.rg [⟨(some 19), .mov (.t 2), none⟩,
         ⟨(some 20), .mov (.t 1), none⟩,
         ⟨(some 21), .bin .sub (.t 19) (.t 20), none⟩,
         ⟨(some 10), .mov (.t 21), none⟩])
       (.seq (.seq (.rg [⟨(some 22), .mov (.t 10), none⟩,
         ⟨(some 23), .bin .leq (.t 22) (.c (.p (.int .i64 12))), none⟩])
       (.cond (.t 23) (.seq (.rg [⟨(some 24), .mov (.t 0), none⟩,
           ⟨(some 25), .mov (.t 1), none⟩,
           ⟨(some 26), .mov (.t 2), none⟩,
           ⟨(some 27), .callr 34 [(.t 24), (.t 25), (.t 26)], none⟩])
         .ret)
         .skip))
       (.seq (.seq (.rg [⟨(some 28), .mov (.t 3), none⟩,
         ⟨(some 29), .bin .eql (.t 28) (.c (.p (.int .i64 0))), none⟩])
       (.cond (.t 29) (.seq (.rg [⟨(some 30), .mov (.t 0), none⟩,
           ⟨(some 31), .mov (.t 1), none⟩,
           ⟨(some 32), .mov (.t 2), none⟩,
           ⟨(some 33), .callr 35 [(.t 30), (.t 31), (.t 32)], none⟩])
         .ret)
         .skip))
       (.seq (.seq (.rg [⟨(some 34), .mov (.t 8), none⟩,
         ⟨(some 35), .un .not (.t 34), none⟩])
       (.cond (.t 35) (.seq (.rg [⟨(some 36), .mov (.t 0), none⟩,
           ⟨(some 37), .mov (.t 1), none⟩,
           ⟨(some 38), .mov (.t 2), none⟩,
           ⟨(some 39), .callr 36 [(.t 36), (.t 37), (.t 38)], none⟩])
         (.rg [⟨(some 40), .mov (.t 3), none⟩,
           ⟨(some 41), .bin .sub (.t 40) (.c (.p (.int .i64 1))), none⟩,
           ⟨(some 3), .mov (.t 41), none⟩]))
         .skip))
       (.seq (.rg [⟨(some 43), .mov (.t 0), none⟩,
         ⟨(some 44), .mov (.t 1), none⟩,
         ⟨(some 45), .mov (.t 2), none⟩,
         ⟨(some 46), .callr 37 [(.t 43), (.t 44), (.t 45)], none⟩,
         ⟨(some 42), .mov (.t 46), none⟩,
         ⟨(some 47), .ext (.t 42) 0, none⟩,
         ⟨(some 48), .ext (.t 42) 1, none⟩,
         ⟨(some 11), .mov (.t 47), none⟩,
         ⟨(some 12), .mov (.t 48), none⟩])
       (.seq (.seq (.rg [⟨(some 49), .mov (.t 12), none⟩,
         ⟨(some 50), .bin .eql (.t 49) (.c (.p (.int .i64 2))), none⟩])
       (.cond (.t 50) (.seq (.rg [⟨(some 51), .mov (.t 0), none⟩,
           ⟨(some 52), .mov (.t 1), none⟩,
           ⟨(some 53), .mov (.t 2), none⟩,
           ⟨(some 54), .callr 38 [(.t 51), (.t 52), (.t 53)], none⟩])
         (.seq (.rg [⟨(some 55), .mov (.t 2), none⟩,
           ⟨(some 56), .bin .sub (.t 55) (.c (.p (.int .i64 1))), none⟩,
           ⟨(some 57), .mov (.t 11), none⟩,
           ⟨(some 58), .mov (.t 1), none⟩,
           ⟨(some 59), .bin .sub (.t 57) (.t 58), none⟩,
           ⟨(some 60), .bin .sub (.t 56) (.t 59), none⟩,
           ⟨(some 11), .mov (.t 60), none⟩])
         (.rg [⟨(some 12), .mov (.c (.p (.int .i64 1))), none⟩])))
         .skip))
       (.seq (.seq (.rg [⟨(some 61), .mov (.t 8), none⟩,
         ⟨(some 62), .mov (.t 61), none⟩,
         ⟨(some 63), .mov (.t 9), (some (62, true))⟩,
         ⟨(some 64), .pick (.t 62) (.t 63) (.c (.p (.bool false))), none⟩,
         ⟨(some 65), .mov (.t 64), none⟩,
         ⟨(some 66), .mov (.t 12), (some (65, true))⟩,
         ⟨(some 67), .bin .eql (.t 66) (.c (.p (.int .i64 1))), (some (65, true))⟩,
         ⟨(some 68), .pick (.t 65) (.t 67) (.c (.p (.bool false))), none⟩])
       (.cond (.t 68) (.seq (.rg [⟨(some 69), .mov (.t 0), none⟩,
           ⟨(some 70), .mov (.t 1), none⟩,
           ⟨(some 71), .mov (.t 2), none⟩,
           ⟨(some 72), .callr 39 [(.t 69), (.t 70), (.t 71)], none⟩])
         (.cond (.t 72) .ret
           .skip))
         .skip))
       (.seq (.seq (.rgd [⟨⟨(some 73), .mov (.t 1), none⟩, 0, []⟩,
         ⟨⟨(some 74), .bin .gtr (.t 73) (.c (.p (.int .i64 0))), none⟩, 0, []⟩,
         ⟨⟨(some 75), .mov (.t 74), none⟩, 0, []⟩,
         ⟨⟨(some 76), .mov (.t 0), (some (75, true))⟩, 0, [0]⟩,
         ⟨⟨(some 77), .mov (.t 1), (some (75, true))⟩, 0, [0]⟩,
         ⟨⟨(some 78), .bin .sub (.t 77) (.c (.p (.int .i64 1))), (some (75, true))⟩, 0, [0]⟩,
         ⟨⟨(some 79), .iaddr 1 (.t 76) (.t 78), (some (75, true))⟩, 0, [0]⟩,
         ⟨⟨(some 80), .load false 1 (.t 79), (some (75, true))⟩, 0, [0]⟩,
         ⟨⟨(some 81), .mov (.t 0), (some (75, true))⟩, 0, [0]⟩,
         ⟨⟨(some 82), .mov (.t 11), (some (75, true))⟩, 0, [0]⟩,
         ⟨⟨(some 83), .iaddr 1 (.t 81) (.t 82), (some (75, true))⟩, 0, [0]⟩,
         ⟨⟨(some 84), .load false 1 (.t 83), (some (75, true))⟩, 0, [0]⟩,
         ⟨⟨(some 85), .call 40 [(.t 80), (.t 84)], (some (75, true))⟩, 0, []⟩,
         ⟨⟨(some 86), .un .not (.t 85), (some (75, true))⟩, 1, []⟩,
         ⟨⟨(some 87), .pick (.t 75) (.t 86) (.c (.p (.bool false))), none⟩, 1, []⟩])
       (.cond (.t 87) (.seq (.rg [⟨(some 88), .mov (.t 0), none⟩,
           ⟨(some 89), .mov (.t 1), none⟩,
           ⟨(some 90), .mov (.t 2), none⟩,
           ⟨(some 91), .mov (.t 11), none⟩,
           ⟨(some 92), .callr 41 [(.t 88), (.t 89), (.t 90), (.t 91)], none⟩,
           ⟨(some 13), .mov (.t 92), none⟩])
         (.seq (.rg [⟨(some 93), .mov (.t 13), none⟩,
           ⟨(some 1), .mov (.t 93), none⟩])
         (.exit 1)))
         .skip))
       (.seq (.rg [⟨(some 95), .mov (.t 0), none⟩,
         ⟨(some 96), .mov (.t 1), none⟩,
         ⟨(some 97), .mov (.t 2), none⟩,
         ⟨(some 98), .mov (.t 11), none⟩,
         ⟨(some 99), .callr 42 [(.t 95), (.t 96), (.t 97), (.t 98)], none⟩,
         ⟨(some 94), .mov (.t 99), none⟩,
         ⟨(some 100), .ext (.t 94) 0, none⟩,
         ⟨(some 101), .ext (.t 94) 1, none⟩,
         ⟨(some 14), .mov (.t 100), none⟩,
         ⟨(some 15), .mov (.t 101), none⟩])
       (.seq (.rg [⟨(some 102), .mov (.t 15), none⟩,
         ⟨(some 9), .mov (.t 102), none⟩])
       (.seq (.rg [⟨(some 103), .mov (.t 14), none⟩,
         ⟨(some 104), .mov (.t 1), none⟩,
         ⟨(some 105), .bin .sub (.t 103) (.t 104), none⟩,
         ⟨(some 106), .mov (.t 2), none⟩,
         ⟨(some 107), .mov (.t 14), none⟩,
         ⟨(some 108), .bin .sub (.t 106) (.t 107), none⟩,
         ⟨(some 16), .mov (.t 105), none⟩,
         ⟨(some 17), .mov (.t 108), none⟩])
       (.seq (.rg [⟨(some 109), .mov (.t 10), none⟩,
         ⟨(some 110), .bin .quo (.t 109) (.c (.p (.int .i64 8))), none⟩,
         ⟨(some 18), .mov (.t 110), none⟩])
       (.seq (.rg [⟨(some 111), .mov (.t 16), none⟩,
         ⟨(some 112), .mov (.t 17), none⟩,
         ⟨(some 113), .bin .lss (.t 111) (.t 112), none⟩])
       (.cond (.t 113) (.seq (.rg [⟨(some 114), .mov (.t 16), none⟩,
           ⟨(some 115), .mov (.t 18), none⟩,
           ⟨(some 116), .bin .geq (.t 114) (.t 115), none⟩,
           ⟨(some 8), .mov (.t 116), none⟩])
         (.seq (.rg [⟨(some 117), .mov (.t 0), none⟩,
           ⟨(some 118), .mov (.t 1), none⟩,
           ⟨(some 119), .mov (.t 14), none⟩,
           ⟨(some 120), .mov (.t 3), none⟩,
           ⟨(some 121), .callr 31 [(.t 117), (.t 118), (.t 119), (.t 120)], none⟩])
         (.rg [⟨(some 122), .mov (.t 14), none⟩,
           ⟨(some 123), .bin .add (.t 122) (.c (.p (.int .i64 1))), none⟩,
           ⟨(some 1), .mov (.t 123), none⟩])))
         (.seq (.rg [⟨(some 124), .mov (.t 17), none⟩,
           ⟨(some 125), .mov (.t 18), none⟩,
           ⟨(some 126), .bin .geq (.t 124) (.t 125), none⟩,
           ⟨(some 8), .mov (.t 126), none⟩])
         (.seq (.rg [⟨(some 127), .mov (.t 0), none⟩,
           ⟨(some 128), .mov (.t 14), none⟩,
           ⟨(some 129), .bin .add (.t 128) (.c (.p (.int .i64 1))), none⟩,
           ⟨(some 130), .mov (.t 2), none⟩,
           ⟨(some 131), .mov (.t 3), none⟩,
           ⟨(some 132), .callr 31 [(.t 127), (.t 129), (.t 130), (.t 131)], none⟩])
         (.rg [⟨(some 133), .mov (.t 14), none⟩,
           ⟨(some 2), .mov (.t 133), none⟩]))))))))))))))))))))))
def r31 : List DR := []
theorem c31_ok : Try.f31.body.bind (cCode Try.prog) = some c31 := by kernel_rfl
theorem r31_ok : cRes Try.prog Try.f31.results.toList = some r31 := by kernel_rfl

/-- math/bits.Len -/
def c32 : DC :=
  (.seq (.rg [⟨(some 2), .mov (.c (.p (.int .i64 0))), none⟩])
    (.seq (.cond (.c (.p (.bool false))) (.seq (.rg [⟨(some 3), .mov (.t 0), none⟩,
        ⟨(some 4), .cint .u32 (.t 3), none⟩,
        ⟨(some 5), .callr 43 [(.t 4)], none⟩,
        ⟨(some 2), .mov (.t 5), none⟩])
      .ret)
      .skip)
    (.seq (.rg [⟨(some 6), .mov (.t 0), none⟩,
      ⟨(some 7), .callr 44 [(.t 6)], none⟩,
      ⟨(some 2), .mov (.t 7), none⟩])
    .ret)))
def r32 : List DR := [.tmp 2]
theorem c32_ok : Try.f32.body.bind (cCode Try.prog) = some c32 := by kernel_rfl
theorem r32_ok : cRes Try.prog Try.f32.results.toList = some r32 := by kernel_rfl

/-- slices.pdqsortOrdered[string] -/
def c33 : DC :=
  (.seq (.rg [⟨(some 8), .mov (.c (.p (.bool true))), none⟩])
    (.seq (.rg [⟨(some 9), .mov (.c (.p (.bool true))), none⟩])
    (.block 0 (.loop (.block 1 (.seq (.rg [⟨(some 19), .mov (.t 2), none⟩,
         ⟨(some 20), .mov (.t 1), none⟩,
         ⟨(some 21), .bin .sub (.t 19) (.t 20), none⟩,
         ⟨(some 10), .mov (.t 21), none⟩])
       (.seq (.seq (.rg [⟨(some 22), .mov (.t 10), none⟩,
         ⟨(some 23), .bin .leq (.t 22) (.c (.p (.int .i64 12))), none⟩])
       (.cond (.t 23) (.seq (.rg [⟨(some 24), .mov (.t 0), none⟩,
           ⟨(some 25), .mov (.t 1), none⟩,
           ⟨(some 26), .mov (.t 2), none⟩,
           ⟨(some 27), .callr 45 [(.t 24), (.t 25), (.t 26)], none⟩])
         .ret)
         .skip))
       (.seq (.seq (.rg [⟨(some 28), .mov (.t 3), none⟩,
         ⟨(some 29), .bin .eql (.t 28) (.c (.p (.int .i64 0))), none⟩])
       (.cond (.t 29) (.seq (.rg [⟨(some 30), .mov (.t 0), none⟩,
           ⟨(some 31), .mov (.t 1), none⟩,
           ⟨(some 32), .mov (.t 2), none⟩,
           ⟨(some 33), .callr 46 [(.t 30), (.t 31), (.t 32)], none⟩])
         .ret)
         .skip))
       (.seq (.seq (.rg [⟨(some 34), .mov (.t 8), none⟩,
         ⟨(some 35), .un .not (.t 34), none⟩])
       (.cond (.t 35) (.seq (.rg [⟨(some 36), .mov (.t 0), none⟩,
           ⟨(some 37), .mov (.t 1), none⟩,
           ⟨(some 38), .mov (.t 2), none⟩,
           ⟨(some 39), .callr 47 [(.t 36), (.t 37), (.t 38)], none⟩])
         (.rg [⟨(some 40), .mov (.t 3), none⟩,
           ⟨(some 41), .bin .sub (.t 40) (.c (.p (.int .i64 1))), none⟩,
           ⟨(some 3), .mov (.t 41), none⟩]))
         .skip))
       (.seq (.rg [⟨(some 43), .mov (.t 0), none⟩,
         ⟨(some 44), .mov (.t 1), none⟩,
         ⟨(some 45), .mov (.t 2), none⟩,
         ⟨(some 46), .callr 48 [(.t 43), (.t 44), (.t 45)], none⟩,
         ⟨(some 42), .mov (.t 46), none⟩,
         ⟨(some 47), .ext (.t 42) 0, none⟩,
         ⟨(some 48), .ext (.t 42) 1, none⟩,
         ⟨(some 11), .mov (.t 47), none⟩,
         ⟨(some 12), .mov (.t 48), none⟩])
       (.seq (.seq (.rg [⟨(some 49), .mov (.t 12), none⟩,
         ⟨(some 50), .bin .eql (.t 49) (.c (.p (.int .i64 2))), none⟩])
       (.cond (.t 50) (.seq (.rg [⟨(some 51), .mov (.t 0), none⟩,
           ⟨(some 52), .mov (.t 1), none⟩,
           ⟨(some 53), .mov (.t 2), none⟩,
           ⟨(some 54), .callr 49 [(.t 51), (.t 52), (.t 53)], none⟩])
         (.seq (.rg [⟨(some 55), .mov (.t 2), none⟩,
           ⟨(some 56), .bin .sub (.t 55) (.c (.p (.int .i64 1))), none⟩,
           ⟨(some 57), .mov (.t 11), none⟩,
           ⟨(some 58), .mov (.t 1), none⟩,
           ⟨(some 59), .bin .sub (.t 57) (.t 58), none⟩,
           ⟨(some 60), .bin .sub (.t 56) (.t 59), none⟩,
           ⟨(some 11), .mov (.t 60), none⟩])
         (.rg [⟨(some 12), .mov (.c (.p (.int .i64 1))), none⟩])))
         .skip))
       (.seq (.seq (.rg [⟨(some 61), .mov (.t 8), none⟩,
         ⟨(some 62), .mov (.t 61), none⟩,
         ⟨(some 63), .mov (.t 9), (some (62, true))⟩,
         ⟨(some 64), .pick (.t 62) (.t 63) (.c (.p (.bool false))), none⟩,
         ⟨(some 65), .mov (.t 64), none⟩,
         ⟨(some 66), .mov (.t 12), (some (65, true))⟩,
         ⟨(some 67), .bin .eql (.t 66) (.c (.p (.int .i64 1))), (some (65, true))⟩,
         ⟨(some 68), .pick (.t 65) (.t 67) (.c (.p (.bool false))), none⟩])
       (.cond (.t 68) (.seq (.rg [⟨(some 69), .mov (.t 0), none⟩,
           ⟨(some 70), .mov (.t 1), none⟩,
           ⟨(some 71), .mov (.t 2), none⟩,
           ⟨(some 72), .callr 50 [(.t 69), (.t 70), (.t 71)], none⟩])
         (.cond (.t 72) .ret
           .skip))
         .skip))
       (.seq (.seq (.rgd [⟨⟨(some 73), .mov (.t 1), none⟩, 0, []⟩,
         ⟨⟨(some 74), .bin .gtr (.t 73) (.c (.p (.int .i64 0))), none⟩, 0, []⟩,
         ⟨⟨(some 75), .mov (.t 74), none⟩, 0, []⟩,
         ⟨⟨(some 76), .mov (.t 0), (some (75, true))⟩, 0, [0]⟩,
         ⟨⟨(some 77), .mov (.t 1), (some (75, true))⟩, 0, [0]⟩,
         ⟨⟨(some 78), .bin .sub (.t 77) (.c (.p (.int .i64 1))), (some (75, true))⟩, 0, [0]⟩,
         ⟨⟨(some 79), .iaddr 1 (.t 76) (.t 78), (some (75, true))⟩, 0, [0]⟩,
         ⟨⟨(some 80), .load false 1 (.t 79), (some (75, true))⟩, 0, [0]⟩,
         ⟨⟨(some 81), .mov (.t 0), (some (75, true))⟩, 0, [0]⟩,
         ⟨⟨(some 82), .mov (.t 11), (some (75, true))⟩, 0, [0]⟩,
         ⟨⟨(some 83), .iaddr 1 (.t 81) (.t 82), (some (75, true))⟩, 0, [0]⟩,
         ⟨⟨(some 84), .load false 1 (.t 83), (some (75, true))⟩, 0, [0]⟩,
         ⟨⟨(some 85), .call 51 [(.t 80), (.t 84)], (some (75, true))⟩, 0, []⟩,
         ⟨⟨(some 86), .un .not (.t 85), (some (75, true))⟩, 1, []⟩,
         ⟨⟨(some 87), .pick (.t 75) (.t 86) (.c (.p (.bool false))), none⟩, 1, []⟩])
       (.cond (.t 87) (.seq (.rg [⟨(some 88), .mov (.t 0), none⟩,
           ⟨(some 89), .mov (.t 1), none⟩,
           ⟨(some 90), .mov (.t 2), none⟩,
           ⟨(some 91), .mov (.t 11), none⟩,
           ⟨(some 92), .callr 52 [(.t 88), (.t 89), (.t 90), (.t 91)], none⟩,
           ⟨(some 13), .mov (.t 92), none⟩])
         (.seq (.rg [⟨(some 93), .mov (.t 13), none⟩,
           ⟨(some 1), .mov (.t 93), none⟩])
         (.exit 1)))
         .skip))
       (.seq (.rg [⟨(some 95), .mov (.t 0), none⟩,
         ⟨(some 96), .mov (.t 1), none⟩,
         ⟨(some 97), .mov (.t 2), none⟩,
         ⟨(some 98), .mov (.t 11), none⟩,
         ⟨(some 99), .callr 53 [(.t 95), (.t 96), (.t 97), (.t 98)], none⟩,
         ⟨(some 94), .mov (.t 99), none⟩,
         ⟨(some 100), .ext (.t 94) 0, none⟩,
         ⟨(some 101), .ext (.t 94) 1, none⟩,
         ⟨(some 14), .mov (.t 100), none⟩,
         ⟨(some 15), .mov (.t 101), none⟩])
       (.seq (.rg [⟨(some 102), .mov (.t 15), none⟩,
         ⟨(some 9), .mov (.t 102), none⟩])
       (.seq (.rg [⟨(some 103), .mov (.t 14), none⟩,
         ⟨(some 104), .mov (.t 1), none⟩,
         ⟨(some 105), .bin .sub (.t 103) (.t 104), none⟩,
         ⟨(some 106), .mov (.t 2), none⟩,
         ⟨(some 107), .mov (.t 14), none⟩,
         ⟨(some 108), .bin .sub (.t 106) (.t 107), none⟩,
         ⟨(some 16), .mov (.t 105), none⟩,
         ⟨(some 17), .mov (.t 108), none⟩])
       (.seq (.rg [⟨(some 109), .mov (.t 10), none⟩,
         ⟨(some 110), .bin .quo (.t 109) (.c (.p (.int .i64 8))), none⟩,
         ⟨(some 18), .mov (.t 110), none⟩])
       (.seq (.rg [⟨(some 111), .mov (.t 16), none⟩,
         ⟨(some 112), .mov (.t 17), none⟩,
         ⟨(some 113), .bin .lss (.t 111) (.t 112), none⟩])
       (.cond (.t 113) (.seq (.rg [⟨(some 114), .mov (.t 16), none⟩,
           ⟨(some 115), .mov (.t 18), none⟩,
           ⟨(some 116), .bin .geq (.t 114) (.t 115), none⟩,
           ⟨(some 8), .mov (.t 116), none⟩])
         (.seq (.rg [⟨(some 117), .mov (.t 0), none⟩,
           ⟨(some 118), .mov (.t 1), none⟩,
           ⟨(some 119), .mov (.t 14), none⟩,
           ⟨(some 120), .mov (.t 3), none⟩,
           ⟨(some 121), .callr 33 [(.t 117), (.t 118), (.t 119), (.t 120)], none⟩])
         (.rg [⟨(some 122), .mov (.t 14), none⟩,
           ⟨(some 123), .bin .add (.t 122) (.c (.p (.int .i64 1))), none⟩,
           ⟨(some 1), .mov (.t 123), none⟩])))
         (.seq (.rg [⟨(some 124), .mov (.t 17), none⟩,
           ⟨(some 125), .mov (.t 18), none⟩,
           ⟨(some 126), .bin .geq (.t 124) (.t 125), none⟩,
           ⟨(some 8), .mov (.t 126), none⟩])
         (.seq (.rg [⟨(some 127), .mov (.t 0), none⟩,
           ⟨(some 128), .mov (.t 14), none⟩,
           ⟨(some 129), .bin .add (.t 128) (.c (.p (.int .i64 1))), none⟩,
           ⟨(some 130), .mov (.t 2), none⟩,
           ⟨(some 131), .mov (.t 3), none⟩,
           ⟨(some 132), .callr 33 [(.t 127), (.t 129), (.t 130), (.t 131)], none⟩])
         (.rg [⟨(some 133), .mov (.t 14), none⟩,
           ⟨(some 2), .mov (.t 133), none⟩]))))))))))))))))))))))
def r33 : List DR := []
theorem c33_ok : Try.f33.body.bind (cCode Try.prog) = some c33 := by kernel_rfl
theorem r33_ok : cRes Try.prog Try.f33.results.toList = some r33 := by kernel_rfl

/-- slices.insertionSortOrdered[int] -/
def c34 : DC :=
  (.seq (.rg [⟨(some 8), .mov (.t 1), none⟩,
      ⟨(some 9), .bin .add (.t 8) (.c (.p (.int .i64 1))), none⟩,
      ⟨(some 6), .mov (.t 9), none⟩])
    (.block 0 (.loop (.seq (.seq (.rg [⟨(some 10), .mov (.t 6), none⟩,
        ⟨(some 11), .mov (.t 2), none⟩,
        ⟨(some 12), .bin .lss (.t 10) (.t 11), none⟩])
      (.cond (.t 12) .skip
        (.exit 0)))
      (.seq (.block 1 (.seq (.rg [⟨(some 15), .mov (.t 6), none⟩,
         ⟨(some 7), .mov (.t 15), none⟩])
       (.block 2 (.loop (.seq (.seq (.rgd [⟨⟨(some 16), .mov (.t 7), none⟩, 0, []⟩,
           ⟨⟨(some 17), .mov (.t 1), none⟩, 0, []⟩,
           ⟨⟨(some 18), .bin .gtr (.t 16) (.t 17), none⟩, 0, []⟩,
           ⟨⟨(some 19), .mov (.t 18), none⟩, 0, []⟩,
           ⟨⟨(some 20), .mov (.t 0), (some (19, true))⟩, 0, [0]⟩,
           ⟨⟨(some 21), .mov (.t 7), (some (19, true))⟩, 0, [0]⟩,
           ⟨⟨(some 22), .iaddr 1 (.t 20) (.t 21), (some (19, true))⟩, 0, [0]⟩,
           ⟨⟨(some 23), .load false 1 (.t 22), (some (19, true))⟩, 0, [0]⟩,
           ⟨⟨(some 24), .mov (.t 0), (some (19, true))⟩, 0, [0]⟩,
           ⟨⟨(some 25), .mov (.t 7), (some (19, true))⟩, 0, [0]⟩,
           ⟨⟨(some 26), .bin .sub (.t 25) (.c (.p (.int .i64 1))), (some (19, true))⟩, 0, [0]⟩,
           ⟨⟨(some 27), .iaddr 1 (.t 24) (.t 26), (some (19, true))⟩, 0, [0]⟩,
           ⟨⟨(some 28), .load false 1 (.t 27), (some (19, true))⟩, 0, [0]⟩,
           ⟨⟨(some 29), .call 40 [(.t 23), (.t 28)], (some (19, true))⟩, 0, []⟩,
           ⟨⟨(some 30), .pick (.t 19) (.t 29) (.c (.p (.bool false))), none⟩, 1, []⟩])
         (.cond (.t 30) .skip
           (.exit 2)))
         (.seq (.block 3 (.rgd [⟨⟨(some 33), .mov (.t 0), none⟩, 0, [0]⟩,
            ⟨⟨(some 34), .mov (.t 7), none⟩, 0, [0]⟩,
            ⟨⟨(some 35), .mov (.t 0), none⟩, 0, [0]⟩,
            ⟨⟨(some 36), .mov (.t 7), none⟩, 0, [0]⟩,
            ⟨⟨(some 37), .bin .sub (.t 36) (.c (.p (.int .i64 1))), none⟩, 0, [0]⟩,
            ⟨⟨(some 38), .mov (.t 0), none⟩, 0, [0]⟩,
            ⟨⟨(some 39), .mov (.t 7), none⟩, 0, [0]⟩,
            ⟨⟨(some 40), .bin .sub (.t 39) (.c (.p (.int .i64 1))), none⟩, 0, [0]⟩,
            ⟨⟨(some 41), .iaddr 1 (.t 38) (.t 40), none⟩, 0, [0]⟩,
            ⟨⟨(some 42), .load false 1 (.t 41), none⟩, 0, [0]⟩,
            ⟨⟨(some 43), .mov (.t 0), none⟩, 0, [0]⟩,
            ⟨⟨(some 44), .mov (.t 7), none⟩, 0, [0]⟩,
            ⟨⟨(some 45), .iaddr 1 (.t 43) (.t 44), none⟩, 0, [0]⟩,
            ⟨⟨(some 46), .load false 1 (.t 45), none⟩, 0, [0]⟩,
            ⟨⟨(some 47), .iaddr 1 (.t 33) (.t 34), none⟩, 0, [0]⟩,
            ⟨⟨none, .store 1 (.t 47) (.t 42), none⟩, 0, []⟩,
            ⟨⟨(some 48), .iaddr 1 (.t 35) (.t 37), none⟩, 1, [1]⟩,
            ⟨⟨none, .store 1 (.t 48) (.t 46), none⟩, 1, []⟩]))
         (.rg [⟨(some 31), .mov (.t 7), none⟩,
           ⟨(some 32), .bin .sub (.t 31) (.c (.p (.int .i64 1))), none⟩,
           ⟨(some 7), .mov (.t 32), none⟩])))))))
      (.rg [⟨(some 13), .mov (.t 6), none⟩,
        ⟨(some 14), .bin .add (.t 13) (.c (.p (.int .i64 1))), none⟩,
        ⟨(some 6), .mov (.t 14), none⟩]))))))
def r34 : List DR := []
theorem c34_ok : Try.f34.body.bind (cCode Try.prog) = some c34 := by kernel_rfl
theorem r34_ok : cRes Try.prog Try.f34.results.toList = some r34 := by kernel_rfl

/-- math/bits.Len64 -/
def c44 : DC :=
  (.seq (.rg [⟨(some 2), .mov (.c (.p (.int .i64 0))), none⟩])
    (.seq (.seq (.rg [⟨(some 3), .mov (.t 0), none⟩,
      ⟨(some 4), .bin .geq (.t 3) (.c (.p (.int .u64 4294967296))), none⟩])
    (.cond (.t 4) (.seq (.rg [⟨(some 5), .mov (.t 0), none⟩,
        ⟨(some 6), .bin .shr (.t 5) (.c (.p (.int .u64 32))), none⟩,
        ⟨(some 0), .mov (.t 6), none⟩])
      (.rg [⟨(some 2), .mov (.c (.p (.int .i64 32))), none⟩]))
      .skip))
    (.seq (.seq (.rg [⟨(some 7), .mov (.t 0), none⟩,
      ⟨(some 8), .bin .geq (.t 7) (.c (.p (.int .u64 65536))), none⟩])
    (.cond (.t 8) (.seq (.rg [⟨(some 9), .mov (.t 0), none⟩,
        ⟨(some 10), .bin .shr (.t 9) (.c (.p (.int .u64 16))), none⟩,
        ⟨(some 0), .mov (.t 10), none⟩])
      (.rg [⟨(some 11), .mov (.t 2), none⟩,
        ⟨(some 12), .bin .add (.t 11) (.c (.p (.int .i64 16))), none⟩,
        ⟨(some 2), .mov (.t 12), none⟩]))
      .skip))
    (.seq (.seq (.rg [⟨(some 13), .mov (.t 0), none⟩,
      ⟨(some 14), .bin .geq (.t 13) (.c (.p (.int .u64 256))), none⟩])
    (.cond (.t 14) (.seq (.rg [⟨(some 15), .mov (.t 0), none⟩,
        ⟨(some 16), .bin .shr (.t 15) (.c (.p (.int .u64 8))), none⟩,
        ⟨(some 0), .mov (.t 16), none⟩])
      (.rg [⟨(some 17), .mov (.t 2), none⟩,
        ⟨(some 18), .bin .add (.t 17) (.c (.p (.int .i64 8))), none⟩,
        ⟨(some 2), .mov (.t 18), none⟩]))
      .skip))
    (.seq (.rg [⟨(some 19), .mov (.t 2), none⟩,
      ⟨(some 20), .mov (.t 0), none⟩,
      ⟨(some 21), .cint .u8 (.t 20), none⟩,
      ⟨(some 22), .idxs (.c (.p (.string ⟨#[0, 1, 2, 2, 3, 3, 3, 3, 4, 4, 4, 4, 4, 4, 4, 4, 5, 5, 5, 5, 5, 5, 5, 5, 5, 5, 5, 5, 5, 5, 5, 5, 6, 6, 6, 6, 6, 6, 6, 6, 6, 6, 6, 6, 6, 6, 6, 6, 6, 6, 6, 6, 6, 6, 6, 6, 6, 6, 6, 6, 6, 6, 6, 6, 7, 7, 7, 7, 7, 7, 7, 7, 7, 7, 7, 7, 7, 7, 7, 7, 7, 7, 7, 7, 7, 7, 7, 7, 7, 7, 7, 7, 7, 7, 7, 7, 7, 7, 7, 7, 7, 7, 7, 7, 7, 7, 7, 7, 7, 7, 7, 7, 7, 7, 7, 7, 7, 7, 7, 7, 7, 7, 7, 7, 7, 7, 7, 7, 8, 8, 8, 8, 8, 8, 8, 8, 8, 8, 8, 8, 8, 8, 8, 8, 8, 8, 8, 8, 8, 8, 8, 8, 8, 8, 8, 8, 8, 8, 8, 8, 8, 8, 8, 8, 8, 8, 8, 8, 8, 8, 8, 8, 8, 8, 8, 8, 8, 8, 8, 8, 8, 8, 8, 8, 8, 8, 8, 8, 8, 8, 8, 8, 8, 8, 8, 8, 8, 8, 8, 8, 8, 8, 8, 8, 8, 8, 8, 8, 8, 8, 8, 8, 8, 8, 8, 8, 8, 8, 8, 8, 8, 8, 8, 8, 8, 8, 8, 8, 8, 8, 8, 8, 8, 8, 8, 8, 8, 8, 8, 8, 8, 8, 8, 8, 8, 8, 8, 8, 8, 8, 8, 8, 8, 8, 8, 8]⟩))) (.t 21), none⟩,
      ⟨(some 23), .cint .i64 (.t 22), none⟩,
      ⟨(some 24), .bin .add (.t 19) (.t 23), none⟩,
      ⟨(some 2), .mov (.t 24), none⟩])
    .ret)))))
def r44 : List DR := [.tmp 2]
theorem c44_ok : Try.f44.body.bind (cCode Try.prog) = some c44 := by kernel_rfl
theorem r44_ok : cRes Try.prog Try.f44.results.toList = some r44 := by kernel_rfl

/-- slices.insertionSortOrdered[string] -/
def c45 : DC :=
  (.seq (.rg [⟨(some 8), .mov (.t 1), none⟩,
      ⟨(some 9), .bin .add (.t 8) (.c (.p (.int .i64 1))), none⟩,
      ⟨(some 6), .mov (.t 9), none⟩])
    (.block 0 (.loop (.seq (.seq (.rg [⟨(some 10), .mov (.t 6), none⟩,
        ⟨(some 11), .mov (.t 2), none⟩,
        ⟨(some 12), .bin .lss (.t 10) (.t 11), none⟩])
      (.cond (.t 12) .skip
        (.exit 0)))
      (.seq (.block 1 (.seq (.rg [⟨(some 15), .mov (.t 6), none⟩,
         ⟨(some 7), .mov (.t 15), none⟩])
       (.block 2 (.loop (.seq (.seq (.rgd [⟨⟨(some 16), .mov (.t 7), none⟩, 0, []⟩,
           ⟨⟨(some 17), .mov (.t 1), none⟩, 0, []⟩,
           ⟨⟨(some 18), .bin .gtr (.t 16) (.t 17), none⟩, 0, []⟩,
           ⟨⟨(some 19), .mov (.t 18), none⟩, 0, []⟩,
           ⟨⟨(some 20), .mov (.t 0), (some (19, true))⟩, 0, [0]⟩,
           ⟨⟨(some 21), .mov (.t 7), (some (19, true))⟩, 0, [0]⟩,
           ⟨⟨(some 22), .iaddr 1 (.t 20) (.t 21), (some (19, true))⟩, 0, [0]⟩,
           ⟨⟨(some 23), .load false 1 (.t 22), (some (19, true))⟩, 0, [0]⟩,
           ⟨⟨(some 24), .mov (.t 0), (some (19, true))⟩, 0, [0]⟩,
           ⟨⟨(some 25), .mov (.t 7), (some (19, true))⟩, 0, [0]⟩,
           ⟨⟨(some 26), .bin .sub (.t 25) (.c (.p (.int .i64 1))), (some (19, true))⟩, 0, [0]⟩,
           ⟨⟨(some 27), .iaddr 1 (.t 24) (.t 26), (some (19, true))⟩, 0, [0]⟩,
           ⟨⟨(some 28), .load false 1 (.t 27), (some (19, true))⟩, 0, [0]⟩,
           ⟨⟨(some 29), .call 51 [(.t 23), (.t 28)], (some (19, true))⟩, 0, []⟩,
           ⟨⟨(some 30), .pick (.t 19) (.t 29) (.c (.p (.bool false))), none⟩, 1, []⟩])
         (.cond (.t 30) .skip
           (.exit 2)))
         (.seq (.block 3 (.rgd [⟨⟨(some 33), .mov (.t 0), none⟩, 0, [0]⟩,
            ⟨⟨(some 34), .mov (.t 7), none⟩, 0, [0]⟩,
            ⟨⟨(some 35), .mov (.t 0), none⟩, 0, [0]⟩,
            ⟨⟨(some 36), .mov (.t 7), none⟩, 0, [0]⟩,
            ⟨⟨(some 37), .bin .sub (.t 36) (.c (.p (.int .i64 1))), none⟩, 0, [0]⟩,
            ⟨⟨(some 38), .mov (.t 0), none⟩, 0, [0]⟩,
            ⟨⟨(some 39), .mov (.t 7), none⟩, 0, [0]⟩,
            ⟨⟨(some 40), .bin .sub (.t 39) (.c (.p (.int .i64 1))), none⟩, 0, [0]⟩,
            ⟨⟨(some 41), .iaddr 1 (.t 38) (.t 40), none⟩, 0, [0]⟩,
            ⟨⟨(some 42), .load false 1 (.t 41), none⟩, 0, [0]⟩,
            ⟨⟨(some 43), .mov (.t 0), none⟩, 0, [0]⟩,
            ⟨⟨(some 44), .mov (.t 7), none⟩, 0, [0]⟩,
            ⟨⟨(some 45), .iaddr 1 (.t 43) (.t 44), none⟩, 0, [0]⟩,
            ⟨⟨(some 46), .load false 1 (.t 45), none⟩, 0, [0]⟩,
            ⟨⟨(some 47), .iaddr 1 (.t 33) (.t 34), none⟩, 0, [0]⟩,
            ⟨⟨none, .store 1 (.t 47) (.t 42), none⟩, 0, []⟩,
            ⟨⟨(some 48), .iaddr 1 (.t 35) (.t 37), none⟩, 1, [1]⟩,
            ⟨⟨none, .store 1 (.t 48) (.t 46), none⟩, 1, []⟩]))
         (.rg [⟨(some 31), .mov (.t 7), none⟩,
           ⟨(some 32), .bin .sub (.t 31) (.c (.p (.int .i64 1))), none⟩,
           ⟨(some 7), .mov (.t 32), none⟩])))))))
      (.rg [⟨(some 13), .mov (.t 6), none⟩,
        ⟨(some 14), .bin .add (.t 13) (.c (.p (.int .i64 1))), none⟩,
        ⟨(some 6), .mov (.t 14), none⟩]))))))
def r45 : List DR := []
theorem c45_ok : Try.f45.body.bind (cCode Try.prog) = some c45 := by kernel_rfl
theorem r45_ok : cRes Try.prog Try.f45.results.toList = some r45 := by kernel_rfl

/-- (given.example/pub-assaymark/pub/miniogo/pkg/set.zzInts).ZzPut -/
def c85 : DC :=
  (.seq (.rg [⟨(some 2), .box (.t 0), none⟩,
      ⟨(some 3), .box (.t 1), none⟩])
    (.rg [⟨(some 4), .load false 1 (.t 3), none⟩,
      ⟨(some 5), .mkf (.func 87) [] [(.t 2), (.t 3)], none⟩,
      ⟨(some 6), .callr 86 [(.t 4), (.t 5)], none⟩]))
def r85 : List DR := []
theorem c85_ok : Try.f85.body.bind (cCode Try.prog) = some c85 := by kernel_rfl
theorem r85_ok : cRes Try.prog Try.f85.results.toList = some r85 := by kernel_rfl

/-- (*given.example/pub-assaymark/pub/zzjson.Writer).List -/
def c86 : DC :=
  (.rg [⟨(some 4), .mov (.t 0), none⟩,
      ⟨(some 5), .mov (.t 1), none⟩,
      ⟨(some 6), .callr 90 [(.t 4), (.c (.p (.int .u8 91))), (.c (.p (.int .u8 93))), (.t 5)], none⟩])
def r86 : List DR := []
theorem c86_ok : Try.f86.body.bind (cCode Try.prog) = some c86 := by kernel_rfl
theorem r86_ok : cRes Try.prog Try.f86.results.toList = some r86 := by kernel_rfl

/-- (given.example/pub-assaymark/pub/miniogo/pkg/set.zzInts).ZzPut$1 -/
def c87 : DC :=
  (.seq (.rg [⟨(some 4), .load false 1 (.t 0), none⟩,
      ⟨(some 5), .lenl (.t 4), none⟩,
      ⟨(some 6), .mov (.c (.p (.int .i64 0))), none⟩])
    (.block 0 (.loop (.seq (.rg [⟨(some 7), .bin .lss (.t 6) (.t 5), none⟩])
      (.seq (.cond (.t 7) .skip
        (.exit 0))
      (.seq (.block 1 (.seq (.rg [⟨(some 8), .iaddr 1 (.t 4) (.t 6), none⟩,
         ⟨(some 9), .load false 1 (.t 8), none⟩,
         ⟨(some 3), .mov (.t 9), none⟩])
       (.seq (.rg [⟨(some 10), .load false 1 (.t 1), none⟩,
         ⟨(some 11), .callr 88 [(.t 10)], none⟩])
       (.rg [⟨(some 12), .load false 1 (.t 1), none⟩,
         ⟨(some 13), .mov (.t 3), none⟩,
         ⟨(some 14), .callr 89 [(.t 12), (.t 13)], none⟩]))))
      (.rg [⟨(some 15), .bin .add (.t 6) (.c (.p (.int .i64 1))), none⟩,
        ⟨(some 6), .mov (.t 15), none⟩])))))))
def r87 : List DR := []
theorem c87_ok : Try.f87.body.bind (cCode Try.prog) = some c87 := by kernel_rfl
theorem r87_ok : cRes Try.prog Try.f87.results.toList = some r87 := by kernel_rfl

/-- (*given.example/pub-assaymark/pub/zzjson.Writer).within -/
def c90 : DC :=
  (.seq (.rg [⟨(some 8), .mov (.t 0), none⟩,
      ⟨(some 9), .mov (.t 0), none⟩,
      ⟨(some 10), .nilchk .ptr (.t 9), none⟩,
      ⟨(some 11), .faddr false 1 1 (.t 10), none⟩,
      ⟨(some 12), .load false 1 (.t 11), none⟩,
      ⟨(some 13), .mov (.t 1), none⟩,
      ⟨(some 14), .lit 1 [(.t 13)], none⟩,
      ⟨(some 15), .app 1 1 (.t 12) (.t 14), none⟩,
      ⟨(some 16), .nilchk .ptr (.t 8), none⟩,
      ⟨(some 17), .faddr false 1 1 (.t 16), none⟩,
      ⟨none, .store 1 (.t 17) (.t 15), none⟩])
    (.seq (.rg [⟨(some 18), .mov (.t 0), none⟩,
      ⟨(some 19), .nilchk .ptr (.t 18), none⟩,
      ⟨(some 20), .faddr false 2 1 (.t 19), none⟩,
      ⟨none, .store 1 (.t 20) (.c (.p (.bool false))), none⟩])
    (.seq (.rg [⟨(some 21), .mov (.t 3), none⟩,
      ⟨(some 22), .callv true (.t 21) [], none⟩])
    (.seq (.rg [⟨(some 23), .mov (.t 0), none⟩,
      ⟨(some 24), .mov (.t 0), none⟩,
      ⟨(some 25), .nilchk .ptr (.t 24), none⟩,
      ⟨(some 26), .faddr false 1 1 (.t 25), none⟩,
      ⟨(some 27), .load false 1 (.t 26), none⟩,
      ⟨(some 28), .mov (.t 2), none⟩,
      ⟨(some 29), .lit 1 [(.t 28)], none⟩,
      ⟨(some 30), .app 1 1 (.t 27) (.t 29), none⟩,
      ⟨(some 31), .nilchk .ptr (.t 23), none⟩,
      ⟨(some 32), .faddr false 1 1 (.t 31), none⟩,
      ⟨none, .store 1 (.t 32) (.t 30), none⟩])
    (.rg [⟨(some 33), .mov (.t 0), none⟩,
      ⟨(some 34), .nilchk .ptr (.t 33), none⟩,
      ⟨(some 35), .faddr false 2 1 (.t 34), none⟩,
      ⟨none, .store 1 (.t 35) (.c (.p (.bool true))), none⟩])))))
def r90 : List DR := []
theorem c90_ok : Try.f90.body.bind (cCode Try.prog) = some c90 := by kernel_rfl
theorem r90_ok : cRes Try.prog Try.f90.results.toList = some r90 := by kernel_rfl

/-- (given.example/pub-assaymark/pub/miniogo/pkg/set.zzStrings).ZzPut -/
def c94 : DC :=
  (.rg [⟨(some 4), .mov (.t 1), none⟩,
      ⟨(some 5), .mov (.t 0), none⟩,
      ⟨(some 6), .callr 95 [(.t 4), (.t 5)], none⟩])
def r94 : List DR := []
theorem c94_ok : Try.f94.body.bind (cCode Try.prog) = some c94 := by kernel_rfl
theorem r94_ok : cRes Try.prog Try.f94.results.toList = some r94 := by kernel_rfl

/-- (*given.example/pub-assaymark/pub/zzjson.Writer).Strs -/
def c95 : DC :=
  (.seq (.rg [⟨(some 2), .box (.t 0), none⟩,
      ⟨(some 3), .box (.t 1), none⟩])
    (.seq (.seq (.rg [⟨(some 4), .load false 1 (.t 3), none⟩,
      ⟨(some 5), .eqn false .sl (.t 4), none⟩])
    (.cond (.t 5) (.seq (.rg [⟨(some 6), .load false 1 (.t 2), none⟩,
        ⟨(some 7), .callr 96 [(.t 6)], none⟩])
      .ret)
      .skip))
    (.rg [⟨(some 8), .load false 1 (.t 2), none⟩,
      ⟨(some 9), .mkf (.func 97) [] [(.t 3), (.t 2)], none⟩,
      ⟨(some 10), .callr 86 [(.t 8), (.t 9)], none⟩])))
def r95 : List DR := []
theorem c95_ok : Try.f95.body.bind (cCode Try.prog) = some c95 := by kernel_rfl
theorem r95_ok : cRes Try.prog Try.f95.results.toList = some r95 := by kernel_rfl

/-- (*given.example/pub-assaymark/pub/zzjson.Writer).Strs$1 -/
def c97 : DC :=
  (.seq (.rg [⟨(some 4), .load false 1 (.t 0), none⟩,
      ⟨(some 5), .lenl (.t 4), none⟩,
      ⟨(some 6), .mov (.c (.p (.int .i64 0))), none⟩])
    (.block 0 (.loop (.seq (.rg [⟨(some 7), .bin .lss (.t 6) (.t 5), none⟩])
      (.seq (.cond (.t 7) .skip
        (.exit 0))
      (.seq (.block 1 (.seq (.rg [⟨(some 8), .iaddr 1 (.t 4) (.t 6), none⟩,
         ⟨(some 9), .load false 1 (.t 8), none⟩,
         ⟨(some 3), .mov (.t 9), none⟩])
       (.seq (.rg [⟨(some 10), .load false 1 (.t 1), none⟩,
         ⟨(some 11), .callr 88 [(.t 10)], none⟩])
       (.rg [⟨(some 12), .load false 1 (.t 1), none⟩,
         ⟨(some 13), .mov (.t 3), none⟩,
         ⟨(some 14), .callr 98 [(.t 12), (.t 13)], none⟩]))))
      (.rg [⟨(some 15), .bin .add (.t 6) (.c (.p (.int .i64 1))), none⟩,
        ⟨(some 6), .mov (.t 15), none⟩])))))))
def r97 : List DR := []
theorem c97_ok : Try.f97.body.bind (cCode Try.prog) = some c97 := by kernel_rfl
theorem r97_ok : cRes Try.prog Try.f97.results.toList = some r97 := by kernel_rfl

end Go.Proofs.Ytobakgjigkgmoaa
