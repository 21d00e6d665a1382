/- The law FnSumKind: its code, parted. -/
import Derived.Test.YtbbafeocmchlnaaCodK
set_option linter.unusedVariables false
set_option linter.unusedSimpArgs false
set_option maxRecDepth 100000
namespace Go.Proofs.Ytbbafeocmchlnaa
open Go Go.Den Go.Proofs

/-- What follows once the kind is known. -/
def c11b : DC :=
    (.seq (.rg [⟨(some 10), .mov (.t 5), none⟩,
      ⟨(some 11), .mov (.t 1), none⟩,
      ⟨(some 12), .callr 41 [(.t 10), (.t 11)], none⟩,
      ⟨(some 6), .alloc 9 (.agg [.p (.string ⟨#[]⟩), .p (.string ⟨#[]⟩), .p (.string ⟨#[]⟩), .p (.int .i64 0), .p (.bool false), .p (.bool false), .p (.bool false), .p (.bool false), .p (.bool false)]), none⟩,
      ⟨none, .store 9 (.t 6) (.t 12), none⟩])
    (.seq (.seq (.rgd [⟨⟨(some 13), .faddr false 3 1 (.t 6), none⟩, 0, [0]⟩,
      ⟨⟨(some 14), .load false 1 (.t 13), none⟩, 0, [0]⟩,
      ⟨⟨(some 15), .mov (.t 5), none⟩, 0, [0]⟩,
      ⟨⟨(some 16), .call 42 [(.t 15)], none⟩, 0, [0]⟩,
      ⟨⟨(some 17), .bin .neq (.t 14) (.t 16), none⟩, 1, []⟩,
      ⟨⟨(some 18), .mov (.t 17), none⟩, 1, []⟩,
      ⟨⟨(some 19), .faddr false 5 1 (.t 6), (some (18, false))⟩, 1, [1]⟩,
      ⟨⟨(some 20), .load false 1 (.t 19), (some (18, false))⟩, 1, [1]⟩,
      ⟨⟨(some 21), .mov (.t 5), (some (18, false))⟩, 1, [1]⟩,
      ⟨⟨(some 22), .call 43 [(.t 21)], (some (18, false))⟩, 1, [1]⟩,
      ⟨⟨(some 23), .eqb true (.t 20) (.t 22), (some (18, false))⟩, 2, []⟩,
      ⟨⟨(some 24), .pick (.t 18) (.c (.p (.bool true))) (.t 23), none⟩, 2, []⟩,
      ⟨⟨(some 25), .mov (.t 24), none⟩, 2, []⟩,
      ⟨⟨(some 26), .faddr false 2 1 (.t 6), (some (25, false))⟩, 2, [2]⟩,
      ⟨⟨(some 27), .load false 1 (.t 26), (some (25, false))⟩, 2, [2]⟩,
      ⟨⟨(some 28), .faddr false 1 1 (.t 6), (some (25, false))⟩, 2, [2]⟩,
      ⟨⟨(some 29), .load false 1 (.t 28), (some (25, false))⟩, 2, [2]⟩,
      ⟨⟨(some 30), .call 44 [(.t 29)], (some (25, false))⟩, 2, [2]⟩,
      ⟨⟨(some 31), .bin .neq (.t 27) (.t 30), (some (25, false))⟩, 3, []⟩,
      ⟨⟨(some 32), .pick (.t 25) (.c (.p (.bool true))) (.t 31), none⟩, 3, []⟩,
      ⟨⟨(some 33), .mov (.t 32), none⟩, 3, []⟩,
      ⟨⟨(some 34), .faddr false 6 1 (.t 6), (some (33, false))⟩, 3, [3]⟩,
      ⟨⟨(some 35), .load false 1 (.t 34), (some (33, false))⟩, 3, [3]⟩,
      ⟨⟨(some 36), .un .not (.t 35), (some (33, false))⟩, 3, []⟩,
      ⟨⟨(some 37), .pick (.t 33) (.c (.p (.bool true))) (.t 36), none⟩, 3, []⟩,
      ⟨⟨(some 38), .mov (.t 37), none⟩, 3, []⟩,
      ⟨⟨(some 39), .faddr false 8 1 (.t 6), (some (38, false))⟩, 3, [3]⟩,
      ⟨⟨(some 40), .load false 1 (.t 39), (some (38, false))⟩, 3, [3]⟩,
      ⟨⟨(some 41), .un .not (.t 40), (some (38, false))⟩, 3, []⟩,
      ⟨⟨(some 42), .pick (.t 38) (.c (.p (.bool true))) (.t 41), none⟩, 3, []⟩])
    (.cond (.t 42) (.seq (.rg [⟨(some 4), .mov (.c (.p (.bool false))), none⟩])
      .ret)
      .skip))
    (.seq (.seq (.rg [⟨(some 43), .mov (.t 5), none⟩,
      ⟨(some 44), .bin .neq (.t 43) (.c (.p (.int .i64 4))), none⟩,
      ⟨(some 45), .mov (.t 44), none⟩,
      ⟨(some 46), .faddr false 7 1 (.t 6), (some (45, true))⟩,
      ⟨(some 47), .load false 1 (.t 46), (some (45, true))⟩,
      ⟨(some 48), .mov (.t 1), (some (45, true))⟩,
      ⟨(some 49), .eqb true (.t 47) (.t 48), (some (45, true))⟩,
      ⟨(some 50), .pick (.t 45) (.t 49) (.c (.p (.bool false))), none⟩,
      ⟨(some 51), .mov (.t 50), none⟩,
      ⟨(some 52), .mov (.t 5), (some (51, true))⟩,
      ⟨(some 53), .callr 43 [(.t 52)], (some (51, true))⟩,
      ⟨(some 54), .pick (.t 51) (.t 53) (.c (.p (.bool false))), none⟩])
    (.cond (.t 54) (.seq (.rg [⟨(some 4), .mov (.c (.p (.bool false))), none⟩])
      .ret)
      .skip))
    (.seq (.seq (.rg [⟨(some 55), .mov (.t 5), none⟩,
      ⟨(some 56), .callr 45 [(.t 55)], none⟩,
      ⟨(some 57), .bin .eql (.t 56) (.c (.p (.string ⟨#[]⟩))), none⟩])
    (.cond (.t 57) (.seq (.rg [⟨(some 4), .mov (.c (.p (.bool true))), none⟩])
      .ret)
      .skip))
    (.seq (.rgd [⟨⟨(some 58), .faddr false 1 1 (.t 6), none⟩, 0, [0]⟩,
      ⟨⟨(some 59), .load false 1 (.t 58), none⟩, 0, [0]⟩,
      ⟨⟨(some 60), .mov (.t 5), none⟩, 0, [0]⟩,
      ⟨⟨(some 61), .call 46 [(.t 60)], none⟩, 0, [0]⟩,
      ⟨⟨(some 62), .bin .eql (.t 59) (.t 61), none⟩, 1, []⟩,
      ⟨⟨(some 63), .mov (.t 62), none⟩, 1, []⟩,
      ⟨⟨(some 64), .mov (.t 1), (some (63, true))⟩, 1, []⟩,
      ⟨⟨(some 65), .mov (.t 64), (some (63, true))⟩, 1, []⟩,
      ⟨⟨(some 66), .faddr false 0 1 (.t 6), (some (65, false))⟩, 1, [1]⟩,
      ⟨⟨(some 67), .load false 1 (.t 66), (some (65, false))⟩, 1, [1]⟩,
      ⟨⟨(some 68), .mov (.t 5), (some (65, false))⟩, 1, [1]⟩,
      ⟨⟨(some 69), .call 45 [(.t 68)], (some (65, false))⟩, 1, [1]⟩,
      ⟨⟨(some 70), .bin .eql (.t 67) (.t 69), (some (65, false))⟩, 2, []⟩,
      ⟨⟨(some 71), .mov (.t 70), (some (65, false))⟩, 2, []⟩,
      ⟨⟨(some 72), .faddr false 4 1 (.t 6), (some (71, true))⟩, 2, [2]⟩,
      ⟨⟨(some 73), .load false 1 (.t 72), (some (71, true))⟩, 2, [2]⟩,
      ⟨⟨(some 74), .mov (.t 5), (some (71, true))⟩, 2, [2]⟩,
      ⟨⟨(some 75), .bin .neq (.t 74) (.c (.p (.int .i64 4))), (some (71, true))⟩, 2, [2]⟩,
      ⟨⟨(some 76), .eqb false (.t 73) (.t 75), (some (71, true))⟩, 2, []⟩,
      ⟨⟨(some 77), .pick (.t 71) (.t 76) (.c (.p (.bool false))), (some (65, false))⟩, 2, []⟩,
      ⟨⟨(some 78), .pick (.t 65) (.c (.p (.bool true))) (.t 77), (some (63, true))⟩, 2, []⟩,
      ⟨⟨(some 79), .pick (.t 63) (.t 78) (.c (.p (.bool false))), none⟩, 2, []⟩,
      ⟨⟨(some 4), .mov (.t 79), none⟩, 2, []⟩])
    .ret)))))
theorem c11_eq : c11 = (.seq (.rg [⟨(some 4), .mov (.c (.p (.bool false))), none⟩])
    (.seq (.rg [⟨(some 7), .mov (.t 0), none⟩,
      ⟨(some 8), .bin .rem (.t 7) (.c (.p (.int .u8 10))), none⟩,
      ⟨(some 9), .cint .i64 (.t 8), none⟩,
      ⟨(some 5), .mov (.t 9), none⟩]) c11b)) := rfl

/-- The slots where the kind is known. -/
def st11 (n : Int) (b : Bool) (k : Int) : St := ⟨fr 80 [(0, .p (.int .u8 n)), (1, .p (.bool b)), (4, .p (.bool false)), (5, .p (.int .i64 k)), (7, .p (.int .u8 n)), (8, .p (.int .u8 k)), (9, .p (.int .i64 k))], []⟩
def Goal11 (b : Bool) (k : Int) : Prop := ∀ n : Int, VV Try.prog (fun _ => .any) [] c11b (st11 n b k) [] (RR [] r11 (.p (.bool true)) [])

end Go.Proofs.Ytbbafeocmchlnaa
