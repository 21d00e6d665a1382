/- The codes of the law FnPolValid, and of what it calls. -/
import Derived.Test.YthbcdfjobenocaaDenX
import Derived.Test.YthbcdfjobenocaaProg
set_option linter.unusedVariables false
set_option linter.unusedSimpArgs false
set_option maxRecDepth 100000
namespace Go.Proofs.Ythbcdfjobenocaa
open Go Go.Den Go.Proofs
/-- given.example/pub-assaymark/laws.FnPolValid -/
def c3 : DC :=
  (.seq (.rg [⟨(some 4), .mov (.c (.p (.bool false))), none⟩])
    (.seq (.seq (.rg [⟨(some 7), .mov (.t 1), none⟩,
      ⟨(some 8), .lens (.t 7), none⟩,
      ⟨(some 9), .bin .gtr (.t 8) (.c (.p (.int .i64 2147483647))), none⟩])
    (.cond (.t 9) (.seq (.rg [⟨(some 4), .mov (.c (.p (.bool true))), none⟩])
      .ret)
      .skip))
    (.seq (.rg [⟨(some 5), .mov (.c (.p (.bool false))), none⟩])
    (.seq (.seq (.rg [⟨(some 10), .mov (.c (.p (.int .i64 0))), none⟩])
    (.block 0 (.loop (.seq (.rg [⟨(some 11), .bin .lss (.t 10) (.c (.p (.int .i64 4))), none⟩])
      (.seq (.cond (.t 11) .skip
        (.exit 0))
      (.seq (.block 1 (.seq (.rg [⟨(some 12), .mov (.t 10), none⟩,
         ⟨(some 6), .mov (.t 12), none⟩])
       (.rg [⟨(some 13), .mov (.t 5), none⟩,
         ⟨(some 14), .mov (.t 13), none⟩,
         ⟨(some 15), .mov (.t 1), (some (14, false))⟩,
         ⟨(some 16), .mov (.t 6), (some (14, false))⟩,
         ⟨(some 17), .call 9 [(.t 16)], (some (14, false))⟩,
         ⟨(some 18), .bin .eql (.t 15) (.t 17), (some (14, false))⟩,
         ⟨(some 19), .pick (.t 14) (.c (.p (.bool true))) (.t 18), none⟩,
         ⟨(some 5), .mov (.t 19), none⟩])))
      (.rg [⟨(some 20), .bin .add (.t 10) (.c (.p (.int .i64 1))), none⟩,
        ⟨(some 10), .mov (.t 20), none⟩])))))))
    (.seq (.rg [⟨(some 21), .mov (.t 0), none⟩,
      ⟨(some 22), .cint .i64 (.t 21), none⟩,
      ⟨(some 23), .call 9 [(.t 22)], none⟩,
      ⟨(some 24), .call 10 [(.t 23)], none⟩,
      ⟨(some 25), .mov (.t 24), none⟩,
      ⟨(some 26), .mov (.t 1), (some (25, true))⟩,
      ⟨(some 27), .call 10 [(.t 26)], (some (25, true))⟩,
      ⟨(some 28), .mov (.t 5), (some (25, true))⟩,
      ⟨(some 29), .eqb false (.t 27) (.t 28), (some (25, true))⟩,
      ⟨(some 30), .pick (.t 25) (.t 29) (.c (.p (.bool false))), none⟩,
      ⟨(some 4), .mov (.t 30), none⟩])
    .ret)))))
def r3 : List DR := [.tmp 4]
theorem c3_ok : Try.f3.body.bind (cCode Try.prog) = some c3 := by kernel_rfl
theorem r3_ok : cRes Try.prog Try.f3.results.toList = some r3 := by kernel_rfl

/-- given.example/pub-assaymark/spec.PolWord -/
def c9 : DC :=
  (.seq (.rg [⟨(some 2), .mov (.c (.p (.string ⟨#[]⟩))), none⟩])
    (.seq (.rg [⟨(some 3), .bld [.p (.string ⟨#[]⟩), .p (.string ⟨#[]⟩), .p (.string ⟨#[]⟩), .p (.string ⟨#[]⟩)] [(0, 1, (.c (.p (.string ⟨#[110, 111, 110, 101]⟩)))), (1, 1, (.c (.p (.string ⟨#[114, 101, 97, 100, 111, 110, 108, 121]⟩)))), (2, 1, (.c (.p (.string ⟨#[119, 114, 105, 116, 101, 111, 110, 108, 121]⟩)))), (3, 1, (.c (.p (.string ⟨#[114, 101, 97, 100, 119, 114, 105, 116, 101]⟩))))], none⟩,
      ⟨(some 4), .mov (.t 0), none⟩,
      ⟨(some 5), .bin .and (.t 4) (.c (.p (.int .i64 3))), none⟩,
      ⟨(some 6), .idxa 4 1 false (.t 3) (.t 5), none⟩,
      ⟨(some 2), .mov (.t 6), none⟩])
    .ret))
def r9 : List DR := [.tmp 2]
theorem c9_ok : Try.f9.body.bind (cCode Try.prog) = some c9 := by kernel_rfl
theorem r9_ok : cRes Try.prog Try.f9.results.toList = some r9 := by kernel_rfl

/-- given.example/pub-assaymark/impl.PolValid -/
def c10 : DC :=
  (.seq (.rg [⟨(some 2), .mov (.c (.p (.bool false))), none⟩])
    (.seq (.rg [⟨(some 3), .mov (.t 0), none⟩,
      ⟨(some 4), .call 30 [(.t 3)], none⟩,
      ⟨(some 2), .mov (.t 4), none⟩])
    .ret))
def r10 : List DR := [.tmp 2]
theorem c10_ok : Try.f10.body.bind (cCode Try.prog) = some c10 := by kernel_rfl
theorem r10_ok : cRes Try.prog Try.f10.results.toList = some r10 := by kernel_rfl

/-- (given.example/pub-assaymark/pub/miniogo/pkg/policy.BucketPolicy).IsValidBucketPolicy -/
def c30 : DC :=
  (.seq (.rg [⟨(some 2), .mov (.c (.p (.bool false))), none⟩])
    (.seq (.seq (.rg [⟨(some 3), .mov (.t 0), none⟩])
    (.block 0 (.seq (.seq (.rg [⟨(some 5), .bin .eql (.t 3) (.c (.p (.string ⟨#[110, 111, 110, 101]⟩))), none⟩,
       ⟨(some 4), .mov (.t 5), none⟩])
     (.cond (.t 4) .skip
       (.seq (.rg [⟨(some 6), .bin .eql (.t 3) (.c (.p (.string ⟨#[114, 101, 97, 100, 111, 110, 108, 121]⟩))), none⟩,
         ⟨(some 4), .mov (.t 6), none⟩])
       (.cond (.t 4) .skip
         (.seq (.rg [⟨(some 7), .bin .eql (.t 3) (.c (.p (.string ⟨#[114, 101, 97, 100, 119, 114, 105, 116, 101]⟩))), none⟩,
           ⟨(some 4), .mov (.t 7), none⟩])
         (.cond (.t 4) .skip
           (.rg [⟨(some 8), .bin .eql (.t 3) (.c (.p (.string ⟨#[119, 114, 105, 116, 101, 111, 110, 108, 121]⟩))), none⟩,
             ⟨(some 4), .mov (.t 8), none⟩])))))))
     (.cond (.t 4) (.seq (.rg [⟨(some 2), .mov (.c (.p (.bool true))), none⟩])
       .ret)
       .skip))))
    (.seq (.rg [⟨(some 2), .mov (.c (.p (.bool false))), none⟩])
    .ret)))
def r30 : List DR := [.tmp 2]
theorem c30_ok : Try.f30.body.bind (cCode Try.prog) = some c30 := by kernel_rfl
theorem r30_ok : cRes Try.prog Try.f30.results.toList = some r30 := by kernel_rfl

end Go.Proofs.Ythbcdfjobenocaa
