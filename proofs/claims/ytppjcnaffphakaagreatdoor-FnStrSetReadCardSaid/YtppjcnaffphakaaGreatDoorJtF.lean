/- JSON: texts are taken. -/
import Derived.Test.YtppjcnaffphakaaGreatDoorJtE
set_option linter.unusedVariables false
set_option linter.unusedSimpArgs false
set_option maxRecDepth 100000
set_option maxHeartbeats 4000000
namespace Go.Proofs.YtppjcnaffphakaaGreatDoor
open Go Go.Den Go.Proofs

def c148L0 : DC :=
  (.seq (.rg [⟨(some 51), .bin .lss (.t 50) (.t 49), none⟩])
    (.seq (.cond (.t 51) .skip
    (.exit 1))
    (.seq (.block 2 (.seq (.rg [⟨(some 52), .iaddr 5 (.t 48) (.t 50), none⟩,
                      ⟨(some 53), .load true 5 (.t 52), none⟩,
                      ⟨(some 9), .alloc 5 (.agg [.p (.int .u8 0), .p (.bool false), .p (.string ⟨#[]⟩), .p (.slice none 0 0), .p (.slice none 0 0)]), none⟩,
                      ⟨none, .store 5 (.t 9) (.t 53), none⟩])
    (.seq (.rg [⟨(some 55), .load true 5 (.t 9), none⟩,
                      ⟨(some 56), .callr 148 [(.t 55)], none⟩,
                      ⟨(some 54), .mov (.t 56), none⟩,
                      ⟨(some 57), .ext (.t 54) 0, none⟩,
                      ⟨(some 58), .ext (.t 54) 1, none⟩,
                      ⟨(some 10), .mov (.t 57), none⟩,
                      ⟨(some 11), .mov (.t 58), none⟩])
    (.rg [⟨(some 59), .mov (.t 6), none⟩,
                      ⟨(some 60), .mov (.t 10), none⟩,
                      ⟨(some 61), .lit 1 [(.t 60)], none⟩,
                      ⟨(some 62), .app 1 16 (.t 59) (.t 61), none⟩,
                      ⟨(some 63), .mov (.t 7), none⟩,
                      ⟨(some 64), .mov (.t 63), none⟩,
                      ⟨(some 65), .mov (.t 11), (some (64, true))⟩,
                      ⟨(some 66), .pick (.t 64) (.t 65) (.c (.p (.bool false))), none⟩,
                      ⟨(some 6), .mov (.t 62), none⟩,
                      ⟨(some 7), .mov (.t 66), none⟩]))))
    (.rg [⟨(some 67), .bin .add (.t 50) (.c (.p (.int .i64 1))), none⟩,
                     ⟨(some 50), .mov (.t 67), none⟩]))))
def c148L1 : DC :=
  (.seq (.rg [⟨(some 78), .bin .lss (.t 77) (.t 76), none⟩])
    (.seq (.cond (.t 78) .skip
    (.exit 3))
    (.seq (.block 4 (.seq (.rg [⟨(some 79), .mov (.t 77), none⟩,
         ⟨(some 80), .iaddr 5 (.t 75) (.t 77), none⟩,
         ⟨(some 81), .load true 5 (.t 80), none⟩,
         ⟨(some 15), .alloc 5 (.agg [.p (.int .u8 0), .p (.bool false), .p (.string ⟨#[]⟩), .p (.slice none 0 0), .p (.slice none 0 0)]), none⟩,
         ⟨(some 14), .mov (.t 79), none⟩,
         ⟨none, .store 5 (.t 15) (.t 81), none⟩])
    (.seq (.rg [⟨(some 83), .load true 5 (.t 15), none⟩,
         ⟨(some 84), .callr 148 [(.t 83)], none⟩,
         ⟨(some 82), .mov (.t 84), none⟩,
         ⟨(some 85), .ext (.t 82) 0, none⟩,
         ⟨(some 86), .ext (.t 82) 1, none⟩,
         ⟨(some 16), .mov (.t 85), none⟩,
         ⟨(some 17), .mov (.t 86), none⟩])
    (.rg [⟨(some 87), .mov (.t 12), none⟩,
         ⟨(some 88), .faddr false 4 1 (.t 1), none⟩,
         ⟨(some 89), .load false 1 (.t 88), none⟩,
         ⟨(some 90), .mov (.t 14), none⟩,
         ⟨(some 91), .iaddr 1 (.t 89) (.t 90), none⟩,
         ⟨(some 92), .load false 1 (.t 91), none⟩,
         ⟨(some 93), .mov (.t 16), none⟩,
         ⟨(some 94), .mov (.t 13), none⟩,
         ⟨(some 95), .mov (.t 94), none⟩,
         ⟨(some 96), .mov (.t 17), (some (95, true))⟩,
         ⟨(some 97), .pick (.t 95) (.t 96) (.c (.p (.bool false))), none⟩,
         ⟨(some 98), .stop, none⟩,
         ⟨(some 99), .ext (.t 98) 1, none⟩,
         ⟨none, .stop, none⟩,
         ⟨(some 13), .mov (.t 97), none⟩]))))
    (.rg [⟨(some 100), .bin .add (.t 77) (.c (.p (.int .i64 1))), none⟩,
        ⟨(some 77), .mov (.t 100), none⟩]))))
def c148L2 : DC :=
  (.seq (.rg [⟨(some 105), .bin .lss (.t 104) (.t 103), none⟩])
    (.seq (.cond (.t 105) .skip
    (.exit 5))
    (.seq (.block 6 (.seq (.rg [⟨(some 106), .iaddr 1 (.t 102) (.t 104), none⟩,
         ⟨(some 107), .load false 1 (.t 106), none⟩,
         ⟨(some 20), .mov (.t 107), none⟩])
    (.rg [⟨(some 108), .mov (.t 18), none⟩,
         ⟨(some 109), .mov (.t 20), none⟩,
         ⟨(some 110), .bin .add (.t 109) (.c (.p (.string ⟨#[58]⟩))), none⟩,
         ⟨(some 111), .mov (.t 12), none⟩,
         ⟨(some 112), .mov (.t 20), none⟩,
         ⟨(some 113), .look .str (.p (.string ⟨#[]⟩)) false (.t 111) (.t 112), none⟩,
         ⟨(some 114), .bin .add (.t 110) (.t 113), none⟩,
         ⟨(some 115), .lit 1 [(.t 114)], none⟩,
         ⟨(some 116), .app 1 16 (.t 108) (.t 115), none⟩,
         ⟨(some 18), .mov (.t 116), none⟩])))
    (.rg [⟨(some 117), .bin .add (.t 104) (.c (.p (.int .i64 1))), none⟩,
        ⟨(some 104), .mov (.t 117), none⟩]))))
theorem c148_cut : c148 =
  (.seq (.rg [⟨(some 1), .box (.t 0), none⟩,
      ⟨(some 2), .mov (.c (.p (.string ⟨#[]⟩))), none⟩,
      ⟨(some 3), .mov (.c (.p (.bool false))), none⟩])
    (.seq (.seq (.rg [⟨(some 21), .faddr false 0 1 (.t 1), none⟩,
      ⟨(some 22), .load false 1 (.t 21), none⟩])
    (.block 0 (.seq (.rg [⟨(some 24), .bin .eql (.t 22) (.c (.p (.int .u8 34))), none⟩,
       ⟨(some 23), .mov (.t 24), none⟩])
    (.cond (.t 23) (.seq (.rg [⟨(some 25), .faddr false 2 1 (.t 1), none⟩,
         ⟨(some 26), .load false 1 (.t 25), none⟩,
         ⟨(some 2), .mov (.t 26), none⟩,
         ⟨(some 3), .mov (.c (.p (.bool true))), none⟩])
    .ret)
    (.seq (.rg [⟨(some 28), .bin .eql (.t 22) (.c (.p (.int .u8 116))), none⟩,
         ⟨(some 27), .mov (.t 28), none⟩])
    (.cond (.t 27) (.seq (.rg [⟨(some 2), .mov (.c (.p (.string ⟨#[116, 114, 117, 101]⟩))), none⟩,
           ⟨(some 3), .mov (.c (.p (.bool true))), none⟩])
    .ret)
    (.seq (.rg [⟨(some 30), .bin .eql (.t 22) (.c (.p (.int .u8 102))), none⟩,
           ⟨(some 29), .mov (.t 30), none⟩])
    (.cond (.t 29) (.seq (.rg [⟨(some 2), .mov (.c (.p (.string ⟨#[102, 97, 108, 115, 101]⟩))), none⟩,
             ⟨(some 3), .mov (.c (.p (.bool true))), none⟩])
    .ret)
    (.seq (.rg [⟨(some 32), .bin .eql (.t 22) (.c (.p (.int .u8 110))), none⟩,
             ⟨(some 31), .mov (.t 32), none⟩])
    (.cond (.t 31) (.seq (.rg [⟨(some 2), .mov (.c (.p (.string ⟨#[60, 110, 105, 108, 62]⟩))), none⟩,
               ⟨(some 3), .mov (.c (.p (.bool true))), none⟩])
    .ret)
    (.seq (.rg [⟨(some 34), .bin .eql (.t 22) (.c (.p (.int .u8 48))), none⟩,
               ⟨(some 33), .mov (.t 34), none⟩])
    (.cond (.t 33) (.seq (.rg [⟨(some 36), .faddr false 2 1 (.t 1), none⟩,
                 ⟨(some 37), .load false 1 (.t 36), none⟩,
                 ⟨(some 38), .callr 149 [(.t 37), (.c (.p (.int .i64 64)))], none⟩,
                 ⟨(some 35), .mov (.t 38), none⟩,
                 ⟨(some 39), .ext (.t 35) 0, none⟩,
                 ⟨(some 40), .ext (.t 35) 1, none⟩,
                 ⟨(some 4), .mov (.t 39), none⟩,
                 ⟨(some 5), .mov (.t 40), none⟩])
    (.seq (.seq (.rg [⟨(some 41), .mov (.t 5), none⟩,
                 ⟨(some 42), .eqn true .iface (.t 41), none⟩])
    (.cond (.t 42) (.seq (.rg [⟨(some 2), .mov (.c (.p (.string ⟨#[]⟩))), none⟩,
                   ⟨(some 3), .mov (.c (.p (.bool false))), none⟩])
    .ret)
    .skip))
    (.seq (.rg [⟨(some 43), .mov (.t 4), none⟩,
                 ⟨(some 44), .callr 150 [(.t 43)], none⟩,
                 ⟨(some 2), .mov (.t 44), none⟩,
                 ⟨(some 3), .mov (.c (.p (.bool true))), none⟩])
    .ret)))
    (.seq (.rg [⟨(some 46), .bin .eql (.t 22) (.c (.p (.int .u8 91))), none⟩,
                 ⟨(some 45), .mov (.t 46), none⟩])
    (.cond (.t 45) (.seq (.rg [⟨(some 6), .mov (.c (.p (.slice none 0 0))), none⟩])
    (.seq (.rg [⟨(some 7), .mov (.c (.p (.bool true))), none⟩])
    (.seq (.seq (.rg [⟨(some 47), .faddr false 3 1 (.t 1), none⟩,
                   ⟨(some 48), .load false 1 (.t 47), none⟩,
                   ⟨(some 49), .lenl (.t 48), none⟩,
                   ⟨(some 50), .mov (.c (.p (.int .i64 0))), none⟩])
    (.block 1 (.loop c148L0)))
    (.seq (.rg [⟨(some 68), .mov (.t 6), none⟩,
                   ⟨(some 69), .callr 151 [(.t 68), (.c (.p (.string ⟨#[32]⟩)))], none⟩,
                   ⟨(some 70), .bin .add (.c (.p (.string ⟨#[91]⟩))) (.t 69), none⟩,
                   ⟨(some 71), .bin .add (.t 70) (.c (.p (.string ⟨#[93]⟩))), none⟩,
                   ⟨(some 72), .mov (.t 7), none⟩,
                   ⟨(some 2), .mov (.t 71), none⟩,
                   ⟨(some 3), .mov (.t 72), none⟩])
    .ret))))
    .skip))))))))))))))
    (.seq (.rg [⟨(some 73), .mkmap, none⟩,
      ⟨(some 12), .mov (.t 73), none⟩,
      ⟨(some 13), .mov (.c (.p (.bool true))), none⟩])
    (.seq (.seq (.rg [⟨(some 74), .faddr false 3 1 (.t 1), none⟩,
      ⟨(some 75), .load false 1 (.t 74), none⟩,
      ⟨(some 76), .lenl (.t 75), none⟩,
      ⟨(some 77), .mov (.c (.p (.int .i64 0))), none⟩])
    (.block 3 (.loop c148L1)))
    (.seq (.rg [⟨(some 18), .mov (.c (.p (.slice none 0 0))), none⟩])
    (.seq (.seq (.rg [⟨(some 101), .mov (.t 12), none⟩,
      ⟨(some 102), .callr 152 [(.t 101)], none⟩,
      ⟨(some 103), .lenl (.t 102), none⟩,
      ⟨(some 104), .mov (.c (.p (.int .i64 0))), none⟩])
    (.block 5 (.loop c148L2)))
    (.seq (.rg [⟨(some 118), .mov (.t 18), none⟩,
      ⟨(some 119), .callr 151 [(.t 118), (.c (.p (.string ⟨#[32]⟩)))], none⟩,
      ⟨(some 120), .bin .add (.c (.p (.string ⟨#[109, 97, 112, 91]⟩))) (.t 119), none⟩,
      ⟨(some 121), .bin .add (.t 120) (.c (.p (.string ⟨#[93]⟩))), none⟩,
      ⟨(some 122), .mov (.t 13), none⟩,
      ⟨(some 2), .mov (.t 121), none⟩,
      ⟨(some 3), .mov (.t 122), none⟩])
    .ret))))))) := rfl

def c147L0 : DC :=
  (.seq (.rg [⟨(some 24), .bin .lss (.t 23) (.t 22), none⟩])
    (.seq (.cond (.t 24) .skip
    (.exit 1))
    (.seq (.block 2 (.seq (.rg [⟨(some 25), .iaddr 5 (.t 21) (.t 23), none⟩,
              ⟨(some 26), .load true 5 (.t 25), none⟩,
              ⟨(some 7), .alloc 5 (.agg [.p (.int .u8 0), .p (.bool false), .p (.string ⟨#[]⟩), .p (.slice none 0 0), .p (.slice none 0 0)]), none⟩,
              ⟨none, .store 5 (.t 7) (.t 26), none⟩])
    (.seq (.rg [⟨(some 28), .load true 5 (.t 7), none⟩,
              ⟨(some 29), .callr 148 [(.t 28)], none⟩,
              ⟨(some 27), .mov (.t 29), none⟩,
              ⟨(some 30), .ext (.t 27) 0, none⟩,
              ⟨(some 31), .ext (.t 27) 1, none⟩,
              ⟨(some 8), .mov (.t 30), none⟩,
              ⟨(some 9), .mov (.t 31), none⟩])
    (.seq (.rg [⟨(some 32), .mov (.t 0), none⟩,
              ⟨(some 33), .mov (.t 0), none⟩,
              ⟨(some 34), .nilchk .ptr (.t 33), none⟩,
              ⟨(some 35), .load false 1 (.t 34), none⟩,
              ⟨(some 36), .mov (.t 8), none⟩,
              ⟨(some 37), .lit 1 [(.t 36)], none⟩,
              ⟨(some 38), .app 1 16 (.t 35) (.t 37), none⟩,
              ⟨(some 39), .nilchk .ptr (.t 32), none⟩,
              ⟨none, .store 1 (.t 39) (.t 38), none⟩])
    (.rg [⟨(some 40), .mov (.t 5), none⟩,
              ⟨(some 41), .mov (.t 40), none⟩,
              ⟨(some 42), .mov (.t 9), (some (41, true))⟩,
              ⟨(some 43), .pick (.t 41) (.t 42) (.c (.p (.bool false))), none⟩,
              ⟨(some 5), .mov (.t 43), none⟩])))))
    (.rg [⟨(some 44), .bin .add (.t 23) (.c (.p (.int .i64 1))), none⟩,
             ⟨(some 23), .mov (.t 44), none⟩]))))
theorem c147_cut : c147 =
  (.seq (.rg [⟨(some 3), .box (.t 1), none⟩,
      ⟨(some 4), .mov (.c (.p (.bool false))), none⟩])
    (.seq (.seq (.rg [⟨(some 12), .faddr false 0 1 (.t 3), none⟩,
      ⟨(some 13), .load false 1 (.t 12), none⟩])
    (.block 0 (.seq (.rg [⟨(some 15), .bin .eql (.t 13) (.c (.p (.int .u8 110))), none⟩,
       ⟨(some 14), .mov (.t 15), none⟩])
    (.cond (.t 14) (.seq (.rg [⟨(some 16), .mov (.t 0), none⟩,
         ⟨(some 17), .nilchk .ptr (.t 16), none⟩,
         ⟨none, .store 1 (.t 17) (.c (.p (.slice none 0 0))), none⟩])
    (.seq (.rg [⟨(some 4), .mov (.c (.p (.bool true))), none⟩])
    .ret))
    (.seq (.rg [⟨(some 19), .bin .eql (.t 13) (.c (.p (.int .u8 91))), none⟩,
         ⟨(some 18), .mov (.t 19), none⟩])
    (.cond (.t 18) (.seq (.rg [⟨(some 5), .mov (.c (.p (.bool true))), none⟩])
    (.seq (.seq (.rg [⟨(some 20), .faddr false 3 1 (.t 3), none⟩,
           ⟨(some 21), .load false 1 (.t 20), none⟩,
           ⟨(some 22), .lenl (.t 21), none⟩,
           ⟨(some 23), .mov (.c (.p (.int .i64 0))), none⟩])
    (.block 1 (.loop c147L0)))
    (.seq (.rg [⟨(some 45), .mov (.t 5), none⟩,
           ⟨(some 4), .mov (.t 45), none⟩])
    .ret)))
    .skip))))))
    (.seq (.rg [⟨(some 47), .load true 5 (.t 3), none⟩,
      ⟨(some 48), .callr 148 [(.t 47)], none⟩,
      ⟨(some 46), .mov (.t 48), none⟩,
      ⟨(some 49), .ext (.t 46) 0, none⟩,
      ⟨(some 50), .ext (.t 46) 1, none⟩,
      ⟨(some 10), .mov (.t 49), none⟩,
      ⟨(some 11), .mov (.t 50), none⟩])
    (.seq (.rg [⟨(some 51), .mov (.t 0), none⟩,
      ⟨(some 52), .mov (.t 10), none⟩,
      ⟨(some 53), .lit 1 [(.t 52)], none⟩,
      ⟨(some 54), .nilchk .ptr (.t 51), none⟩,
      ⟨none, .store 1 (.t 54) (.t 53), none⟩])
    (.seq (.rg [⟨(some 55), .mov (.t 11), none⟩,
      ⟨(some 4), .mov (.t 55), none⟩])
    .ret))))) := rfl


theorem ok148 {G : Nat → DV} (h : List Blk) (b : Bool) (x : List UInt8) : Ok Tryz.prog G 148 [.agg (txD b x)] h (.tup [.p (.string (txt x)), .p (.bool true)]) h := by
  refine Ok.wf fun hw => ?_
  refine Ok_by Tryz.func148 c148_ok r148_ok 122 rfl ?_
  rw [c148_cut]
  simp [r148, txD]
  exact WkV.ofPure (HPre.append _ _) rfl
/-- The texts stand in a list of their own. -/
def TakenS (h : List Blk) (sb : Nat) (xs : List ByteArray) (h' : List Blk) : Prop := ∃ dk, Own (h.set sb (.cells 1 [dk])) 1 h' dk (strs xs)
def zts (zs : List (Bool × List UInt8)) : List ByteArray := zs.map fun y => txt y.2
theorem WF_kids {B : Nat → Prop} {xs : List (Bool × List UInt8)} : WF B (.fz 5 (kidsD xs)) = True := eq_true (WF_plain kidsD_plain)
theorem wf_box {B : Nat → Prop} {xs : List (Bool × List UInt8)} : (Blk.cells 5 [.agg (elK (.fz 5 (kidsD xs)))]).wf B := fun j hj => by
  simp at hj
  subst hj
  simp [elK, WF_kids]
@[simp] theorem kidsD_getElem {xs : List (Bool × List UInt8)} {i : Nat} (h : i < (kidsD xs).length) : (kidsD xs)[i] = .agg (txD (xs[i]'(by simpa using h)).1 (xs[i]'(by simpa using h)).2) := by simp [kidsD]
theorem ok147 {G : Nat → DV} (hG : GZ G) (h : List Blk) (sb : Nat) (zs : List (Bool × List UInt8)) (hs : h[sb]? = some (.cells 1 [.p (.slice none 0 0)])) (hN : zs.length ≤ 1000000) :
    OkR Tryz.prog G 147 [.ptr sb 0 0 1, .agg (elK (.fz 5 (kidsD zs)))] h fun v h' => v = .p (.bool true) ∧ TakenS h sb (zts zs) h' := by
  refine OkR.wf fun hw => ?_
  refine OkR_by Tryz.func147 c147_ok r147_ok 54 rfl ?_
  have hsl : sb < h.length := (List.getElem?_eq_some_iff.1 hs).1
  have hgs : ∀ x t, (h.set sb x ++ t)[sb]? = some x := fun x t => get_pre (rd_set hs x) t
  have hss : ∀ x y t, (h.set sb x ++ t).set sb y = h.set sb y ++ t := fun x y t => by rw [List.set_append_left _ _ (by simpa using hsl), set_set']
  generalize hR : (fun (v : DV) (h' : List Blk) => v = .p (.bool true) ∧ TakenS h sb (zts zs) h') = R
  rw [c147_cut]
  simp [r147, elK]
  rw [← elK]
  generalize hV : Blk.cells 5 [DV.agg (elK (.fz 5 (kidsD zs)))] = V
  have e0 : h ++ [V] = h.set sb (.cells 1 [.p (.slice none 0 0)]) ++ [V] := by rw [rd_same hs]
  rw [e0]
  refine VV_fam (fun q : Nat × List Blk × DV => ⟨fr 56 [(0, .ptr sb 0 0 1), (5, .p (.bool true)), (21, .fz 5 (kidsD zs)), (22, .p (.int .i64 zs.length)), (23, .p (.int .i64 q.1))], q.2.1⟩)
    (fun q => q.1 ≤ zs.length ∧ Own (h.set sb (.cells 1 [q.2.2]) ++ [V]) 1 q.2.1 q.2.2 (strs (zts (zs.take q.1)))) (fun q => zs.length - q.1) (0, _, .p (.slice none 0 0)) ⟨by dsimp only; omega, Own.nil⟩ (Wk.fits (by simp)) ?_
  rintro ⟨i, h2, dk⟩ ⟨hi, ho⟩ B hbk he hr
  simp only at hi ho
  have g1 : ∀ t, (h2 ++ t)[sb]? = some (.cells 1 [dk]) := fun t => get_pre (ho.pre _ _ (hgs _ _)) t
  by_cases hlt : i < zs.length
  · have hltI : (i : Int) < (zs.length : Int) := by omega
    have e4 : IntKind.i64.wrap ((i : Int) + 1) = ((i + 1 : Nat) : Int) := wrap_succ hlt (by omega)
    have hdk : dk = .p (.slice none 0 0) ∨ ∃ b m, dk = .sl b 0 m m := by
      rcases ho.2 with ⟨h1, _⟩ | ⟨b, hb, _⟩
      · exact .inl h1
      · exact .inr ⟨b, _, hb⟩
    rcases hdk with rfl | ⟨b, m, rfl⟩
    · simp [c147L0, hltI, hlt, txD]
      refine FF_by (ok148 _ zs[i].1 zs[i].2) ?_
      simp [g1]
      refine AA_own (els := strs (zts (zs.take i))) (ho.push (x := [_, _])) (ys := strs [txt zs[i].2]) (by simp [elemsOf, strs]) (by simp [zts]; omega) ?_
      intro d' h4 ho4 hle4 hoth
      have e7 : strs (zts (zs.take i)) ++ strs [txt zs[i].2] = strs (zts (zs.take (i + 1))) := by
        rw [List.take_succ_eq_append_getElem hlt]
        simp only [zts, strs, List.map_append, List.map_cons, List.map_nil]
      rw [e7] at ho4
      obtain ⟨b2, m2, rfl⟩ : ∃ b m, d' = .sl b 0 m m := by
        rcases ho4.2 with ⟨_, hnil⟩ | ⟨b, hb, _⟩
        · have h0 : (strs (zts (zs.take (i + 1)))).length = i + 1 := by simp [zts]; omega
          rw [hnil] at h0
          cases h0
        · exact ⟨b, _, hb⟩
      have g4 : h4[sb]? = some _ := ho4.pre _ _ (hgs _ _)
      simp [g4]
      have ho5 := ho4.setb (c := sb) (by simp; omega) (.cells 1 [.sl b2 0 m2 m2])
      rw [hss] at ho5
      simp [e4]
      refine hbk _ (i + 1, _, _) ?_ ⟨hlt, ho5⟩ (by dsimp only; omega)
      exact Wk.fits (by simp)
    · simp [c147L0, hltI, hlt, txD]
      refine FF_by (ok148 _ zs[i].1 zs[i].2) ?_
      simp [g1]
      refine AA_own (els := strs (zts (zs.take i))) (ho.push (x := [_, _])) (ys := strs [txt zs[i].2]) (by simp [elemsOf, strs]) (by simp [zts]; omega) ?_
      intro d' h4 ho4 hle4 hoth
      have e7 : strs (zts (zs.take i)) ++ strs [txt zs[i].2] = strs (zts (zs.take (i + 1))) := by
        rw [List.take_succ_eq_append_getElem hlt]
        simp only [zts, strs, List.map_append, List.map_cons, List.map_nil]
      rw [e7] at ho4
      obtain ⟨b2, m2, rfl⟩ : ∃ b m, d' = .sl b 0 m m := by
        rcases ho4.2 with ⟨_, hnil⟩ | ⟨b, hb, _⟩
        · have h0 : (strs (zts (zs.take (i + 1)))).length = i + 1 := by simp [zts]; omega
          rw [hnil] at h0
          cases h0
        · exact ⟨b, _, hb⟩
      have g4 : h4[sb]? = some _ := ho4.pre _ _ (hgs _ _)
      simp [g4]
      have ho5 := ho4.setb (c := sb) (by simp; omega) (.cells 1 [.sl b2 0 m2 m2])
      rw [hss] at ho5
      simp [e4]
      refine hbk _ (i + 1, _, _) ?_ ⟨hlt, ho5⟩ (by dsimp only; omega)
      exact Wk.fits (by simp)
  · have : i = zs.length := by omega
    subst this
    simp [c147L0]
    refine he _ _ ?_
    simp
    subst hR
    rw [List.take_length] at ho
    refine REr_by _ _ WkV.refl ⟨rfl, dk, ho.base (HPre.append _ _)⟩
end Go.Proofs.YtppjcnaffphakaaGreatDoor
