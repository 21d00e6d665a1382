/- The library: contracts of functions over denoted values (LibE). -/
import Derived.Test.YtppjcnaffphakaaGreatDoorLibD
import Derived.ChangeArms
import Derived.DataReads
import Derived.OpenShut
import Derived.Test.YtppjcnaffphakaaGreatDoorLibB
import Derived.WideShapes
import Derived.FnData
set_option linter.unusedVariables false
set_option linter.unusedSimpArgs false
set_option linter.unusedSectionVars false
set_option linter.unnecessarySimpa false
namespace Go.Den
open Go

/-- Values one by one. -/
def VRs (e : Env) : List DV → List Value → Prop
  | [], [] => True
  | d :: ds, v :: vs => VR e d v ∧ VRs e ds vs
  | _, _ => False

theorem VRs.tr {e : Env} : ∀ (ds : List DV) (vs : List Value), VRs e ds vs → TR e ds vs.toArray
  | [], [], _ => ⟨rfl, fun i hi => absurd hi (by simp)⟩
  | d :: ds, v :: vs, h => by
    obtain ⟨h1, h2⟩ := VRs.tr ds vs h.2
    refine ⟨by simpa using h1, fun i hi hi' => ?_⟩
    cases i with
    | zero => simpa using h.1
    | succ i =>
      have := h2 i (by simpa using hi) (by simpa using hi')
      simpa using this
  | [], _ :: _, h => h.elim
  | _ :: _, [], h => h.elim

/-- The call of a law that returns a plain value. -/
theorem Ok.lawP {P : Program} {f : FuncId} {args : List DV} {v : Value} (h : Ok P (fun _ => .any) f args [] (.p v) []) (w : World) (vs : List Value) (ht : VRs ⟨fun _ => none, [], w.heap, fun _ => False⟩ args vs) :
    Calls P f vs.toArray w fun en w' => en = .returned v ∧ Go.RowKit.Below w.heap.size w w' := by
  refine (Ok.law h w vs.toArray ht.tr).mono fun en w' ⟨⟨v', e', h1, h2⟩, h3⟩ => ⟨?_, h3⟩
  cases h2
  exact h1

/-- The like, where the program's variables hold something that is known. -/
theorem Ok.lawG {P : Program} {G : Nat → DV} {f : FuncId} {args : List DV} {v : Value} (h : Ok P G f args [] (.p v) []) (w : World) (vs : List Value) (hG : GR ⟨fun _ => none, [], w.heap, fun _ => False⟩ G) (ht : VRs ⟨fun _ => none, [], w.heap, fun _ => False⟩ args vs) :
    Calls P f vs.toArray w fun en w' => en = .returned v ∧ Go.RowKit.Below w.heap.size w w' := by
  refine (h ⟨fun _ => none, [], w.heap, fun _ => False⟩ w vs.toArray rfl rfl ⟨fun b b' q q' _ _ hq => (by cases hq), fun b k hb => (by simp at hb), fun r h => h.elim, fun r h => h.elim⟩ hG ht.tr).mono fun en w' ⟨v', e', h1, h2, h3, h4, h5, h6, h7⟩ => ?_
  cases h6
  refine ⟨h1, h4.os, h4.tape, h4.output, by rw [← h2]; exact h7.size, fun k hk => ?_⟩
  rw [← h2]
  exact (h7.ro k ⟨hk, fun b q _ hq => (by cases hq), id⟩).2

end Go.Den

namespace Go.Den
open Go

/-- The shapes of a law's arguments: numbers, truths, texts, slices, structures of such. 'sl': an element's cells, the element. 'st': the parts, one behind the other, each with its cells. -/
inductive Sh where
  | int (k : IntKind)
  | flt (k : FloatKind)
  | bool
  | str
  | sl (sz : Nat) (el : Sh)
  | opq
  | st (parts : List (Nat × Sh))
  deriving Inhabited

/-- The shapes of a structure's parts, one behind the other. -/
def shFs (g : TypeId → Option Sh) (P : Program) : Nat → List Field → Option (List (Nat × Sh))
  | _, [] => some []
  | off, f :: fs => if f.offset = off then (g f.type).bind fun sh => (shFs g P (off + P.cellsOf f.type) fs).map fun r => (P.cellsOf f.type, sh) :: r else none
def sumFs (P : Program) : List Field → Nat
  | [] => 0
  | f :: fs => P.cellsOf f.type + sumFs P fs

/-- An array's elements as a structure's fields. -/
def arrFs (sz : Nat) (e : TypeId) : Nat → Nat → List Field
  | _, 0 => []
  | off, n + 1 => { (default : Field) with type := e, offset := off } :: arrFs sz e (off + sz) n
theorem arrFs_mem {sz : Nat} {e : TypeId} {f : Field} : ∀ {n off : Nat}, f ∈ arrFs sz e off n → f.type = e ∧ ∃ i, i < n ∧ f.offset = off + i * sz
  | 0, _, h => by simp [arrFs] at h
  | n + 1, off, h => by
    simp only [arrFs, List.mem_cons] at h
    rcases h with rfl | h
    · exact ⟨rfl, 0, by omega, by simp⟩
    · obtain ⟨h1, i, h2, h3⟩ := arrFs_mem h
      exact ⟨h1, i + 1, by omega, by rw [h3, Nat.succ_mul]; omega⟩

/-- A type's shape. -/
def shOf (P : Program) : Nat → TypeId → Option Sh
  | 0, _ => none
  | n + 1, t => match P.underlying t with
    | some (.int k) => some (.int k)
    | some (.float k) => some (.flt k)
    | some .bool => some .bool
    | some .string => some .str
    | some (.slice e) => if 0 < P.cellsOf e then some (match shOf P n e with | some she => .sl (P.cellsOf e) she | none => .opq) else none
    | some (.struct fs) => if sumFs P fs.toList = P.cellsOf t then (shFs (shOf P n) P 0 fs.toList).map .st else none
    | some (.array k e) => if sumFs P (arrFs (P.cellsOf e) e 0 k) = P.cellsOf t then (shFs (shOf P n) P 0 (arrFs (P.cellsOf e) e 0 k)).map .st else none
    | _ => none

/-- What a denoted value of this shape is. -/
inductive Shaped : Sh → DV → Prop
  | int {k n} (h : (Lit.int k n).wf = true) : Shaped (.int k) (.p (.int k n))
  | flt {k n} (h : (Lit.float k n).wf = true) : Shaped (.flt k) (.p (.float k n))
  | bool {b} : Shaped .bool (.p (.bool b))
  | str {s} (h : s.size ≤ maxLen) : Shaped .str (.p (.string s))
  | opq {a n c} : Shaped .opq (.p (.slice a n c))
  | sl {sz el l} (hl : l.length ≤ maxLen) (h : ∀ d, d ∈ l → Shaped el d) : Shaped (.sl sz el) (.fz sz l)
  | st {parts : List (Nat × Sh)} {ds : List DV} (hl : ds.length = parts.length) (h : ∀ i (hi : i < ds.length) (hi' : i < parts.length), Shaped parts[i].2 ds[i]) (hc : ∀ i (hi : i < ds.length) (hi' : i < parts.length), ds[i].cells.length = parts[i].1) : Shaped (.st parts) (.agg (ds.flatMap DV.cells))

theorem VRs.append {e : Env} : ∀ {a b : List DV} {x y : List Value}, VRs e a x → VRs e b y → VRs e (a ++ b) (x ++ y)
  | [], b, [], y, _, h => h
  | d :: a, b, v :: x, y, h, h' => ⟨h.1, VRs.append h.2 h'⟩
  | [], b, _ :: _, y, h, _ => h.elim
  | _ :: _, b, [], y, h, _ => h.elim
theorem VRs.of {e : Env} : ∀ (ds : List DV) (vs : List Value), ds.length = vs.length → (∀ i (hi : i < ds.length) (hi' : i < vs.length), VR e ds[i] vs[i]) → VRs e ds vs
  | [], [], _, _ => trivial
  | d :: ds, v :: vs, hl, h => ⟨h 0 (by simp) (by simp), VRs.of ds vs (by simpa using hl) fun i hi hi' => by
    have := h (i + 1) (by simpa using hi) (by simpa using hi')
    simpa only [List.getElem_cons_succ] using this⟩
  | [], _ :: _, hl, _ => by simp at hl
  | _ :: _, [], hl, _ => by simp at hl

theorem cell_at {w : World} {a : Addr} {v : Value} (h : w.cell? a = some v) : a.spot = none ∧ cellAt w.heap a.block a.off = some v := by
  unfold World.cell? at h
  unfold cellAt
  split at h
  · rename_i c _ _ hb
    rw [hb]
    split at h
    · cases h
    · rename_i hs
      exact ⟨by simpa using hs, h⟩
  · cases h


def env0 (w : World) : Env := ⟨fun _ => none, [], w.heap, fun _ => False⟩

theorem open_fields {P : Program} {w : World} {cs : List Value} {g : TypeId → Option Sh} : ∀ (fs : List Field) (off : Nat) (parts : List (Nat × Sh)), shFs g P off fs = some parts → off + sumFs P fs ≤ cs.length →
    (∀ f, f ∈ fs → ∀ sh, g f.type = some sh → ∃ d v, Shaped sh d ∧ VR (env0 w) d v ∧ v.cells.toList = (cs.drop f.offset).take (P.cellsOf f.type) ∧ Cells1 v ∧ d.storable = true) →
    ∃ ds : List DV, ds.length = parts.length ∧ (∀ i (hi : i < ds.length) (hi' : i < parts.length), Shaped parts[i].2 ds[i] ∧ ds[i].cells.length = parts[i].1) ∧ VRs (env0 w) (ds.flatMap DV.cells) ((cs.drop off).take (sumFs P fs)) ∧ ∀ v, v ∈ (cs.drop off).take (sumFs P fs) → v.oneCell' = true
  | [], off, parts, h, _, _ => by
    cases h
    exact ⟨[], rfl, fun i hi => absurd hi (by simp), by simp [sumFs, VRs], by simp [sumFs]⟩
  | f :: fs, off, parts, h, hlen, hf => by
    simp only [shFs] at h
    split at h
    · rename_i hoff
      simp only [Option.bind_eq_some_iff, Option.map_eq_some_iff] at h
      obtain ⟨sh, h1, r, h2, rfl⟩ := h
      simp only [sumFs] at hlen
      obtain ⟨ds, g1, g2, g3, g4⟩ := open_fields fs _ r h2 (by omega) (fun f' hf' => hf f' (by simp [hf']))
      obtain ⟨d, v, k1, k2, k3, k4, k5⟩ := hf f (by simp) sh h1
      obtain ⟨c1, c2⟩ := vr_cells k2 k5
      have hvl : v.cells.size = P.cellsOf f.type := by
        have := congrArg List.length k3
        simp at this
        omega
      have hsplit : (cs.drop off).take (P.cellsOf f.type + sumFs P fs) = v.cells.toList ++ (cs.drop (off + P.cellsOf f.type)).take (sumFs P fs) := by
        rw [k3, hoff, List.take_add, List.drop_drop]
      refine ⟨d :: ds, by simp [g1], fun i hi hi' => ?_, ?_, ?_⟩
      · cases i with
        | zero => exact ⟨k1, by show d.cells.length = P.cellsOf f.type; omega⟩
        | succ i => simpa using g2 i (by simpa using hi) (by simpa using hi')
      · simp only [sumFs]
        rw [hsplit, List.flatMap_cons]
        exact VRs.append (VRs.of _ _ (by simpa using c1) fun i hi hi' => by simpa using c2 i hi (by simpa using hi')) g3
      · simp only [sumFs]
        rw [hsplit]
        intro u hu
        rcases List.mem_append.1 hu with hu | hu
        · obtain ⟨i, hi, rfl⟩ := List.getElem_of_mem hu
          simpa using k4 i (by simpa using hi)
        · exact g4 u hu
    · cases h

theorem trod_float {H : Type} {enc : TypeId × Value → H} {P : Program} {w : World} {base : Nat} {spare : Nat → Bool} {held : Bool} {fuel : Nat} {t : TypeId} {k : FloatKind} {cs : List Value} {x : DataW H × List MemPlace} (ht : P.underlying t = some (.float k)) (h : DataW.trod enc P w base spare held fuel t cs = some x) : ∃ n, cs = [.float k n] ∧ x = (.lit (.float k n), []) ∧ (Lit.float k n).wf = true := by
  cases fuel with
  | zero => simp [DataW.trod] at h
  | succ fuel =>
    unfold DataW.trod at h
    rw [ht] at h
    split at h <;> simp_all
theorem open_sh {H : Type} {enc : TypeId × Value → H} {P : Program} {w : World} {base : Nat} {spare : Nat → Bool} {held : Bool} : ∀ (m : Nat) (t : TypeId) (sh : Sh) (fuel : Nat) (cs : List Value) (x : DataW H × List MemPlace), shOf P m t = some sh → DataW.trod enc P w base spare held fuel t cs = some x →
    ∃ d v, Shaped sh d ∧ VR (env0 w) d v ∧ v.cells.toList = cs ∧ Cells1 v ∧ d.storable = true
  | 0, _, _, _, _, _, h, _ => by cases h
  | m + 1, t, sh, fuel, cs, x, h, hx => by
    have one : ∀ {v : Value} {d : DV}, v.oneCell' = true → Shaped sh d → VR (env0 w) d v → d.storable = true → v.cells = #[v] → cs = [v] → ∃ d v, Shaped sh d ∧ VR (env0 w) d v ∧ v.cells.toList = cs ∧ Cells1 v ∧ d.storable = true := by
      intro v d h1 h2 h3 h4 h5 h6
      exact ⟨d, v, h2, h3, by rw [h5, h6], h3.cells1 h4, h4⟩
    simp only [shOf] at h
    split at h
    · rename_i k hu
      cases h
      obtain ⟨n, h1, h2, h3⟩ := DataW.trod_int hu hx
      exact one (v := .int k n) rfl (.int h3) (.p rfl) rfl rfl h1
    · rename_i k hu
      cases h
      obtain ⟨n, h1, h2, h3⟩ := trod_float hu hx
      exact one (v := .float k n) rfl (.flt h3) (.p rfl) rfl rfl h1
    · rename_i hu
      cases h
      obtain ⟨b, h1, h2⟩ := DataW.trod_bool hu hx
      exact one (v := .bool b) rfl .bool (.p rfl) rfl rfl h1
    · rename_i hu
      cases h
      obtain ⟨s, h1, h2, h3⟩ := DataW.trod_string hu hx
      exact one (v := .string s) rfl (.str h3) (.p rfl) rfl rfl h1
    · rename_i el hu
      split at h
      · rename_i hpos
        cases hel : shOf P m el with
        | none =>
          rw [hel] at h
          cases h
          rcases DataW.trod_slice hu hx with ⟨h1, _⟩ | ⟨a, len, cap, elems, rest, n, h1, h2, _⟩
          · exact one (v := .slice none 0 0) (d := .p (.slice none 0 0)) rfl .opq (.p rfl) rfl rfl h1
          · exact one (v := .slice (some a) len cap) (d := .p (.slice (some a) len cap)) rfl .opq (.p rfl) rfl rfl h2
        | some she =>
          rw [hel] at h
          cases h
          rcases DataW.trod_slice hu hx with ⟨h1, _⟩ | ⟨a, len, cap, elems, rest, n, h1, h2, h3, h4, h5, h6, h7, h8, _⟩
          · exact one (v := .slice none 0 0) (d := .fz (P.cellsOf el) []) rfl (.sl (Nat.zero_le _) (by simp)) .fz0 rfl rfl h1
          · have each : ∀ i, i < len → ∃ d v, Shaped she d ∧ VR (env0 w) d v ∧ Cells1 v ∧ v.cells.size = P.cellsOf el ∧ ∀ k, k < P.cellsOf el → w.cell? ((a.add (i * P.cellsOf el)).add k) = v.cells[k]? := by
              intro i hi
              have hb := h8 i hi
              rw [List.getElem?_eq_getElem (by omega), Option.bind_eq_some_iff] at hb
              obtain ⟨ecs, hc, ht⟩ := hb
              obtain ⟨d, v, g1, g2, g3, g4, g5⟩ := open_sh m el she n ecs _ hel ht
              obtain ⟨c1, c2, c3⟩ := World.cells?_some hc
              refine ⟨d, v, g1, g2, g4, ?_, fun k hk => ?_⟩
              · rw [← c2, ← g3]; simp
              · rw [c3 k hk, ← g3]; simp
            have each' : ∀ i, ∃ p : DV × Value, i < len → Shaped she p.1 ∧ VR (env0 w) p.1 p.2 ∧ Cells1 p.2 ∧ p.2.cells.size = P.cellsOf el ∧ ∀ k, k < P.cellsOf el → w.cell? ((a.add (i * P.cellsOf el)).add k) = p.2.cells[k]? := by
              intro i
              by_cases hi : i < len
              · obtain ⟨d, v, hd⟩ := each i hi
                exact ⟨(d, v), fun _ => hd⟩
              · exact ⟨(.any, .nilIface), fun h => (hi h).elim⟩
            obtain ⟨f, hf⟩ := Classical.skolem.1 each'
            by_cases h0 : len = 0
            · subst h0
              exact one (v := .slice (some a) 0 cap) (d := .fz (P.cellsOf el) []) rfl (.sl (Nat.zero_le _) (by simp)) .fz0 rfl rfl h2
            · have hc0 := (hf 0 (by omega)).2.2.2.2 0 hpos
              have hz : (f 0).2.cells.size = P.cellsOf el := (hf 0 (by omega)).2.2.2.1
              rw [Array.getElem?_eq_getElem (by omega)] at hc0
              obtain ⟨s1, s2⟩ := cell_at hc0
              obtain ⟨ab, ao, asp⟩ := a
              have hsp : asp = none := by simpa [Addr.add] using s1
              subst hsp
              have hlen : ((List.range len).map fun i => (f i).1).length = len := by simp
              have hro : ab < w.heap.size := by
                simp only [Nat.zero_mul, Addr.add, if_true] at s2
                unfold cellAt at s2
                split at s2
                · rename_i hb
                  exact (Array.getElem?_eq_some_iff.1 hb).1
                · cases s2
              have key := VR.fz (e := env0 w) (sz := P.cellsOf el) (l := (List.range len).map fun i => (f i).1) (a := ⟨ab, ao, none⟩) (cap := cap) (fun j => (f j).2) rfl (by rw [hlen]; exact h5)
                ⟨hro, fun b q hk => absurd rfl hk, id⟩
                (fun j hj => by rw [hlen] at hj; simpa using (hf j hj).2.1) (fun j hj => (hf j (by rw [hlen] at hj; exact hj)).2.2.2.1) (fun j hj => (hf j (by rw [hlen] at hj; exact hj)).2.2.1)
                (fun j hj k hk => by
                  rw [hlen] at hj
                  have := (hf j hj).2.2.2.2 k hk
                  rw [← this]
                  show cellAt w.heap ab (ao + j * P.cellsOf el + k) = _
                  rw [← cellAt_cell?]
                  congr 1
                  simp only [Addr.add]
                  split <;> split <;> simp_all)
              rw [hlen] at key
              exact one (v := .slice (some ⟨ab, ao, none⟩) len cap) rfl (.sl (by rw [hlen]; omega) (fun d hd => by
                obtain ⟨i, hi, rfl⟩ := List.mem_map.1 hd
                exact (hf i (List.mem_range.1 hi)).1)) key rfl rfl h2
      · cases h
    · rename_i fs hu
      split at h
      · rename_i hsum
        obtain ⟨parts, h1, rfl⟩ := Option.map_eq_some_iff.1 h
        obtain ⟨xs, n, rfl, rfl, hl, hxl, hx⟩ := DataW.trod_struct hu hx
        obtain ⟨ds, g1, g2, g3, g4⟩ := open_fields (w := w) (cs := cs) fs.toList 0 parts h1 (by omega) (fun f hf sh hsh => by
          obtain ⟨i, hi, rfl⟩ := List.getElem_of_mem hf
          have hi' : i < fs.size := by simpa using hi
          have hxi := hx i fs[i] (by simp [hi'])
          rw [List.getElem?_eq_getElem (by omega)] at hxi
          exact open_sh m _ sh n _ _ hsh (by simpa using hxi))
        have hcs : (cs.drop 0).take (sumFs P fs.toList) = cs := by rw [List.drop_zero, hsum, ← hl, List.take_length]
        rw [hcs] at g3 g4
        obtain ⟨t1, t2⟩ := g3.tr
        refine ⟨_, .agg cs.toArray, .st g1 (fun i hi hi' => (g2 i hi hi').1) (fun i hi hi' => (g2 i hi hi').2), .agg t1 (fun i hi => g4 _ (by simp)) t2, by simp [Value.cells], fun i hi => by simpa [Value.cells] using g4 _ (List.getElem_mem _), rfl⟩
      · cases h
    · rename_i k e hu
      split at h
      · rename_i hsum
        obtain ⟨parts, h1, rfl⟩ := Option.map_eq_some_iff.1 h
        obtain ⟨xs, n, rfl, rfl, hl, hxl, hx⟩ := DataW.trod_array hu hx
        obtain ⟨ds, g1, g2, g3, g4⟩ := open_fields (w := w) (cs := cs) (arrFs (P.cellsOf e) e 0 k) 0 parts h1 (by omega) (fun f hf sh hsh => by
          obtain ⟨hfe, i, hi, hfo⟩ := arrFs_mem hf
          have hxi := hx i hi
          rw [List.getElem?_eq_getElem (by omega)] at hxi
          rw [hfe] at hsh ⊢
          rw [show f.offset = i * P.cellsOf e by omega]
          exact open_sh m _ sh n _ _ hsh hxi)
        have hcs : (cs.drop 0).take (sumFs P (arrFs (P.cellsOf e) e 0 k)) = cs := by rw [List.drop_zero, hsum, ← hl, List.take_length]
        rw [hcs] at g3 g4
        obtain ⟨t1, t2⟩ := g3.tr
        refine ⟨_, .agg cs.toArray, .st g1 (fun i hi hi' => (g2 i hi hi').1) (fun i hi hi' => (g2 i hi hi').2), .agg t1 (fun i hi => g4 _ (by simp)) t2, by simp [Value.cells], fun i hi => by simpa [Value.cells] using g4 _ (List.getElem_mem _), rfl⟩
      · cases h
    · cases h

end Go.Den

namespace Go.Den
open Go

def omap {α β : Type} (f : α → Option β) : List α → Option (List β)
  | [] => some []
  | a :: l => (f a).bind fun b => (omap f l).map fun l' => b :: l'
theorem omap_spec {α β : Type} {f : α → Option β} : ∀ {l : List α} {l' : List β}, omap f l = some l' → l'.length = l.length ∧ ∀ i (hi : i < l.length) (hi' : i < l'.length), f l[i] = some l'[i]
  | [], l', h => by cases h; exact ⟨rfl, fun i hi => absurd hi (by simp)⟩
  | a :: l, l', h => by
    simp only [omap, Option.bind_eq_some_iff, Option.map_eq_some_iff] at h
    obtain ⟨b, h1, l1, h2, rfl⟩ := h
    obtain ⟨h3, h4⟩ := omap_spec h2
    refine ⟨by simp [h3], fun i hi hi' => ?_⟩
    cases i with
    | zero => simpa using h1
    | succ i => simpa using h4 i (by simpa using hi) (by simpa using hi')
theorem omap_self {α : Type} {f : α → Option α} : ∀ {l : List α}, (∀ a, a ∈ l → f a = some a) → omap f l = some l
  | [], _ => rfl
  | a :: l, h => by
    simp only [omap, h a (by simp), Option.bind_some, omap_self (l := l) fun a ha => h a (by simp [ha]), Option.map_some]

/-- A value holds no address at all. -/
def pureV : DV → Bool
  | .p _ => true
  | .agg l => pureL l
  | .tup l => pureL l
  | .iface _ d => pureV d
  | _ => false
where pureL : List DV → Bool
  | [] => true
  | d :: l => pureV d && pureL l
theorem pureL_get : ∀ {l : List DV}, pureV.pureL l = true → ∀ i (hi : i < l.length), pureV l[i] = true
  | [], _, i, hi => absurd hi (by simp)
  | d :: l, h, 0, hi => by simp [pureV.pureL] at h; exact h.1
  | d :: l, h, i + 1, hi => by simp [pureV.pureL] at h; simpa using pureL_get h.2 i (by simpa using hi)
theorem VR.pure {e e2 : Env} {d : DV} {v : Value} (h : VR e d v) (hd : pureV d = true) : VR e2 d v := by
  induction h with
  | p h1 => exact .p h1
  | agg hl h1 h ih => exact .agg hl h1 fun i hi hi' => ih i hi hi' (pureL_get (by simpa [pureV] using hd) i hi)
  | tup hl h ih => exact .tup hl fun i hi hi' => ih i hi hi' (pureL_get (by simpa [pureV] using hd) i hi)
  | iface _ ih => exact .iface (ih (by simpa [pureV] using hd))
  | _ => simp [pureV] at hd

/-- A value, told without the blocks from n0 on: what stands there nobody writes any more. -/
def frz (h : List Blk) (n0 : Nat) : Nat → DV → Option DV
  | 0, d => if pureV d = true then some d else none
  | k + 1, d => if pureV d = true then some d else match d with
    | .any => some .any
    | .ptr b i o x => if b < n0 then some (.ptr b i o x) else match h[b]? with
      | some (.cells sz els) => if x = els.length ∧ o = 0 then (frz h n0 k (els.getD i .any)).map .fp else none
      | _ => none
    | .sl b i n x => if b < n0 then some (.sl b i n x) else match h[b]? with
      | some (.cells sz els) => if x = els.length then (omap (frz h n0 k) (if i = 0 ∧ n = x then els else (els.drop i).take n)).map (.fz sz) else none
      | _ => none
    | .sa g z b i o n c x => if b < n0 then some (.sa g z b i o n c x) else match h[b]? with
      | some (.cells _ els) => match els.getD i .any with
        | .agg cs => if x = els.length ∧ g = false then (omap (frz h n0 k) ((cs.drop o).take n)).map (.fz 1) else none
        | _ => none
      | _ => none
    | .fz sz l => (omap (frz h n0 k) l).map (.fz sz)
    | .fp d => (frz h n0 k d).map .fp
    | .agg l => (omap (frz h n0 k) l).map .agg
    | .tup l => (omap (frz h n0 k) l).map .tup
    | .mp b => if b < n0 then some (.mp b) else none
    | .it b => if b < n0 then some (.it b) else none
    | .iface t d => (frz h n0 k d).map (.iface t)
    | .fn f l m => (omap (frz h n0 k) l).bind fun l' => (omap (frz h n0 k) m).map fun m' => .fn f l' m'
    | .fm ks l => (omap (frz h n0 k) l).map (.fm ks)
    | .p v => some (.p v)

theorem frz_sound {e : Env} (hr : HR e) {n0 : Nat} {h0 : List Blk} (hn : h0.length = n0) (hd : ∀ (b : Nat) (k : Blk), h0[b]? = some k → e.h[b]? = some k ∨ k = .dead) (hw : HWF h0) : ∀ (k : Nat) (d d' : DV) (v : Value), frz e.h n0 k d = some d' → VR e d v → VR ⟨e.ρ, h0, e.H, e.pv⟩ d' v := by
  obtain ⟨ev, hh⟩ := env_drop hr h0 hd
  have hlow : ∀ b, b < n0 → b < h0.length := fun b hb => by omega
  have hro : ∀ b q, n0 ≤ b → e.key b ≠ none → e.ρ b = some q → q.1 < e.H.size → RO ⟨e.ρ, h0, e.H, e.pv⟩ q.1 := by
    intro b q hb hk hq hlt
    refine ⟨hlt, fun c q0 hkc hq0 he => ?_, fun h => hr.pvl _ h b q hk hq rfl⟩
    obtain ⟨k, hk1⟩ := Option.ne_none_iff_exists'.1 hkc
    obtain ⟨x, hx1, hx2⟩ := Env.key_some hk1
    have hclt : c < n0 := by
      have := (List.getElem?_eq_some_iff.1 hx1).1
      simp only at this
      omega
    rcases hd c x hx1 with h7 | rfl
    · have := hr.inj c b q0 q (by rw [Env.key_of h7, hx2]; simp) hk hq0 hq he
      omega
    · cases hx2
  have lst : ∀ (k : Nat), (∀ (d d' : DV) (v : Value), frz e.h n0 k d = some d' → VR e d v → VR ⟨e.ρ, h0, e.H, e.pv⟩ d' v) → ∀ (l l' : List DV) (vs : Nat → Value), omap (frz e.h n0 k) l = some l' → (∀ i (hi : i < l.length), VR e l[i] (vs i)) → l'.length = l.length ∧ ∀ i (hi : i < l'.length), VR ⟨e.ρ, h0, e.H, e.pv⟩ l'[i] (vs i) := by
    intro k ih l l' vs hl hv
    obtain ⟨h1, h2⟩ := omap_spec hl
    exact ⟨h1, fun i hi => ih _ _ _ (h2 i (by omega) hi) (hv i (by omega))⟩
  intro k
  induction k with
  | zero =>
    intro d d' v h hv
    simp only [frz] at h
    split at h
    · rename_i hp
      cases h
      exact hv.pure hp
    · cases h
  | succ k ih =>
    intro d d' v h hv
    by_cases hp : pureV d = true
    · unfold frz at h
      rw [if_pos hp] at h
      cases h
      exact hv.pure hp
    unfold frz at h
    rw [if_neg hp] at h
    cases d with
    | p u => exact absurd rfl hp
    | any => cases h; exact .any
    | ptr b i o x =>
      simp only at h
      by_cases hb : b < n0
      · rw [if_pos hb] at h; cases h; exact hv.gen ev (.ptr (hlow b hb))
      · rw [if_neg hb] at h
        split at h
        · rename_i sz els hbk
          split at h
          · rename_i hx
            obtain ⟨rfl, rfl⟩ := hx
            obtain ⟨d1, h1, rfl⟩ := Option.map_eq_some_iff.1 h
            have hkey : e.key b = some (.c sz els.length) := Env.key_of hbk
            obtain ⟨hi, q, hq, rfl⟩ := vr_ptr hv hkey
            obtain ⟨c, T, fr, ovs, hH, hcs, hl, hf, hvs, hvsz, h1c, hcell⟩ := hr.cells hbk hq
            have hel : els.getD i .any = els[i] := by simp [List.getD, hi]
            rw [hel] at h1
            refine .fp (ovs i) rfl (hro b q (by omega) (by rw [hkey]; simp) hq (Array.getElem?_eq_some_iff.1 hH).1) (ih _ _ _ h1 (hvs i hi)) fun j hj => ?_
            rw [hvsz i hi] at hj
            have := hcell i hi j hj
            show cellAt e.H q.1 (i * sz + 0 + j) = _
            rw [cellAt, hH, ← this, Nat.add_zero]
          · cases h
        · cases h
    | sl b i n x =>
      simp only at h
      by_cases hb : b < n0
      · rw [if_pos hb] at h; cases h; exact hv.gen ev (.sl (hlow b hb))
      · rw [if_neg hb] at h
        split at h
        · rename_i sz els hbk
          split at h
          · rename_i hx
            subst hx
            have hkey : e.key b = some (.c sz els.length) := Env.key_of hbk
            obtain ⟨hin, hcase⟩ := vr_sl hv hkey
            rw [show (if i = 0 ∧ n = els.length then els else (els.drop i).take n) = (els.drop i).take n by split <;> simp [*]] at h
            obtain ⟨l', h1, rfl⟩ := Option.map_eq_some_iff.1 h
            obtain ⟨a0, c0, hva⟩ := vr_sl_n hv
            have hlen : ((els.drop i).take n).length = n := by simp; omega
            rcases hcase with ⟨hq, hvn⟩ | ⟨q, a, cap, hq, hvs, hc, hC, ha⟩
            · rw [hva] at hvn
              simp only [Value.slice.injEq] at hvn
              obtain ⟨_, rfl, _⟩ := hvn
              have : l' = [] := by
                have := (omap_spec h1).1
                rw [hlen] at this
                exact List.eq_nil_of_length_eq_zero this
              subst this
              rw [hva]
              exact .fz0
            · obtain ⟨c, T, fr, ovs, hH, hcs, hl, hf, hvs', hvsz, h1c, hcell⟩ := hr.cells hbk hq
              obtain ⟨g1, g2⟩ := lst k ih _ l' (fun j => ovs (i + j)) h1 (fun j hj => by
                rw [hlen] at hj
                have : ((els.drop i).take n)[j]'(by rw [hlen]; exact hj) = els[i + j]'(by omega) := by simp
                rw [this]
                exact hvs' (i + j) (by omega))
              rw [hlen] at g1
              by_cases hn0 : n = 0
              · subst hn0
                have : l' = [] := List.eq_nil_of_length_eq_zero g1
                subst this
                rw [hvs]
                exact .fz0
              · have ha' := ha (by omega)
                subst ha'
                have key := VR.fz (e := ⟨e.ρ, h0, e.H, e.pv⟩) (sz := sz) (l := l') (a := ⟨q.1, i * sz, none⟩) (cap := cap) (fun j => ovs (i + j)) rfl (by rw [g1]; omega)
                  (hro b q (by omega) (by rw [hkey]; simp) hq (Array.getElem?_eq_some_iff.1 hH).1) g2 (fun j hj => hvsz (i + j) (by omega)) (fun j hj => h1c (i + j) (by omega))
                  (fun j hj m hm => by
                    have := hcell (i + j) (by omega) m hm
                    show cellAt e.H q.1 (i * sz + j * sz + m) = _
                    rw [cellAt, hH, ← this]
                    simp only [Nat.add_mul])
                rw [g1] at key
                rw [hvs]
                exact key
          · cases h
        · cases h
    | fz sz l =>
      simp only at h
      obtain ⟨l', h1, rfl⟩ := Option.map_eq_some_iff.1 h
      have hlen := (omap_spec h1).1
      cases hv with
      | fz0 => cases h1; exact .fz0
      | fz vs hs hc hr' hv' hsz h1c hcell =>
        obtain ⟨g1, g2⟩ := lst k ih _ l' vs h1 (fun j hj => hv' j hj)
        have key := VR.fz (e := ⟨e.ρ, h0, e.H, e.pv⟩) (sz := sz) (l := l') vs hs (by rw [hlen]; exact hc) (ev.ro _ hr').1 g2 (fun j hj => hsz j (by omega)) (fun j hj => h1c j (by omega)) (fun j hj m hm => hcell j (by omega) m hm)
        rw [hlen] at key
        exact key
    | fp d =>
      simp only at h
      obtain ⟨d1, h1, rfl⟩ := Option.map_eq_some_iff.1 h
      cases hv with
      | fp v0 hs hr' hv' hcell => exact .fp v0 hs (ev.ro _ hr').1 (ih _ _ _ h1 hv') hcell
    | agg l =>
      simp only at h
      obtain ⟨l', h1, rfl⟩ := Option.map_eq_some_iff.1 h
      obtain ⟨vs, rfl, h2, h3, h4⟩ := vr_agg hv
      obtain ⟨g1, g2⟩ := lst k ih _ l' (fun j => vs.getD j undef) h1 (fun j hj => by simpa [Array.getD, show j < vs.size by omega] using h4 j hj (by omega))
      exact .agg (by omega) h3 fun i hi hi' => by simpa [Array.getD, hi'] using g2 i hi
    | tup l =>
      simp only at h
      obtain ⟨l', h1, rfl⟩ := Option.map_eq_some_iff.1 h
      obtain ⟨vs, rfl, h2, h4⟩ := vr_tup hv
      obtain ⟨g1, g2⟩ := lst k ih _ l' (fun j => vs.getD j undef) h1 (fun j hj => by simpa [Array.getD, show j < vs.size by omega] using h4 j hj (by omega))
      exact .tup (by omega) fun i hi hi' => by simpa [Array.getD, hi'] using g2 i hi
    | sa g z b i o n c x =>
      simp only at h
      by_cases hb : b < n0
      · rw [if_pos hb] at h; cases h; exact hv.gen ev (.sa (hlow b hb))
      · rw [if_neg hb] at h
        split at h
        · rename_i sz els hbk
          split at h
          · rename_i cs hcs
            split at h
            · rename_i hx
              obtain ⟨rfl, rfl⟩ := hx
              obtain ⟨l', h1, rfl⟩ := Option.map_eq_some_iff.1 h
              have hkey : e.key b = some (.c sz els.length) := Env.key_of hbk
              obtain ⟨hi, q, a, hq, rfl, hnc, hoc, ha⟩ := vr_sa hv hkey
              obtain rfl := vr_sa_g hv rfl
              obtain ⟨c1, T, fr, ovs, hH, hcsz, hl, hf, hvs, hvsz, h1c, hcell⟩ := hr.cells hbk hq
              have hel : els.getD i .any = els[i] := by simp [List.getD, hi]
              have hvi := hvs i hi
              rw [← hel, hcs] at hvi
              obtain ⟨us, hus, husl, hus1, husv⟩ := vr_agg hvi
              have hsz := hvsz i hi
              rw [hus] at hsz
              simp only [Value.cells] at hsz
              have hlen : ((cs.drop o).take n).length = n := by simp; omega
              obtain ⟨g1, g2⟩ := lst k ih _ l' (fun j => us.getD (o + j) .nilIface) h1 (fun j hj => by
                rw [hlen] at hj
                have h2 : ((cs.drop o).take n)[j]'(by rw [hlen]; exact hj) = cs[o + j]'(by omega) := by simp
                rw [h2]
                have h3 : us.getD (o + j) .nilIface = us[o + j]'(by omega) := by simp [Array.getD, show o + j < us.size by omega]
                simp only [h3]
                exact husv _ (by omega) (by omega))
              rw [hlen] at g1
              by_cases hn0 : n = 0
              · subst hn0
                have : l' = [] := List.eq_nil_of_length_eq_zero g1
                subst this
                exact .fz0
              · obtain rfl := ha (by omega)
                have one : ∀ j, j < n → (us.getD (o + j) .nilIface).oneCell' = true := fun j hj => by
                  have h3 : us.getD (o + j) .nilIface = us[o + j]'(by omega) := by simp [Array.getD, show o + j < us.size by omega]
                  rw [h3]
                  exact hus1 _ (by omega)
                have key := VR.fz (e := ⟨e.ρ, h0, e.H, e.pv⟩) (sz := 1) (l := l') (a := ⟨q.1, i * sz + o, none⟩) (cap := c) (fun j => us.getD (o + j) .nilIface) rfl (by rw [g1]; exact hnc)
                  (hro b q (by omega) (by rw [hkey]; simp) hq (Array.getElem?_eq_some_iff.1 hH).1) g2 (fun j hj => by rw [one_cells (one j (by omega))]; rfl) (fun j hj m hm => by
                    have := one_cells (one j (by omega))
                    simp only [this] at hm ⊢
                    have hm0 : m = 0 := by simpa using hm
                    subst hm0
                    simpa using one j (by omega))
                  (fun j hj m hm => by
                    obtain rfl : m = 0 := by omega
                    have h4 := hcell i hi (o + j) (by omega)
                    rw [hus] at h4
                    simp only [Value.cells] at h4
                    rw [one_cells (one j (by omega))]
                    show cellAt e.H q.1 (i * sz + o + j * 1 + 0) = _
                    rw [cellAt, hH]
                    show c1[i * sz + o + j * 1 + 0]? = some (us.getD (o + j) .nilIface)
                    rw [show i * sz + o + j * 1 + 0 = i * sz + (o + j) by omega, h4]
                    simp [Array.getD, show o + j < us.size by omega])
                rw [g1] at key
                exact key
            · cases h
          · cases h
        · cases h
    | mp b =>
      simp only at h
      split at h
      · cases h; exact hv.gen ev (.mp (hlow b ‹_›))
      · cases h
    | it b =>
      simp only at h
      split at h
      · cases h; exact hv.gen ev (.it (hlow b ‹_›))
      · cases h
    | iface t d =>
      simp only at h
      obtain ⟨d1, h1, rfl⟩ := Option.map_eq_some_iff.1 h
      obtain ⟨u, rfl, h2⟩ := vr_iface hv
      exact .iface (ih _ _ _ h1 h2)
    | fn f l m =>
      simp only [Option.bind_eq_some_iff] at h
      obtain ⟨l', h1, h⟩ := h
      obtain ⟨m', h2, rfl⟩ := Option.map_eq_some_iff.1 h
      cases hv with
      | fn hl hv1 hl' hv2 =>
        rename_i vs us
        obtain ⟨g1, g2⟩ := lst k ih _ l' (fun j => vs.getD j undef) h1 (fun j hj => by simpa [Array.getD, show j < vs.size by omega] using hv1 j hj (by omega))
        obtain ⟨g3, g4⟩ := lst k ih _ m' (fun j => us.getD j undef) h2 (fun j hj => by simpa [Array.getD, show j < us.size by omega] using hv2 j hj (by omega))
        exact .fn (by omega) (fun i hi hi' => by simpa [Array.getD, hi'] using g2 i hi) (by omega) (fun i hi hi' => by simpa [Array.getD, hi'] using g4 i hi)
    | fm ks l =>
      obtain ⟨l', h1, rfl⟩ := Option.map_eq_some_iff.1 h
      obtain ⟨g1, g2⟩ := omap_spec h1
      cases hv with
      | fm es res clock hro' hH hp hkl hl hk hvs =>
        let F : DV → DV := fun d => (frz e.h n0 k d).getD .any
        have hF : l' = l.map F := by
          refine List.ext_getElem (by simp [g1]) fun i h3 h4 => ?_
          simp only [List.getElem_map, F]
          rw [g2 i (by simpa using h4) h3]
          rfl
        have hz : ks.zip l' = (ks.zip l).map fun x => (x.1, F x.2) := by
          rw [hF, List.zip_map_right]
          exact List.map_congr_left fun x _ => rfl
        refine .fm (es.map fun x => (x.1, F x.2)) res clock (ev.ro _ hro').1 hH (by rw [hz]; exact hp.map _) (by rw [g1]; exact hkl) (by simpa using hl) (fun j hj hj' => ?_) (fun j hj hj' => ?_)
        · simp only [List.getElem_map]
          exact hk j (by simpa using hj) hj'
        · simp only [List.getElem_map]
          obtain ⟨i, hi, he⟩ := zip_val' hp (show j < es.length by simpa using hj)
          have h5 := hvs j (by simpa using hj) hj'
          have h6 := g2 i hi (by omega)
          rw [he] at h5 ⊢
          have h7 : F l[i] = l'[i] := by simp only [F, h6, Option.getD_some]
          rw [h7]
          exact ih _ _ _ h6 h5

/-- At a return: what the call made for itself and returns is from now on as it is. -/
theorem WkV.frzg {h0 h h' : List Blk} {d d' : DV} (k : Nat) (hn : h0.length ≤ h'.length) (hd : ∀ (b : Nat) (x : Blk), h'[b]? = some x → h[b]? = some x ∨ x = .dead) (hw : HWF h0 → HWF h') (hf : frz h h'.length k d = some d') : WkV h0 d h d' h' := by
  intro h0w e v he hr hv hl
  subst he
  obtain ⟨ev, hh⟩ := env_drop hr h' hd
  exact ⟨⟨e.ρ, h', e.H, e.pv⟩, rfl, rfl, hh (hw h0w), frz_sound hr rfl hd (hw h0w) k d d' v hf hv, ⟨hn, Nat.le_refl _, ev.ro, fun b hb k' hk => ev.key b (Nat.lt_of_lt_of_le hb hn) k' hk, ev.pv, ev.pvH⟩⟩

theorem WkV.frz {h0 h : List Blk} {d d' : DV} (k : Nat) (hp : HPre h0 h) (hf : Den.frz h h0.length k d = some d') : WkV h0 d h d' h0 :=
  WkV.frzg k (Nat.le_refl _) (fun b x hb => .inl (hp b x hb)) id hf

theorem frz_pure {h : List Blk} {n0 k : Nat} {d : DV} (hp : pureV d = true) : frz h n0 k d = some d := by cases k <;> simp [frz, hp]
theorem frz_p {h : List Blk} {n0 k : Nat} {v : Value} : frz h n0 k (.p v) = some (.p v) := frz_pure rfl
/-- Values that hold no address. -/
def plainL (l : List DV) : Prop := ∀ d, d ∈ l → pureV d = true
theorem plainL.frz {h : List Blk} {n0 k : Nat} {l : List DV} (hl : plainL l) : omap (Den.frz h n0 k) l = some l := omap_self fun d hd => frz_pure (hl d hd)
theorem plainL.map {α : Type} {f : α → Value} {l : List α} : plainL (l.map fun x => .p (f x)) := fun d hd => by
  obtain ⟨x, _, rfl⟩ := List.mem_map.1 hd
  rfl
theorem plainL.mapP {α : Type} {f : α → DV} {l : List α} (hf : ∀ x, pureV (f x) = true) : plainL (l.map f) := fun d hd => by
  obtain ⟨x, _, rfl⟩ := List.mem_map.1 hd
  exact hf x

theorem frz_sl {h : List Blk} {n0 k b i n x sz : Nat} {els : List DV} (hl : plainL els) (hb : h[b]? = some (.cells sz els)) (hn : n0 ≤ b) (hx : x = els.length) : frz h n0 (k + 1) (.sl b i n x) = some (.fz sz ((els.drop i).take n)) := by
  subst hx
  have hl' : plainL ((els.drop i).take n) := fun d hd => hl d (List.mem_of_mem_drop (List.mem_of_mem_take hd))
  have h2 : (if i = 0 ∧ n = els.length then els else (els.drop i).take n) = (els.drop i).take n := by split <;> simp [*]
  simp only [frz, pureV, Bool.false_eq_true, if_false, if_neg (Nat.not_lt.2 hn), hb, if_true, h2, hl'.frz, Option.map_some]
theorem frz_fz {h : List Blk} {n0 k sz : Nat} {l : List DV} (hl : plainL l) : frz h n0 (k + 1) (.fz sz l) = some (.fz sz l) := by
  simp only [frz, pureV, Bool.false_eq_true, if_false, hl.frz, Option.map_some]
theorem HPre.length {h h' : List Blk} (hp : HPre h h') : h.length ≤ h'.length := by
  rcases Nat.lt_or_ge h'.length h.length with hl | hl
  · have := hp h'.length h[h'.length] (List.getElem?_eq_getElem hl)
    rw [List.getElem?_eq_none (Nat.le_refl _)] at this
    cases this
  · exact hl

/-- A slice that the call made for itself (or nil), behind the blocks h1: its elements. -/
def Own (h1 : List Blk) (sz : Nat) (h : List Blk) (d : DV) (els : List DV) : Prop :=
  HPre h1 h ∧ ((d = .p (.slice none 0 0) ∧ els = []) ∨ (∃ b, d = .sl b 0 els.length els.length ∧ h1.length ≤ b ∧ h[b]? = some (.cells sz els)))
theorem Own.nil {h : List Blk} {sz : Nat} : Own h sz h (.p (.slice none 0 0)) [] := ⟨HPre.refl h, .inl ⟨rfl, rfl⟩⟩
theorem Own.nil' {h1 h : List Blk} {sz : Nat} (hp : HPre h1 h) : Own h1 sz h (.p (.slice none 0 0)) [] := ⟨hp, .inl ⟨rfl, rfl⟩⟩
theorem Own.pre {h1 h : List Blk} {sz : Nat} {d : DV} {els : List DV} (ho : Own h1 sz h d els) : HPre h1 h := ho.1
theorem Own.mono {h1 h h' : List Blk} {sz : Nat} {d : DV} {els : List DV} (ho : Own h1 sz h d els) (hp : HPre h h') : Own h1 sz h' d els := by
  refine ⟨ho.1.trans hp, ?_⟩
  rcases ho.2 with h1 | ⟨b, h1, h2, h3⟩
  · exact .inl h1
  · exact .inr ⟨b, h1, h2, hp _ _ h3⟩
theorem Own.push {h1 h x : List Blk} {sz : Nat} {d : DV} {els : List DV} (ho : Own h1 sz h d els) : Own h1 sz (h ++ x) d els := ho.mono (HPre.append h x)
theorem Own.base {h0 h1 h : List Blk} {sz : Nat} {d : DV} {els : List DV} (ho : Own h1 sz h d els) (hp : HPre h0 h1) : Own h0 sz h d els := by
  refine ⟨hp.trans ho.1, ?_⟩
  rcases ho.2 with h1 | ⟨b, h1, h2, h3⟩
  · exact .inl h1
  · exact .inr ⟨b, h1, Nat.le_trans hp.length h2, h3⟩
theorem Own.elems {h1 h : List Blk} {sz : Nat} {d : DV} {els : List DV} (ho : Own h1 sz h d els) : elemsOf h sz d = some els := by
  rcases ho.2 with ⟨rfl, rfl⟩ | ⟨b, rfl, h2, h3⟩
  · rfl
  · simp [elemsOf, h3]
theorem Own.slice {h1 h : List Blk} {sz : Nat} {d : DV} {els : List DV} (ho : Own h1 sz h d els) : sliceOf h sz d = some els := by
  rcases ho.2 with ⟨rfl, rfl⟩ | ⟨b, rfl, h2, h3⟩
  · rfl
  · simp [sliceOf, elemsOf, h3]
theorem WkV.nilfz {h0 h : List Blk} {sz : Nat} (hp : HPre h0 h) : WkV h0 (.p (.slice none 0 0)) h (.fz sz []) h0 := by
  intro h0w e v he hr hv hl'
  obtain ⟨e', g1, g2, g3, g4, g5⟩ := WkV.frz (h0 := h0) (h := h) (d := .p (.slice none 0 0)) 1 hp frz_p h0w e v he hr hv hl'
  refine ⟨e', g1, g2, g3, ?_, g5⟩
  obtain ⟨rfl, _⟩ := vr_p g4
  exact .fz0
theorem Own.wk {h0 h : List Blk} {sz : Nat} {d : DV} {els : List DV} (ho : Own h0 sz h d els) (hl : plainL els) : WkV h0 d h (.fz sz els) h0 := by
  rcases ho.2 with ⟨rfl, rfl⟩ | ⟨b, rfl, h2, h3⟩
  · exact WkV.nilfz ho.1
  · refine WkV.frz 1 ho.1 ?_
    rw [frz_sl hl h3 h2 rfl]
    simp

/-- Two slices of different rows. -/
def apart (d d2 : DV) : Prop := ∀ b i n x b' i' n' x', d = .sl b i n x → d2 = .sl b' i' n' x' → b ≠ b'
theorem apart.symm {d d2 : DV} (h : apart d d2) : apart d2 d := fun b i n x b' i' n' x' h1 h2 => (h b' i' n' x' b i n x h2 h1).symm
theorem apart.nil {d : DV} {v : Value} : apart (.p v) d := fun b i n x b' i' n' x' h1 => by cases h1
theorem apart.nil' {d : DV} {v : Value} : apart d (.p v) := apart.nil.symm

/-- Append to a slice that the call made for itself. -/
theorem vc_own {P : Program} {G : Nat → DV} {h1 : List Blk} {sz bytes : Nat} {dx dy : DV} {h : List Blk} {els ys : List DV} {K : DV → List Blk → Prop} (ho : Own h1 sz h dx els) (hy : elemsOf h sz dy = some ys) (hb : (els.length + ys.length) * bytes ≤ 140737488355328)
    (hK : ∀ d' h', Own h1 sz h' d' (els ++ ys) → h.length ≤ h'.length → (∀ d2 sz2 els2, Own h1 sz2 h d2 els2 → apart dx d2 → Own h1 sz2 h' d2 els2 ∧ apart d' d2) → K d' h') : vcO P G (.app sz bytes (.c dx) (.c dy)) (Opd.ev G []) h K := by
  simp only [vcO, ev_c, hy]
  rcases ho.2 with ⟨rfl, rfl⟩ | ⟨b, rfl, h2, h3⟩
  · refine ⟨by simpa using hb, fun h5 => ?_, fun h5 => ?_⟩
    · subst h5
      exact hK _ _ (.nil' ho.1) (Nat.le_refl _) (fun d2 sz2 els2 h ha => ⟨h, ha⟩)
    · refine hK _ _ ⟨ho.1.trans (HPre.append _ _), .inr ⟨h.length, by simp, ho.1.length, by simp⟩⟩ (by simp) (fun d2 sz2 els2 hd ha => ⟨hd.mono (HPre.append h _), fun b i n x b' i' n' x' e1 e2 => ?_⟩)
      cases e1
      rcases hd.2 with ⟨rfl, _⟩ | ⟨b2, rfl, _, g3⟩
      · cases e2
      · cases e2
        have := (List.getElem?_eq_some_iff.1 g3).1
        omega
  · simp only [h3, if_true]
    have hlt : b < h.length := (List.getElem?_eq_some_iff.1 h3).1
    refine ⟨trivial, trivial, hb, trivial, Nat.le_refl _, ?_⟩
    rw [if_pos (.inl trivial)]
    have hpre : HPre h1 (h.set b (.cells sz (els ++ ys))) := fun c k hk => by
      have hc : c < h1.length := (List.getElem?_eq_some_iff.1 hk).1
      rw [List.getElem?_set_ne (by omega)]
      exact ho.1 _ _ hk
    refine hK _ _ ⟨hpre, .inr ⟨b, by simp, h2, by simp [hlt]⟩⟩ (by simp) (fun d2 sz2 els2 hd ha => ⟨⟨hpre, ?_⟩, fun b1 i n x b' i' n' x' e1 e2 => ?_⟩)
    · rcases hd.2 with hd | ⟨b2, rfl, g2, g3⟩
      · exact .inl hd
      · refine .inr ⟨b2, rfl, g2, ?_⟩
        rw [List.getElem?_set_ne (ha _ _ _ _ _ _ _ _ rfl rfl)]
        exact g3
    · cases e1
      exact ha _ _ _ _ _ _ _ _ rfl e2
theorem AA_own {P : Program} {G : Nat → DV} {n h1 : List Blk} {sz bytes : Nat} {dx dy : DV} {dst : Option Nat} {l : List DOper} {t : List DV} {h : List Blk} {st : List Fr} {Q : DX → St → Prop} {els ys : List DV} (ho : Own h1 sz h dx els) (hy : elemsOf h sz dy = some ys) (hb : (els.length + ys.length) * bytes ≤ 140737488355328)
    (hK : ∀ d' h', Own h1 sz h' d' (els ++ ys) → h.length ≤ h'.length → (∀ d2 sz2 els2, Own h1 sz2 h d2 els2 → apart dx d2 → Own h1 sz2 h' d2 els2 ∧ apart d' d2) → KK P G n dst l t st Q d' h') : AA P G n sz bytes dx dy dst l t h st Q := ⟨vc_own ho hy hb hK⟩
theorem DA_own {P : Program} {G : Nat → DV} {n h1 : List Blk} {sz bytes : Nat} {dx dy : DV} {dst : Option Nat} {fr : List Nat} {l : List DDOp} {t : List DV} {Hs : List (List Blk)} {h : List Blk} {st : List Fr} {Q : DX → St → Prop} {els ys : List DV} (ho : Own h1 sz h dx els) (hy : elemsOf h sz dy = some ys) (hb : (els.length + ys.length) * bytes ≤ 140737488355328)
    (hK : ∀ d' h', Own h1 sz h' d' (els ++ ys) → h.length ≤ h'.length → (∀ d2 sz2 els2, Own h1 sz2 h d2 els2 → apart dx d2 → Own h1 sz2 h' d2 els2 ∧ apart d' d2) → DH P G n dst fr l t Hs h st Q d' h') : DA P G n sz bytes dx dy dst fr l t Hs h st Q := ⟨vc_own ho hy hb hK⟩
theorem AA_at {P : Program} {G : Nat → DV} {n : List Blk} {sz bytes : Nat} {dx dy : DV} {dst : Option Nat} {l : List DOper} {t : List DV} {h : List Blk} {st : List Fr} {Q : DX → St → Prop}
    (hv : vcO P G (.app sz bytes (.c dx) (.c dy)) (Opd.ev G []) h (KK P G n dst l t st Q)) : AA P G n sz bytes dx dy dst l t h st Q := ⟨hv⟩

/-- d, read while the blocks of h0 alone are alive: as d'. -/
def FrzR (h h0 : List Blk) (d d' : DV) : Prop := ∀ e v, e.h = h → HR e → VR e d v → VR ⟨e.ρ, h0, e.H, e.pv⟩ d' v
theorem FrzR.p {h h0 : List Blk} {v : Value} : FrzR h h0 (.p v) (.p v) := fun e u he hr hv => hv.pure rfl
theorem FrzR.any {h h0 : List Blk} {d : DV} : FrzR h h0 d .any := fun e u he hr hv => .any
theorem FrzR.nil {h h0 : List Blk} {sz : Nat} : FrzR h h0 (.p (.slice none 0 0)) (.fz sz []) := fun e u he hr hv => by
  obtain ⟨rfl, _⟩ := vr_p hv
  exact .fz0
theorem FrzR.of {h h0 : List Blk} {d d' : DV} (k : Nat) (hd : ∀ (b : Nat) (k : Blk), h0[b]? = some k → h[b]? = some k ∨ k = .dead) (hw : HWF h0) (hf : Den.frz h h0.length k d = some d') : FrzR h h0 d d' := fun e v he hr hv => by
  subst he
  exact frz_sound hr rfl hd hw k d d' v hf hv
theorem FrzR.of0 {h : List Blk} {d d' : DV} (k : Nat) (hf : Den.frz h 0 k d = some d') : FrzR h [] d d' :=
  FrzR.of k (fun b k hb => by simp at hb) (fun b k hb => by simp at hb) hf
theorem Own.frzR {h1 h : List Blk} {sz : Nat} {d : DV} {els : List DV} (ho : Own h1 sz h d els) (hl : plainL els) : FrzR h [] d (.fz sz els) := by
  rcases ho.2 with ⟨rfl, rfl⟩ | ⟨b, rfl, h2, h3⟩
  · exact .nil
  · exact FrzR.of0 1 (by rw [frz_sl hl h3 (Nat.zero_le _) rfl]; simp)
theorem FrzR.fz {h : List Blk} {sz : Nat} {l : List DV} (hl : plainL l) : FrzR h [] (.fz sz l) (.fz sz l) := FrzR.of0 1 (frz_fz hl)
theorem FrzR.sl {h : List Blk} {b i n x sz : Nat} {els : List DV} (hb : h[b]? = some (.cells sz els)) (hx : x = els.length) (hl : plainL els) : FrzR h [] (.sl b i n x) (.fz sz ((els.drop i).take n)) := by
  exact FrzR.of0 1 (frz_sl hl hb (Nat.zero_le _) hx)

inductive FrzL (h h0 : List Blk) : List DV → List DV → Prop
  | nil : FrzL h h0 [] []
  | cons {d d' : DV} {l l' : List DV} (h1 : FrzR h h0 d d') (h2 : FrzL h h0 l l') : FrzL h h0 (d :: l) (d' :: l')
theorem FrzL.tr {h h0 : List Blk} {l l' : List DV} (hl : FrzL h h0 l l') : l'.length = l.length ∧ ∀ i (hi : i < l.length) (hi' : i < l'.length), FrzR h h0 l[i] l'[i] := by
  induction hl with
  | nil => exact ⟨rfl, fun i hi => absurd hi (by simp)⟩
  | cons h1 h2 ih =>
    refine ⟨by simp [ih.1], fun i hi hi' => ?_⟩
    cases i with
    | zero => simpa using h1
    | succ i => simpa using ih.2 i (by simpa using hi) (by simpa using hi')

/-- A call that only reads: while it runs, nobody writes what stands there. -/
theorem Ok.borrow {P : Program} {G : Nat → DV} {f : FuncId} {args args' : List DV} {h : List Blk} {v : DV} (hf : Ok P G f args' [] v []) (hv : pureV v = true) (ha : FrzL h [] args args') (hG : ∀ g, FrzR h [] (G g) (G g)) : Ok P G f args h v h := by
  intro e w vs he hH hr hg ht
  have hd0 := env_drop hr [] (fun b k hb => by simp at hb)
  have hr0 : HR ⟨e.ρ, [], e.H, e.pv⟩ := hd0.2 (fun b k hb => by simp at hb)
  obtain ⟨h1, h2⟩ := ha.tr
  refine (hf ⟨e.ρ, [], e.H, e.pv⟩ w vs rfl hH hr0 (fun g => ⟨hG g e _ he hr (hg g).1, GX.mono (hg g).1 (hg g).2 fun _ _ => rfl⟩) ⟨h1.trans ht.1, fun i hi hi' => h2 i (by omega) hi e _ he hr (ht.2 i (by omega) hi')⟩).mono ?_
  rintro en w' ⟨v', e', g1, g2, g3, g4, g5, g6, g7⟩
  have hmem : ∀ r, r < e.H.size → e'.H[r]? = e.H[r]? := fun r hr => by
    by_cases hp : e.pv r
    · exact g7.pvH r hp
    · exact (g7.ro r ⟨hr, fun b q hk => absurd rfl hk, hp⟩).2
  have ev : Ev e.h.length e ⟨e.ρ, e.h, e'.H, e'.pv⟩ := ⟨Nat.le_refl _, g7.size, fun r hr' => ⟨⟨Nat.lt_of_lt_of_le hr'.1 g7.size, hr'.2.1, by rw [g7.pv]; exact hr'.2.2⟩, hmem r hr'.1⟩, fun b hb k' hk => ⟨k', hk, Key.le_refl _, fun _ => rfl⟩, g7.pv, fun r h => hmem r (hr.pvs r h)⟩
  refine ⟨v', ⟨e.ρ, e.h, e'.H, e'.pv⟩, g1, g2, he, g4, ⟨hr.inj, fun b k hb => ?_, fun r h => Nat.lt_of_lt_of_le (hr.pvs r (by rw [← g7.pv]; exact h)) g7.size, fun r h => hr.pvl r (by rw [← g7.pv]; exact h)⟩, g6.pure hv, ev⟩
  exact (hr.blk b k hb).keep (fun hk => by rw [Env.key_of (e := e) hb]; exact hk) (fun _ _ _ _ => rfl) (Env.key_of hb) (Nat.le_refl _) (fun m l _ _ h => h) (fun c q _ hk hq => hmem _ (hr.lt hk hq)) (fun d v h => h.mono ev)
theorem FrzR.wf {h h1 : List Blk} {d : DV} (hd : ∀ (b : Nat) (k : Blk), h1[b]? = some k → h[b]? = some k ∨ k = .dead) (hw : WF (· < h1.length) d) : FrzR h h1 d d := fun e v he hr hv => by
  subst he
  exact hv.gen (env_drop hr h1 hd).1 hw
/-- The globals hold nothing that is alive. -/
def GZ (G : Nat → DV) : Prop := ∀ g, WF (fun _ => False) (G g)
theorem GZ.any : GZ fun _ => .any := fun g => .any
theorem GZ.frz {G : Nat → DV} (hG : GZ G) {h h1 : List Blk} (hd : ∀ (b : Nat) (k : Blk), h1[b]? = some k → h[b]? = some k ∨ k = .dead) (g : Nat) : FrzR h h1 (G g) (G g) := FrzR.wf hd ((hG g).mono fun b h => h.elim)
theorem Ok.lend {P : Program} {G : Nat → DV} (hG : GZ G) {f : FuncId} {args args' : List DV} {h : List Blk} {v : DV} (hf : Ok P G f args' [] v []) (ha : FrzL h [] args args') (hv : pureV v = true) : Ok P G f args h v h := hf.borrow hv ha (hG.frz fun b k hb => by simp at hb)
theorem Ok.borrow0 {P : Program} {f : FuncId} {args args' : List DV} {h : List Blk} {v : DV} (hf : Ok P (fun _ => .any) f args' [] v []) (hv : pureV v = true) (ha : FrzL h [] args args') : Ok P (fun _ => .any) f args h v h := hf.borrow hv ha fun _ => .any

/-- At a loop's head: of what was made since, some is from now on as it is. -/
def fitsF (h h1 : List Blk) : List DV → List DV → Prop
  | [], [] => True
  | d :: l, d' :: l' => (d' = .any ∨ FrzR h h1 d d') ∧ fitsF h h1 l l'
  | _, _ => False
theorem fitsF_spec {h h1 : List Blk} : ∀ {l l' : List DV}, fitsF h h1 l l' → l'.length = l.length ∧ ∀ i (hi : i < l'.length) (hi' : i < l.length), l'[i] = .any ∨ FrzR h h1 l[i] l'[i]
  | [], [], _ => ⟨rfl, fun i hi => absurd hi (by simp)⟩
  | d :: l, d' :: l', hh => by
    obtain ⟨h1, h2⟩ := fitsF_spec hh.2
    refine ⟨by simp [h1], fun i hi hi' => ?_⟩
    cases i with
    | zero => simpa using hh.1
    | succ i => simpa using h2 i (by simpa using hi) (by simpa using hi')
  | [], _ :: _, hh => hh.elim
  | _ :: _, [], hh => hh.elim
theorem Wk.fitsF {G : Nat → DV} {h0 h h1 : List Blk} {t t' : List DV} (hp : h0.length ≤ h1.length) (hd : ∀ (b : Nat) (k : Blk), h1[b]? = some k → h[b]? = some k ∨ k = .dead) (hw : HWF h0 → HWF h1) (hf : Den.fitsF h h1 t t') (hG : ∀ g, FrzR h h1 (G g) (G g)) : Wk G h0 ⟨t, h⟩ ⟨t', h1⟩ := by
  intro h0w D e a w hr hl
  have hhr := hr.hr
  have he : e.h = h := hr.h
  subst he
  obtain ⟨ev, hh⟩ := env_drop hr.hr h1 hd
  obtain ⟨h2, h3⟩ := fitsF_spec hf
  refine ⟨⟨e.ρ, h1, e.H, e.pv⟩, ⟨rfl, hr.H, hh (hw h0w), fun g => ⟨hG g e _ rfl hr.hr (hr.gr g).1, GX.mono (hr.gr g).1 (hr.gr g).2 fun _ _ => rfl⟩, ⟨by rw [h2]; exact hr.tr.1, fun i hi hi' => ?_⟩, hr.df⟩, ⟨hp, Nat.le_refl _, ev.ro, fun b hb k' hk => ev.key b (Nat.lt_of_lt_of_le hb hp) k' hk, ev.pv, ev.pvH⟩⟩
  have hi1 : i < t'.length := hi
  have hi2 : i < t.length := by omega
  rcases h3 i hi1 hi2 with h4 | h4
  · simp only at h4 ⊢
    rw [h4]; exact .any
  · exact h4 e _ rfl hr.hr (hr.tr.2 i hi2 hi')

/-- At a loop's head: what was made since is no longer spoken of. -/
def fitsT (n : Nat) : List DV → List DV → Prop
  | [], [] => True
  | d :: l, d' :: l' => (d' = .any ∨ (d' = d ∧ WF (· < n) d)) ∧ fitsT n l l'
  | _, _ => False
theorem fitsT.toF {h h1 : List Blk} (hd : ∀ (b : Nat) (k : Blk), h1[b]? = some k → h[b]? = some k ∨ k = .dead) : ∀ {l l' : List DV}, fitsT h1.length l l' → Den.fitsF h h1 l l'
  | [], [], _ => trivial
  | d :: l, d' :: l', hh => ⟨hh.1.imp id fun hx => by rw [hx.1]; exact FrzR.wf hd hx.2, fitsT.toF hd hh.2⟩
  | [], _ :: _, hh => hh.elim
  | _ :: _, [], hh => hh.elim
theorem Wk.trunc {G : Nat → DV} {h0 h1 x : List Blk} {t t' : List DV} (hG : GZ G) (hp : h0.length ≤ h1.length) (hw : HWF h0 → HWF h1) (hf : fitsT h1.length t t') : Wk G h0 ⟨t, h1 ++ x⟩ ⟨t', h1⟩ :=
  have hd : ∀ (b : Nat) (k : Blk), h1[b]? = some k → (h1 ++ x)[b]? = some k ∨ k = .dead := fun b k hb => .inl (HPre.append _ _ _ _ hb)
  Wk.fitsF hp hd hw (fitsT.toF hd hf) (hG.frz hd)
attribute [simp] fitsT
section
variable {B : Nat → Prop}
@[simp] theorem WF_p {v : Value} : WF B (.p v) = True := eq_true .p
@[simp] theorem WF_any : WF B .any = True := eq_true .any
@[simp] theorem WF_ptr {b i o x : Nat} : WF B (.ptr b i o x) = B b := propext ⟨fun h => by cases h with | ptr h => exact h, .ptr⟩
@[simp] theorem WF_sl {b i n x : Nat} : WF B (.sl b i n x) = B b := propext ⟨fun h => by cases h with | sl h => exact h, .sl⟩
@[simp] theorem WF_sa {g : Bool} {z b i o n c x : Nat} : WF B (.sa g z b i o n c x) = B b := propext ⟨fun h => by cases h with | sa h => exact h, .sa⟩
@[simp] theorem WF_mp {b : Nat} : WF B (.mp b) = B b := propext ⟨fun h => by cases h with | mp h => exact h, .mp⟩
@[simp] theorem WF_it {b : Nat} : WF B (.it b) = B b := propext ⟨fun h => by cases h with | it h => exact h, .it⟩
theorem WF_pure {B B' : Nat → Prop} {d : DV} (h : WF B' d) (hd : pureV d = true) : WF B d := by
  induction h with
  | p => exact .p
  | agg _ ih => exact .agg fun j hj => ih j hj (pureL_get (by simpa [pureV] using hd) j hj)
  | tup _ ih => exact .tup fun j hj => ih j hj (pureL_get (by simpa [pureV] using hd) j hj)
  | iface _ ih => exact .iface (ih (by simpa [pureV] using hd))
  | _ => simp [pureV] at hd
theorem WF_all : ∀ n d, SizeOf.sizeOf d < n → WF (fun _ => True) d
  | 0, d, h => absurd h (by omega)
  | n + 1, d, h => by
    have lst : ∀ (l : List DV), SizeOf.sizeOf l < n → ∀ j (hj : j < l.length), WF (fun _ => True) l[j] := fun l hl j hj => WF_all n _ (by have := List.sizeOf_lt_of_mem (List.getElem_mem hj); omega)
    cases d with
    | p => exact .p
    | any => exact .any
    | ptr => exact .ptr trivial
    | sl => exact .sl trivial
    | sa => exact .sa trivial
    | fz sz l => exact .fz (lst l (by simp at h; omega))
    | fp d => exact .fp (WF_all n d (by simp at h; omega))
    | agg l => exact .agg (lst l (by simp at h; omega))
    | tup l => exact .tup (lst l (by simp at h; omega))
    | mp => exact .mp trivial
    | it => exact .it trivial
    | iface t d => exact .iface (WF_all n d (by simp at h; omega))
    | fn f l m => exact .fn (lst l (by simp at h; omega)) (lst m (by simp at h; omega))
    | fm ks l => exact .fm (lst l (by simp at h; omega))
theorem WF_plain {sz : Nat} {l : List DV} (hl : plainL l) : WF B (.fz sz l) := .fz fun j hj => WF_pure (WF_all _ _ (Nat.lt_succ_self _)) (hl _ (List.getElem_mem hj))
theorem WF_list {l : List DV} : (∀ j (hj : j < l.length), WF B l[j]) ↔ ∀ d, d ∈ l → WF B d := ⟨fun h d hd => by obtain ⟨j, hj, rfl⟩ := List.getElem_of_mem hd; exact h j hj, fun h j hj => h _ (List.getElem_mem hj)⟩
@[simp] theorem WF_agg {l : List DV} : WF B (.agg l) = ∀ d, d ∈ l → WF B d := propext ⟨fun h => by cases h with | agg h => exact WF_list.1 h, fun h => .agg (WF_list.2 h)⟩
@[simp] theorem WF_tup {l : List DV} : WF B (.tup l) = ∀ d, d ∈ l → WF B d := propext ⟨fun h => by cases h with | tup h => exact WF_list.1 h, fun h => .tup (WF_list.2 h)⟩
@[simp] theorem WF_iface {t : TypeId} {d : DV} : WF B (.iface t d) = WF B d := propext ⟨fun h => by cases h with | iface h => exact h, .iface⟩
end
theorem HWF.push {h : List Blk} {x : List Blk} (hh : HWF h) (hx : ∀ k, k ∈ x → k.wf (· < (h ++ x).length)) : HWF (h ++ x) := by
  intro b k hb
  rcases Nat.lt_or_ge b h.length with hl | hl
  · rw [List.getElem?_append_left hl] at hb
    exact Blk.wf_mono (fun c hc => by simp; omega) (hh b k hb)
  · rw [List.getElem?_append_right hl] at hb
    exact hx k (List.mem_of_getElem? hb)
theorem HWF.noIter {h : List Blk} (hh : HWF h) {b : Nat} (hb : h.length ≤ b) : noIter h b := fun c l hc => by
  have := hh c _ hc
  simp only [Blk.wf] at this
  omega
theorem noIter_push {h x : List Blk} {b : Nat} (hh : noIter h b) (hx : ∀ l, Blk.mit (some b) l ∉ x) : noIter (h ++ x) b := fun c l hc => by
  rcases Nat.lt_or_ge c h.length with hl | hl
  · rw [List.getElem?_append_left hl] at hc
    exact hh c l hc
  · rw [List.getElem?_append_right hl] at hc
    exact hx l (List.mem_of_getElem? hc)

theorem HPre_set {h1 h : List Blk} {b : Nat} {k : Blk} (hp : HPre h1 h) (hb : h1.length ≤ b) : HPre h1 (h.set b k) := fun c x hc => by
  have : c < h1.length := (List.getElem?_eq_some_iff.1 hc).1
  rw [List.getElem?_set_ne (by omega)]
  exact hp c x hc
@[simp] theorem HV_nil {l : List Blk} : HV [] l = True := eq_true fun b k hb => by simp at hb
@[simp] theorem HV_cons {x : Blk} {l l' : List Blk} : HV (x :: l) (x :: l') = HV l l' := propext ⟨fun h b k hb => by simpa using h (b + 1) k (by simpa using hb), fun h b k hb => by
  cases b with
  | zero => exact .inl (by simpa using hb)
  | succ b => simpa using h b k (by simpa using hb)⟩
@[simp] theorem HV_dead {x : Blk} {l l' : List Blk} : HV (.dead :: l) (x :: l') = HV l l' := propext ⟨fun h b k hb => by simpa using h (b + 1) k (by simpa using hb), fun h b k hb => by
  cases b with
  | zero => exact .inr (by simpa using hb.symm)
  | succ b => simpa using h b k (by simpa using hb)⟩
@[simp] theorem HV_left {h l l' : List Blk} : HV (h ++ l) (h ++ l') = HV l l' := by
  induction h with
  | nil => rfl
  | cons x h ih => rw [List.cons_append, List.cons_append, HV_cons, ih]
/-- A block is hidden. -/
theorem HV_hide {h : List Blk} {b : Nat} : HV (h.set b .dead) h := fun c k hc => by
  rw [List.getElem?_set] at hc
  split at hc
  · split at hc
    · exact .inr (by cases hc; rfl)
    · cases hc
  · exact .inl hc
/-- Another block is written, or it is. -/
theorem HV_set {h h' : List Blk} {b : Nat} {k : Blk} (hp : HV h h') (hb : h[b]? = some .dead ∨ h.length ≤ b) : HV h (h'.set b k) := fun c x hc => by
  by_cases e : b = c
  · subst e
    rcases hb with hb | hb
    · rw [hb] at hc; cases hc; exact .inr rfl
    · rw [List.getElem?_eq_none hb] at hc; cases hc
  · rw [List.getElem?_set_ne e]
    exact hp c x hc
@[simp] theorem HPre_nil {l : List Blk} : HPre [] l = True := eq_true fun b k hb => by simp at hb
@[simp] theorem HPre_cons {x : Blk} {l l' : List Blk} : HPre (x :: l) (x :: l') = HPre l l' := propext ⟨fun h b k hb => by simpa using h (b + 1) k (by simpa using hb), fun h b k hb => by
  cases b with
  | zero => simpa using hb
  | succ b => simpa using h b k (by simpa using hb)⟩
@[simp] theorem HPre_left {h l l' : List Blk} : HPre (h ++ l) (h ++ l') = HPre l l' := by
  induction h with
  | nil => rfl
  | cons x h ih => rw [List.cons_append, List.cons_append, HPre_cons, ih]
theorem Wk.cut {G : Nat → DV} {h0 h h1 : List Blk} {t t' : List DV} (hG : GZ G) (hd : HPre h1 h) (hp : h0.length ≤ h1.length) (hw : HWF h0 → HWF h1) (hf : fitsT h1.length t t') : Wk G h0 ⟨t, h⟩ ⟨t', h1⟩ :=
  have hd : ∀ (b : Nat) (k : Blk), h1[b]? = some k → h[b]? = some k ∨ k = .dead := fun b k hb => .inl (hd _ _ hb)
  Wk.fitsF hp hd hw (fitsT.toF hd hf) (hG.frz hd)
theorem WkV.cut {h0 h h' : List Blk} {d : DV} (hd : HPre h' h) (hn : h0.length ≤ h'.length) (hw : HWF h0 → HWF h') (hwd : WF (· < h'.length) d) : WkV h0 d h d h' := WkV.trunc hn (fun b k hb => .inl (hd _ _ hb)) hw hwd

theorem WkV.ofPure {h0 h : List Blk} {d : DV} (hp : HPre h0 h) (hd : pureV d = true) : WkV h0 d h d h0 := WkV.frz 0 hp (frz_pure hd)
@[simp] theorem WkV_p {h0 h : List Blk} {v : Value} (hp : HPre h0 h) : WkV h0 (.p v) h (.p v) h0 = True := eq_true (WkV.ofPure hp rfl)

end Go.Den

namespace Go.Den
open Go

/-- Append of one, or of some, to a slice that the call made for itself. -/
theorem AA_lits {P : Program} {G : Nat → DV} {n h1 : List Blk} {sz bytes : Nat} {dx : DV} {vs : List DV} {m : Nat} {dst : Option Nat} {l : List DOper} {t : List DV} {h : List Blk} {st : List Fr} {Q : DX → St → Prop} {els : List DV} (ho : Own h1 sz h dx els) (hm : m = vs.length) (hb : (els.length + m) * bytes ≤ 140737488355328)
    (hK : ∀ d' h', Own h1 sz h' d' (els ++ vs) → h.length < h'.length → (∀ d2 sz2 els2, Own h1 sz2 h d2 els2 → apart dx d2 → Own h1 sz2 h' d2 els2 ∧ apart d' d2) → KK P G n dst l t st Q d' h') : AA P G n sz bytes dx (.sl h.length 0 m m) dst l t (h ++ [.cells sz vs]) st Q := by
  subst hm
  refine AA_own ho.push (ys := vs) (by simp [elemsOf]) hb fun d' h' h2 h3 h4 => hK d' h' h2 (by simp at h3; omega) fun d2 sz2 els2 hd ha => h4 d2 sz2 els2 hd.push ha
theorem AA_lit1 {P : Program} {G : Nat → DV} {n h1 : List Blk} {sz bytes : Nat} {dx v : DV} {dst : Option Nat} {l : List DOper} {t : List DV} {h : List Blk} {st : List Fr} {Q : DX → St → Prop} {els : List DV} (ho : Own h1 sz h dx els) (hb : (els.length + 1) * bytes ≤ 140737488355328)
    (hK : ∀ d' h', Own h1 sz h' d' (els ++ [v]) → h.length < h'.length → (∀ d2 sz2 els2, Own h1 sz2 h d2 els2 → apart dx d2 → Own h1 sz2 h' d2 els2 ∧ apart d' d2) → KK P G n dst l t st Q d' h') : AA P G n sz bytes dx (.sl h.length 0 1 1) dst l t (h ++ [.cells sz [v]]) st Q := AA_lits ho rfl hb hK
theorem DA_lits {P : Program} {G : Nat → DV} {n h1 : List Blk} {sz bytes : Nat} {dx : DV} {vs : List DV} {m : Nat} {dst : Option Nat} {fr : List Nat} {l : List DDOp} {t : List DV} {Hs : List (List Blk)} {h : List Blk} {st : List Fr} {Q : DX → St → Prop} {els : List DV} (ho : Own h1 sz h dx els) (hm : m = vs.length) (hb : (els.length + m) * bytes ≤ 140737488355328)
    (hK : ∀ d' h', Own h1 sz h' d' (els ++ vs) → h.length < h'.length → (∀ d2 sz2 els2, Own h1 sz2 h d2 els2 → apart dx d2 → Own h1 sz2 h' d2 els2 ∧ apart d' d2) → DH P G n dst fr l t Hs (h ++ [.cells sz vs]) st Q d' h') : DA P G n sz bytes dx (.sl h.length 0 m m) dst fr l t Hs (h ++ [.cells sz vs]) st Q := by
  subst hm
  refine DA_own ho.push (ys := vs) (by simp [elemsOf]) hb fun d' h' h2 h3 h4 => hK d' h' h2 (by simp at h3; omega) fun d2 sz2 els2 hd ha => h4 d2 sz2 els2 hd.push ha
theorem DA_lit1 {P : Program} {G : Nat → DV} {n h1 : List Blk} {sz bytes : Nat} {dx v : DV} {dst : Option Nat} {fr : List Nat} {l : List DDOp} {t : List DV} {Hs : List (List Blk)} {h : List Blk} {st : List Fr} {Q : DX → St → Prop} {els : List DV} (ho : Own h1 sz h dx els) (hb : (els.length + 1) * bytes ≤ 140737488355328)
    (hK : ∀ d' h', Own h1 sz h' d' (els ++ [v]) → h.length < h'.length → (∀ d2 sz2 els2, Own h1 sz2 h d2 els2 → apart dx d2 → Own h1 sz2 h' d2 els2 ∧ apart d' d2) → DH P G n dst fr l t Hs (h ++ [.cells sz [v]]) st Q d' h') : DA P G n sz bytes dx (.sl h.length 0 1 1) dst fr l t Hs (h ++ [.cells sz [v]]) st Q := DA_lits ho rfl hb hK

@[simp] theorem set_app0 {h l : List Blk} {z : Blk} : (h ++ l).set h.length z = h ++ l.set 0 z := by rw [List.set_append_right _ _ (Nat.le_refl _), Nat.sub_self]
@[simp] theorem set_app {h l : List Blk} {k : Nat} {z : Blk} : (h ++ l).set (h.length + k) z = h ++ l.set k z := by rw [List.set_append_right _ _ (by omega), Nat.add_sub_cancel_left]
@[simp] theorem get_app0 {h l : List Blk} : (h ++ l)[h.length]? = l[0]? := by rw [List.getElem?_append_right (Nat.le_refl _), Nat.sub_self]
@[simp] theorem get_app {h l : List Blk} {k : Nat} : (h ++ l)[h.length + k]? = l[k]? := by rw [List.getElem?_append_right (by omega), Nat.add_sub_cancel_left]
theorem get_pre {h : List Blk} {b : Nat} {k : Blk} (hb : h[b]? = some k) (l : List Blk) : (h ++ l)[b]? = some k := HPre.append h l b k hb

@[simp] theorem size_mk (a : Array UInt8) : (ByteArray.mk a).size = a.size := rfl

/-- A frame of n slots, some of them told. -/
@[simp] def fr (n : Nat) (l : List (Nat × DV)) : List DV := l.foldl (fun t p => sS t p.1 p.2) (List.replicate n .any)

/-- Texts. -/
def strs (l : List ByteArray) : List DV := l.map fun s => .p (.string s)
@[simp] theorem strs_length {l : List ByteArray} : (strs l).length = l.length := by simp [strs]
@[simp] theorem strs_nil : strs [] = [] := rfl
theorem strs_append {a b : List ByteArray} : strs a ++ strs b = strs (a ++ b) := by simp [strs]
theorem strs_one {s : ByteArray} : [DV.p (.string s)] = strs [s] := rfl
theorem strs_push {a : List ByteArray} {s : ByteArray} : strs a ++ [DV.p (.string s)] = strs (a ++ [s]) := by simp [strs]
@[simp] theorem strs_getElem {l : List ByteArray} {i : Nat} (h : i < (strs l).length) : (strs l)[i] = .p (.string (l[i]'(by simpa using h))) := by simp [strs]
theorem strs_get {l : List ByteArray} {i : Nat} (h : i < l.length) : (strs l)[i]?.getD .any = .p (.string l[i]) := by simp [strs, h]
theorem strs_getD {l : List ByteArray} {i : Nat} (h : i < l.length) : (strs l).getD i .any = .p (.string l[i]) := by simp [strs, h]
@[simp] theorem strs_take {l : List ByteArray} {n : Nat} : (strs l).take n = strs (l.take n) := by simp [strs]
@[simp] theorem strs_drop {l : List ByteArray} {n : Nat} : (strs l).drop n = strs (l.drop n) := by simp [strs]
@[simp] theorem strs_plain {l : List ByteArray} : plainL (strs l) := plainL.map
@[simp] theorem strs_eq_nil {l : List ByteArray} : strs l = [] ↔ l = [] := by simp [strs]

@[simp] theorem WF_strs {B : Nat → Prop} {sz : Nat} {l : List ByteArray} : WF B (.fz sz (strs l)) = True := eq_true (WF_plain strs_plain)

/-- Bytes. -/
def bts (l : List UInt8) : List DV := l.map byteD
theorem bytesD_eq (s : ByteArray) : bytesD s = bts s.data.toList := rfl
@[simp] theorem bts_length {l : List UInt8} : (bts l).length = l.length := by simp [bts]
@[simp] theorem bts_nil : bts [] = [] := rfl
theorem bts_append {a b : List UInt8} : bts a ++ bts b = bts (a ++ b) := by simp [bts]
theorem bts_push {a : List UInt8} {s : UInt8} : bts a ++ [byteD s] = bts (a ++ [s]) := by simp [bts]
@[simp] theorem bts_getElem {l : List UInt8} {i : Nat} (h : i < (bts l).length) : (bts l)[i] = .p (.int .u8 ((l[i]'(by simpa using h)).toNat)) := by simp [bts, byteD]
theorem bts_get {l : List UInt8} {i : Nat} (h : i < l.length) : (bts l)[i]?.getD .any = .p (.int .u8 (l[i].toNat)) := by simp [bts, h, byteD]
theorem bts_getD {l : List UInt8} {i : Nat} (h : i < l.length) : (bts l).getD i .any = .p (.int .u8 (l[i].toNat)) := by simp [bts, h, byteD]
@[simp] theorem bts_take {l : List UInt8} {n : Nat} : (bts l).take n = bts (l.take n) := by simp [bts]
@[simp] theorem bts_drop {l : List UInt8} {n : Nat} : (bts l).drop n = bts (l.drop n) := by simp [bts]
@[simp] theorem bts_plain {l : List UInt8} : plainL (bts l) := plainL.map (f := fun b : UInt8 => Value.int .u8 b.toNat)
@[simp] theorem strOf_bts (l : List UInt8) : strOf (bts l) = ⟨l.toArray⟩ := by
  simp only [strOf, bts, List.map_map]
  congr 2
  rw [show toByte ∘ byteD = id by funext b; simp [byteD, toByte]]
  simp
theorem isByte_bts {l : List UInt8} : ∀ d, d ∈ bts l → isByte d = true := by
  intro d hd
  obtain ⟨b, _, rfl⟩ := List.mem_map.1 hd
  have := b.toNat_lt
  simp [byteD, isByte]
  omega
@[simp] theorem isByte_all {l : List UInt8} : (∀ d, d ∈ bts l → isByte d = true) = True := eq_true isByte_bts
@[simp] theorem bytesD_is (s : ByteArray) : bytesD s = bts s.data.toList := rfl
theorem Own.bytes {h1 h : List Blk} {d : DV} {l : List UInt8} (ho : Own h1 1 h d (bts l)) : sliceOf h 1 d = some (bts l) := ho.slice

/-- The next index. -/
theorem wrap_succ {i n : Nat} (h : i < n) (hn : n ≤ 9223372036854775807) : IntKind.i64.wrap ((i : Int) + 1) = ((i + 1 : Nat) : Int) := by
  simp [IntKind.wrap, IntKind.bits, IntKind.signed]; omega
theorem maxLen_eq : maxLen = 9223372036854775807 := rfl

theorem Shaped.bytes {d : DV} (h : Shaped (.sl 1 (.int .u8)) d) : ∃ l : List UInt8, d = .fz 1 (bts l) ∧ l.length ≤ maxLen := by
  cases h with
  | @sl _ _ l hl h =>
    have : ∃ l' : List UInt8, l = bts l' := by
      clear hl
      induction l with
      | nil => exact ⟨[], rfl⟩
      | cons d l ih =>
        obtain ⟨l', h1⟩ := ih fun d hd => h d (by simp [hd])
        have h3 := h d (by simp)
        cases h3 with
        | @int _ n hw =>
          have hb : IntKind.u8.min ≤ n ∧ n ≤ IntKind.u8.max := by simpa [Lit.wf] using hw
          have e1 : IntKind.u8.min = 0 := rfl
          have e2 : IntKind.u8.max = 255 := rfl
          rw [e1, e2] at hb
          refine ⟨UInt8.ofNat n.toNat :: l', ?_⟩
          rw [h1]
          have : ((UInt8.ofNat n.toNat).toNat : Int) = n := by simp; omega
          simp only [bts, byteD, List.map_cons, this]
    obtain ⟨l', rfl⟩ := this
    exact ⟨l', rfl, by simpa using hl⟩

theorem Shaped.strs {d : DV} (h : Shaped (.sl 1 .str) d) : ∃ l : List ByteArray, d = .fz 1 (Den.strs l) ∧ l.length ≤ maxLen ∧ ∀ s, s ∈ l → s.size ≤ maxLen := by
  cases h with
  | @sl _ _ l hl h =>
    have : ∃ l' : List ByteArray, l = Den.strs l' ∧ ∀ s, s ∈ l' → s.size ≤ maxLen := by
      clear hl
      induction l with
      | nil => exact ⟨[], rfl, by simp⟩
      | cons d l ih =>
        obtain ⟨l', h1, h2⟩ := ih fun d hd => h d (by simp [hd])
        have h3 := h d (by simp)
        cases h3 with
        | @str s hs => exact ⟨s :: l', by simp [Den.strs, h1], by simpa using ⟨hs, h2⟩⟩
    obtain ⟨l', rfl, h2⟩ := this
    exact ⟨l', rfl, by simpa using hl, h2⟩

@[simp] theorem toNat_succ (n : Nat) : ((n : Int) + 1).toNat = n + 1 := by omega
@[simp] theorem nonneg_succ (n : Nat) : (0 ≤ (n : Int) + 1) = True := by simp; omega
@[simp] theorem succ_lt_cast (n m : Nat) : ((n : Int) + 1 < (m : Int)) = (n + 1 < m) := by simp; omega
@[simp] theorem succ_le_cast (n m : Nat) : ((n : Int) + 1 ≤ (m : Int)) = (n + 1 ≤ m) := by simp; omega
@[simp] theorem le_succ_self (n : Nat) : ((n : Int) ≤ (n : Int) + 1) = True := by simp; omega
@[simp] theorem lt_succ_self (n : Nat) : ((n : Int) < (n : Int) + 1) = True := by simp; omega
@[simp] theorem min_le_l {a b : Nat} : (min a b ≤ a) = True := eq_true (Nat.min_le_left a b)
@[simp] theorem min_le_r {a b : Nat} : (min a b ≤ b) = True := eq_true (Nat.min_le_right a b)
@[simp] theorem imin_lit {n k : Nat} : (if (no_index (@OfNat.ofNat Int k _)) < (n : Int) then (no_index (@OfNat.ofNat Int k _)) else (n : Int)) = ((min n (@OfNat.ofNat Nat k _) : Nat) : Int) := by
  have : (@OfNat.ofNat Int k _) = ((@OfNat.ofNat Nat k _ : Nat) : Int) := rfl
  rw [this]
  split <;> omega
@[simp] theorem imax_lit {n k : Nat} : (if (n : Int) < (no_index (@OfNat.ofNat Int k _)) then (no_index (@OfNat.ofNat Int k _)) else (n : Int)) = ((max n (@OfNat.ofNat Nat k _) : Nat) : Int) := by
  have : (@OfNat.ofNat Int k _) = ((@OfNat.ofNat Nat k _ : Nat) : Int) := rfl
  rw [this]
  split <;> omega
@[simp] theorem iminNN {n k : Nat} : (if (k : Int) < (n : Int) then (k : Int) else (n : Int)) = ((min n k : Nat) : Int) := by split <;> omega
@[simp] theorem imaxNN {n k : Nat} : (if (n : Int) < (k : Int) then (k : Int) else (n : Int)) = ((max n k : Nat) : Int) := by split <;> omega

theorem okWide_float {P : Program} {w : World} {r : Reach} {base : Nat} {t : TypeId} {k : FloatKind} {v : Value} (ht : P.underlying t = some (.float k)) (h : Value.okWide P w r base t v) : ∃ n, v = .float k n := by
  simp only [Value.okWide, ht, Cell.okWide] at h
  cases v <;> simp_all [Cell.ok]
/-- A law's argument, opened. -/
theorem open_arg {H : Type} {enc : TypeId × Value → H} {P : Program} {w : World} {r : Reach} {b0 base : Nat} {spare : Nat → Bool} {held : Bool} {t : TypeId} {v : Value} {d : DataW H} {ps : List MemPlace} {m : Nat} {sh : Sh} (hsh : shOf P m t = some sh) (hval : Value.okWide P w r b0 t v)
    (hd : DataW.Trod enc P w base spare held t v d ps) : ∃ e, Shaped sh e ∧ VR (env0 w) e v := by
  obtain ⟨fuel, hf⟩ := hd
  obtain ⟨e, u, h1, h2, h3, _, _⟩ := open_sh m t sh fuel _ _ hsh hf
  refine ⟨e, h1, ?_⟩
  suffices h : u = v by rw [← h]; exact h2
  have one : ∀ {x y : Value}, x.oneCell' = true → y.oneCell' = true → x.cells.toList = y.cells.toList → x = y := by
    intro x y hx hy hxy
    rw [one_cells hx, one_cells hy] at hxy
    simpa using hxy
  cases m with
  | zero => cases hsh
  | succ m =>
    simp only [shOf] at hsh
    split at hsh
    · rename_i k hu
      cases hsh
      obtain ⟨n, rfl⟩ := Go.WideShapes.okWide_int hu hval
      cases h1 with
      | int => obtain ⟨rfl, g⟩ := vr_p h2; exact one g rfl h3
    · rename_i k hu
      cases hsh
      obtain ⟨n, rfl⟩ := okWide_float hu hval
      cases h1 with
      | flt => obtain ⟨rfl, g⟩ := vr_p h2; exact one g rfl h3
    · rename_i hu
      cases hsh
      obtain ⟨n, rfl⟩ := Go.WideShapes.okWide_bool hu hval
      cases h1 with
      | bool => obtain ⟨rfl, g⟩ := vr_p h2; exact one g rfl h3
    · rename_i hu
      cases hsh
      obtain ⟨n, rfl⟩ := Go.WideShapes.okWide_string hu hval
      cases h1 with
      | str => obtain ⟨rfl, g⟩ := vr_p h2; exact one g rfl h3
    · rename_i el hu
      split at hsh
      · obtain ⟨a, len, cap, rfl⟩ := Go.WideShapes.okWide_slice hu hval
        cases hel : shOf P m el with
        | none =>
          rw [hel] at hsh
          cases hsh
          cases h1 with
          | opq => obtain ⟨rfl, g⟩ := vr_p h2; exact one rfl rfl h3
        | some she =>
          rw [hel] at hsh
          cases hsh
          cases h1 with
          | sl => obtain ⟨a', c', rfl, _⟩ := vr_fz_n h2; exact one rfl rfl h3
      · cases hsh
    · rename_i fs hu
      split at hsh
      · obtain ⟨parts, _, rfl⟩ := Option.map_eq_some_iff.1 hsh
        obtain ⟨cs, rfl, _⟩ := Go.WideShapes.okWide_struct hu hval
        cases h1 with
        | st =>
          obtain ⟨vs, rfl, _⟩ := vr_agg h2
          simp only [Value.cells] at h3
          rw [Array.toList_inj.1 h3]
      · cases hsh
    · rename_i k e hu
      split at hsh
      · obtain ⟨parts, _, rfl⟩ := Option.map_eq_some_iff.1 hsh
        simp only [Value.okWide, hu] at hval
        obtain ⟨cs, rfl, _⟩ := hval
        cases h1 with
        | st =>
          obtain ⟨vs, rfl, _⟩ := vr_agg h2
          simp only [Value.cells] at h3
          rw [Array.toList_inj.1 h3]
      · cases hsh
    · cases hsh

end Go.Den

namespace Go.Den
open Go

/-! A call of plain values, by reckoning. -/
def binE (op : BinOp) (x y : Value) : Option Value :=
  match x, y with
  | .int k a, .int k' b =>
    match op with
    | .shl => if 0 ≤ b then some (.int k (ishl k a b)) else none
    | .shr => if 0 ≤ b then some (.int k (ishr k a b)) else none
    | .add => if k = k' then some (.int k (k.wrap (a + b))) else none
    | .sub => if k = k' then some (.int k (k.wrap (a - b))) else none
    | .mul => if k = k' then some (.int k (k.wrap (a * b))) else none
    | .quo => if k = k' ∧ b ≠ 0 then some (.int k (k.wrap (a.tdiv b))) else none
    | .rem => if k = k' ∧ b ≠ 0 then some (.int k (a.tmod b)) else none
    | .and => if k = k' then some (.int k (iand k a b)) else none
    | .or => if k = k' then some (.int k (ior k a b)) else none
    | .xor => if k = k' then some (.int k (ixor k a b)) else none
    | .andNot => if k = k' then some (.int k (iandn k a b)) else none
    | .eql => if k = k' then some (.bool (a == b)) else none
    | .neq => if k = k' then some (.bool (a != b)) else none
    | .lss => if k = k' then some (.bool (decide (a < b))) else none
    | .leq => if k = k' then some (.bool (decide (a ≤ b))) else none
    | .gtr => if k = k' then some (.bool (decide (b < a))) else none
    | .geq => if k = k' then some (.bool (decide (b ≤ a))) else none
  | .string a, .string b =>
    match op with
    | .add => if ((a.size + b.size : Nat) : Int) ≤ 9223372036854775807 then some (.string (a ++ b)) else none
    | .eql => some (.bool (decide (a = b)))
    | .neq => some (.bool (!decide (a = b)))
    | .lss => some (.bool (Op.bytesLess a.data.toList b.data.toList))
    | .leq => some (.bool (Op.bytesLess a.data.toList b.data.toList || decide (a = b)))
    | .gtr => some (.bool (!(Op.bytesLess a.data.toList b.data.toList || decide (a = b))))
    | .geq => some (.bool (!(Op.bytesLess a.data.toList b.data.toList)))
    | _ => none
  | .float k a, .float k' b =>
    match op with
    | .add => if k = k' ∧ (k.format.add a b).isSome = true then some (.float k ((k.format.add a b).getD 0)) else none
    | .eql => if k = k' then some (.bool (k.format.order a b == some .eq)) else none
    | .neq => if k = k' then some (.bool (k.format.order a b != some .eq)) else none
    | .lss => if k = k' then some (.bool (k.format.order a b == some .lt)) else none
    | .leq => if k = k' then some (.bool (k.format.order a b == some .lt || k.format.order a b == some .eq)) else none
    | .gtr => if k = k' then some (.bool (k.format.order a b == some .gt)) else none
    | .geq => if k = k' then some (.bool (k.format.order a b == some .gt || k.format.order a b == some .eq)) else none
    | _ => none
  | _, _ => none
theorem binE_sound {op : BinOp} {x y v : Value} {K : Value → Prop} (H : binE op x y = some v) (hK : K v) : binK op x y K := by
  unfold binE at H
  unfold binK
  repeat' split at H
  all_goals first | (cases H; done) | (cases H; simp_all; done) | (rename_i hc; obtain ⟨rfl, hs⟩ := hc; cases H; exact ⟨rfl, hs, hK⟩)

def unE (op : UnOp) (x : Value) : Option Value :=
  match op, x with
  | .neg, .int k n => some (.int k (k.wrap (0 - n)))
  | .xor, .int k n => some (.int k (inot k n))
  | .not, .bool b => some (.bool (!b))
  | _, _ => none
theorem unE_sound {op : UnOp} {x v : Value} {K : Value → Prop} (H : unE op x = some v) (hK : K v) : unK op x K := by
  unfold unE at H
  unfold unK
  repeat' split at H
  all_goals first | (cases H; done) | (cases H; simp_all; done)

abbrev Rs := Option (DV × List Blk)

/-- No iterator runs over this map, by reckoning. -/
def noIterB (h : List Blk) (b : Nat) : Bool := h.all fun k => match k with
  | .mit (some m) _ => m != b
  | _ => true
theorem noIterB_sound {h : List Blk} {b : Nat} (H : noIterB h b = true) : noIter h b := fun c l hc => by
  have := List.all_eq_true.1 H _ (List.mem_of_getElem? hc)
  simp at this
def evO (P : Program) (G : Nat → DV) (call : FuncId → List DV → List Blk → Rs) (pc : FuncId → List DV → Option DV) (o : DO) (ev : Opd → DV) (h : List Blk) : Rs :=
  match o with
  | .mov x => some (ev x, h)
  | .pick c a b => match ev c with
    | .p (.bool t) => if t = true then some (ev a, h) else some (ev b, h)
    | _ => none
  | .bin op x y => match ev x, ev y with
    | .p a, .p b => (binE op a b).map fun v => (.p v, h)
    | _, _ => none
  | .eqb neg x y => match ev x, ev y with
    | .p (.bool a), .p (.bool b) => some (.p (.bool ((a == b) != neg)), h)
    | _, _ => none
  | .eqn neg k x => match isNilD h k (ev x) with
    | some b => some (.p (.bool (b != neg)), h)
    | none => none
  | .eqp neg x y => match ev x, ev y with
    | .ptr b _ o n, .ptr b' _ o' n' => match h[b]? with
      | some (.cells sz els) => match h[b']? with
        | some (.cells sz' els') => if n = els.length ∧ n' = els'.length ∧ b ≠ b' ∧ o = 0 ∧ o' = 0 ∧ sz ≠ 1 ∧ sz' ≠ 1 then some (.p (.bool neg), h) else none
        | _ => none
      | _ => none
    | _, _ => none
  | .eqs neg ks x y => match ev x, ev y with
    | .agg xs, .agg ys => match cellsEq ks xs ys with
      | some r => some (.p (.bool (r != neg)), h)
      | none => none
    | _, _ => none
  | .un op x => match ev x with
    | .p a => (unE op a).map fun v => (.p v, h)
    | _ => none
  | .cint k x => match ev x with
    | .p (.int _ n) => some (.p (.int k (k.wrap n)), h)
    | _ => none
  | .cstr x => match ev x with
    | .p (.int _ n) => some (.p (.string (Utf8.encode n)), h)
    | .p (.string s) => some (.p (.string s), h)
    | _ => none
  | .b2s x => match sliceOf h 1 (ev x) with
    | some l => if l.all isByte = true then some (.p (.string (strOf l)), h) else none
    | none => none
  | .s2b x => match ev x with
    | .p (.string s) => some (.fz 1 (bytesD s), h)
    | _ => none
  | .s2bl x => match ev x with
    | .p (.string s) => some (.sl h.length 0 s.size s.size, h ++ [.cells 1 (bytesD s)])
    | _ => none
  | .lens x => match ev x with
    | .p (.string s) => some (.p (.int .i64 s.size), h)
    | _ => none
  | .lenl x => match ev x with
    | .p (.slice none 0 0) => some (.p (.int .i64 0), h)
    | .fz _ l => some (.p (.int .i64 l.length), h)
    | .sl _ _ n _ => some (.p (.int .i64 n), h)
    | .sa _ _ _ _ _ n _ _ => some (.p (.int .i64 n), h)
    | _ => none
  | .mm mx x y => match ev x, ev y with
    | .p (.int k a), .p (.int _ b) => some (.p (.int k (if mx then (if a < b then b else a) else (if b < a then b else a))), h)
    | _, _ => none
  | .slcs x lo hi =>
    match ev x with
    | .p (.string s) =>
      match lo.elim (DV.p (.int .i64 0)) ev, hi.elim (DV.p (.int .i64 s.size)) ev with
      | .p (.int _ l), .p (.int _ r) => if 0 ≤ l ∧ l ≤ r ∧ r ≤ s.size then some (.p (.string (s.extract l.toNat r.toNat)), h) else none
      | _, _ => none
    | _ => none
  | .idxs x i => match ev x, ev i with
    | .p (.string s), .p (.int _ j) => if 0 ≤ j ∧ j < s.size then some (byteD (s.data.toList.getD j.toNat 0), h) else none
    | _, _ => none
  | .idxa n sz g x i => match ev x, ev i with
    | .agg cs, .p (.int _ j) => if 0 ≤ j ∧ j < n ∧ cs.length = n * sz then some (sub (.agg cs) (j.toNat * sz) sz g, h) else none
    | _, _ => none
  | .fld o sz g x => match ev x with
    | .agg cs => if o + sz ≤ cs.length then some (sub (.agg cs) o sz g, h) else none
    | _ => none
  | .bld zero parts =>
    match parts.foldl (fun (acc : Option (List DV)) p => acc.bind fun cs => if (ev p.2.2).size = p.2.1 ∧ (ev p.2.2).storable = true ∧ p.1 + p.2.1 ≤ cs.length then some (cs.take p.1 ++ (ev p.2.2).cells ++ cs.drop (p.1 + p.2.1)) else none) (some zero) with
    | some cs => some (.agg cs, h)
    | none => none
  | .lit sz els => if els.all (fun x => decide ((ev x).size = sz) && (ev x).storable) = true then some (.sl h.length 0 els.length els.length, h ++ [.cells sz (els.map ev)]) else none
  | .litz sz els => if els.all (fun x => decide ((ev x).size = sz) && (ev x).storable) = true then some (.fz sz (els.map ev), h) else none
  | .alloc sz zero => some (.ptr h.length 0 0 1, h ++ [.cells sz [zero]])
  | .boxn sz x => if (ev x).storable = true ∧ (ev x).size = sz then some (.ptr h.length 0 0 1, h ++ [.cells (ev x).size [ev x]]) else none
  | .box x => if (ev x).storable = true then some (.ptr h.length 0 0 1, h ++ [.cells (ev x).size [ev x]]) else none
  | .load g sz a => match ev a with
    | .ptr b i o x => match h[b]? with
      | some (.cells bsz els) => if x = els.length ∧ o + sz ≤ bsz then some (sub (els.getD i .any) o sz g, h) else none
      | _ => none
    | .fp d => if sz ≤ d.size then some (sub d 0 sz g, h) else none
    | .p (.pointer (some q)) => if q.spot = none ∧ g = true ∧ sz = 0 then some (.agg [], h) else none
    | _ => none
  | .store sz a x => match ev a with
    | .ptr b i o n => match h[b]? with
      | some (.cells bsz els) => if n = els.length ∧ (0 < sz ∨ bsz = 0) ∧ o + sz ≤ bsz ∧ (ev x).size = sz ∧ (ev x).storable = true then some (.any, h.set b (.cells bsz (els.set i (put (els.getD i .any) o (ev x) sz)))) else none
      | _ => none
    | _ => none
  | .nilchk k x => match isNilD h k (ev x) with
    | some false => some (ev x, h)
    | _ => none
  | .faddr g o sz a => match ev a with
    | .ptr b i o' x => match h[b]? with
      | some (.cells _ els) => if x = els.length then some (.ptr b i (o' + o) x, h) else none
      | _ => none
    | .fp d => if o + sz ≤ d.size then some (.fp (sub d o sz g), h) else none
    | _ => none
  | .iaddr sz x i => match ev x, ev i with
    | .sl b s n y, .p (.int _ j) => match h[b]? with
      | some (.cells bsz els) => if (y = els.length ∧ bsz = sz) ∧ 0 ≤ j ∧ j < n then some (.ptr b (s + j.toNat) 0 y, h) else none
      | _ => none
    | .fz sz' l, .p (.int _ j) => if sz' = sz ∧ 0 ≤ j ∧ j < l.length then some (.fp (l.getD j.toNat .any), h) else none
    | .sa g z b i o n c x, .p (.int _ j) => match h[b]? with
      | some (.cells _ els) => if (x = els.length ∧ z = sz) ∧ 0 ≤ j ∧ j < n then some (.ptr b i (o + j.toNat * z) x, h) else none
      | _ => none
    | _, _ => none
  | .iaddra n sz g x i => match ev x, ev i with
    | .ptr b s o y, .p (.int _ j) => match h[b]? with
      | some (.cells _ els) => if y = els.length ∧ 0 ≤ j ∧ j < n then some (.ptr b s (o + j.toNat * sz) y, h) else none
      | _ => none
    | .fp d, .p (.int _ j) => if d.size = n * sz ∧ 0 ≤ j ∧ j < n then some (.fp (sub d (j.toNat * sz) sz g), h) else none
    | _, _ => none
  | .slca m z g x lo hi => match ev x with
    | .ptr b i o y => match lo.elim (DV.p (.int .i64 0)) ev, hi.elim (DV.p (.int .i64 m)) ev with
      | .p (.int _ l), .p (.int _ r) => match h[b]? with
        | some (.cells bsz els) => if (y = els.length ∧ o + m * z ≤ bsz) ∧ 0 ≤ l ∧ l ≤ r ∧ r ≤ m then some (.sa g z b i (o + l.toNat * z) (r.toNat - l.toNat) (m - l.toNat) y, h) else none
        | _ => none
      | _, _ => none
    | _ => none
  | .slcl sz x lo hi => match ev x with
    | .fz sz' xs => match lo.elim (DV.p (.int .i64 0)) ev, hi.elim (DV.p (.int .i64 xs.length)) ev with
      | .p (.int _ l), .p (.int _ r) => if sz' = sz ∧ 0 ≤ l ∧ l ≤ r ∧ r ≤ xs.length then some (.fz sz ((xs.drop l.toNat).take (r.toNat - l.toNat)), h) else none
      | _, _ => none
    | .sl b i n x => match lo.elim (DV.p (.int .i64 0)) ev, hi.elim (DV.p (.int .i64 n)) ev with
      | .p (.int _ l), .p (.int _ r) => match h[b]? with
        | some (.cells bsz els) => if (x = els.length ∧ bsz = sz) ∧ 0 ≤ l ∧ l ≤ r ∧ r ≤ n then some (.sl b (i + l.toNat) (r.toNat - l.toNat) x, h) else none
        | _ => none
      | _, _ => none
    | .p (.slice none 0 0) => match lo.elim (DV.p (.int .i64 0)) ev, hi.elim (DV.p (.int .i64 0)) ev with
      | .p (.int _ l), .p (.int _ r) => if l = 0 ∧ r = 0 then some (.p (.slice none 0 0), h) else none
      | _, _ => none
    | .sa g z b i o n c x => match lo.elim (DV.p (.int .i64 0)) ev, hi.elim (DV.p (.int .i64 n)) ev with
      | .p (.int _ l), .p (.int _ r) => match h[b]? with
        | some (.cells _ els) => if (x = els.length ∧ z = sz) ∧ 0 ≤ l ∧ l ≤ r ∧ r ≤ c then some (.sa g z b i (o + l.toNat * z) (r.toNat - l.toNat) (c - l.toNat) x, h) else none
        | _ => none
      | _, _ => none
    | _ => none
  | .ext x i => match ev x with
    | .tup vs => if i < vs.length then some (vs.getD i .any, h) else none
    | _ => none
  | .ifc t x => some (.iface t (ev x), h)
  | .app sz bytes x y => match elemsOf h sz (ev y), ev x with
    | some ys, .p (.slice none 0 0) => if ys.length * bytes ≤ 140737488355328 then (if ys.isEmpty = true then some (.p (.slice none 0 0), h) else some (.sl h.length 0 ys.length ys.length, h ++ [.cells sz ys])) else none
    | some ys, .sl b i n z => match h[b]? with
      | some (.cells bsz els) => if z = els.length ∧ bsz = sz ∧ (n + ys.length) * bytes ≤ 140737488355328 ∧ i = 0 ∧ n ≤ els.length then
          if ¬ (n = els.length ∨ els.length < n + ys.length) then some (.sl b 0 (n + ys.length) els.length, h.set b (.cells sz (els.take n ++ ys ++ els.drop (n + ys.length)))) else some (.sl b 0 (n + ys.length) (n + ys.length), h.set b (.cells sz ((if n = els.length then els else els.take n) ++ ys))) else none
      | _ => none
    | _, _ => none
  | .rngs x => match ev x with
    | .p (.string s) => some (.it h.length, h ++ [.sit s 0])
    | _ => none
  | .nxts a => match ev a with
    | .it b => match h[b]? with
      | some (.sit s pos) => if pos < s.size then some (.tup [.p (.bool true), .p (.int .i64 pos), .p (.int .i32 (Utf8.decode s pos).1)], h.set b (.sit s (pos + (Utf8.decode s pos).2))) else some (.tup [.p (.bool false)], h)
      | _ => none
    | _ => none
  | .eqi neg x y => match ev x, ev y with
    | .iface t a, .iface u b => if t = u then (match cmpOf P t with | some k => (match cellEq k a b with | some r => some (.p (.bool (r != neg)), h) | none => none) | none => none) else some (.p (.bool neg), h)
    | .p .nilIface, .iface _ _ => some (.p (.bool neg), h)
    | .iface _ _, .p .nilIface => some (.p (.bool neg), h)
    | _, _ => none
  | .lenm x => match ev x with
    | .p (.map none) => some (.p (.int .i64 0), h)
    | .mp b => match h[b]? with
      | some (.map es) => some (.p (.int .i64 es.length), h)
      | _ => none
    | _ => none
  | .mkmap => some (.mp h.length, h ++ [.map []])
  | .mkmapr x => match ev x with
    | .p (.int _ _) => some (.mp h.length, h ++ [.map []])
    | _ => none
  | .mupd ck m k x => match ev m, ev k with
    | .mp b, .p kv => match h[b]? with
      | some (.map es) => match mfind ck kv es 0 with
        | some r => if noIterB h b = true then some (.any, h.set b (.map (mput es kv (ev x) r))) else none
        | none => none
      | _ => none
    | _, _ => none
  | .look ck zero ok m k => match ev m, ev k with
    | .p (.map none), .p _ => some (mres ok zero false, h)
    | .mp b, .p kv => match h[b]? with
      | some (.map es) => match mfind ck kv es 0 with
        | some (some i) => some (mres ok (es.getD i default).2 true, h)
        | some none => some (mres ok zero false, h)
        | none => none
      | _ => none
    | .fm ks ds, .p kv => if kdist ck ks = true ∧ kdec ck kv ks = true then (match mfind ck kv (ks.zip ds) 0 with
      | some (some i) => some (mres ok ((ks.zip ds).getD i default).2 true, h)
      | some none => some (mres ok zero false, h)
      | none => none) else none
    | _, _ => none
  | .mdel ck m k => match ev m, ev k with
    | .p (.map none), .p _ => some (.any, h)
    | .mp b, .p kv => match h[b]? with
      | some (.map es) => match mfind ck kv es 0 with
        | some (some i) => if noIterB h b = true then some (.any, h.set b (.map (es.eraseIdx i))) else none
        | some none => some (.any, h)
        | none => none
      | _ => none
    | _, _ => none
  | .capl x => match ev x with
    | .p (.slice none 0 0) => some (.p (.int .i64 0), h)
    | .sa _ _ _ _ _ _ c _ => some (.p (.int .i64 c), h)
    | _ => none
  | .mks g sz bytes zero n c => match ev n, ev c with
    | .p (.int _ l), .p (.int _ r) => if 0 ≤ l ∧ l ≤ r ∧ r * bytes ≤ 140737488355328 then
        (if l = r then some (.sl h.length 0 l.toNat l.toNat, h ++ [.cells sz (List.replicate l.toNat zero)])
        else if g = true ∨ sz = 1 then some (.sa g sz h.length 0 0 l.toNat r.toNat 1, h ++ [.cells (r.toNat * sz) [.agg (List.replicate r.toNat zero.cells).flatten]]) else none) else none
    | _, _ => none
  | .cpy sz x y => match elemsOf h sz (ev y), ev x with
    | some _, .p (.slice none 0 0) => some (.p (.int .i64 0), h)
    | some ys, .sl b i n z => match h[b]? with
      | some (.cells bsz els) => if z = els.length ∧ bsz = sz then some (.p (.int .i64 (min ys.length n : Nat)), h.set b (.cells bsz (els.take i ++ ys.take n ++ els.drop (i + min ys.length n)))) else none
      | _ => none
    | some ys, .sa false 1 b i o n _ z => match h[b]? with
      | some (.cells bsz els) => match els.getD i .any with
        | .agg l => if z = els.length ∧ sz = 1 ∧ (ys.take n).all DV.one = true then some (.p (.int .i64 (min ys.length n : Nat)), h.set b (.cells bsz (els.set i (.agg (l.take o ++ ys.take n ++ l.drop (o + min ys.length n)))))) else none
        | _ => none
      | _ => none
    | _, _ => none
  | .tas t zero ok x => match ev x with
    | .iface u v => if u = t then some (mres ok v true, h) else if ok = true then some (mres ok zero false, h) else none
    | .p .nilIface => if ok = true then some (mres ok zero false, h) else none
    | _ => none
  | .tai u ok x => match ev x with
    | .iface t v => match hasM P u t with
      | some b => if b = true then some (mres ok (.iface t v) true, h) else if ok = true then some (mres ok (.p .nilIface) false, h) else none
      | none => none
    | .p .nilIface => if ok = true then some (mres ok (.p .nilIface) false, h) else none
    | _ => none
  | .lmk => some (.any, h)
  | .lin => some (.any, h)
  | .lpb ck ks xs => if kdist ck ks = true ∧ ks.length = xs.length then some (.fm ks (xs.map ev), h) else none
  | .mkf f first cap => some (.fn f (first.map ev) (cap.map ev), h)
  | .callv _ x args => match ev x with
    | .fn (.func f) first cap => if cFunc P f = true then call f (first ++ args.map ev ++ cap) h else none
    | _ => none
  | .inv _ name x args => match ev x with
    | .iface t v => match methOf P t name with
      | some f => if cFunc P f = true then call f (v :: args.map ev) h else none
      | none => none
    | _ => none
  | .pcall f args => match pc f (args.map ev) with
    | some v => some (v, h)
    | none => none
  | .call f args => call f (args.map ev) h
  | .callr f args => call f (args.map ev) h
  | _ => none

section
variable {P : Program} {G : Nat → DV} {call : FuncId → List DV → List Blk → Rs} {pc : FuncId → List DV → Option DV} {ev : Opd → DV} {h : List Blk} {v : DV} {h' : List Blk} {K : DV → List Blk → Prop}
theorem evO_sound (hc : ∀ f args h v h', call f args h = some (v, h') → Ok P G f args h v h') (hq : ∀ f args v, pc f args = some v → ∀ h, Ok P G f args h v h) {o : DO} (H : evO P G call pc o ev h = some (v, h')) (hK : K v h') : vcO P G o ev h K := by
  cases o
  case call f args => exact ⟨v, h', hc _ _ _ _ _ H, hK⟩
  case callr f args => exact ⟨_, (hc _ _ _ _ _ H).toR, by rintro v1 h1 ⟨rfl, rfl⟩; exact hK⟩
  case pcall f args =>
    simp only [evO] at H
    split at H
    · rename_i v1 hv
      cases H
      exact ⟨v, fun h2 _ => hq _ _ _ hv h2, hK⟩
    · cases H
  case callv rel x args =>
    simp only [evO] at H
    simp only [vcO]
    split at H
    · rename_i f first cap h1
      simp only [h1]
      split at H
      · rename_i hcf
        refine ⟨hcf, ?_⟩
        split
        · exact ⟨_, (hc _ _ _ _ _ H).toR, by rintro v1 h1 ⟨rfl, rfl⟩; exact hK⟩
        · exact ⟨v, h', hc _ _ _ _ _ H, hK⟩
      · cases H
    · cases H
  case inv rel name x args =>
    simp only [evO] at H
    simp only [vcO]
    split at H
    · rename_i t v1 h1
      simp only [h1]
      split at H
      · rename_i f h2
        simp only [h2]
        split at H
        · rename_i hcf
          refine ⟨hcf, ?_⟩
          split
          · exact ⟨_, (hc _ _ _ _ _ H).toR, by rintro v1 h1 ⟨rfl, rfl⟩; exact hK⟩
          · exact ⟨v, h', hc _ _ _ _ _ H, hK⟩
        · cases H
      · cases H
    · cases H
  case mupd ck m k x =>
    simp only [evO] at H
    simp only [vcO]
    split at H
    · rename_i b kv h1 h2
      simp only [h1, h2]
      split at H
      · rename_i es h3
        simp only [h3]
        split at H
        · rename_i r h4
          simp only [h4]
          split at H
          · rename_i h5
            cases H
            exact ⟨noIterB_sound h5, hK⟩
          · cases H
        · cases H
      · cases H
    · cases H
  case mdel ck m k =>
    simp only [evO] at H
    simp only [vcO]
    split at H
    · rename_i kv h1 h2
      cases H
      simp only [h1, h2]
      exact hK
    · rename_i b kv h1 h2
      simp only [h1, h2]
      split at H
      · rename_i es h3
        simp only [h3]
        split at H
        · rename_i r h4
          simp only [h4]
          split at H
          · rename_i h5
            cases H
            exact ⟨noIterB_sound h5, hK⟩
          · cases H
        · rename_i h4
          cases H
          simp only [h4]
          exact hK
        · cases H
      · cases H
    · cases H
  case mks g sz bytes zero n c =>
    simp only [evO] at H
    simp only [vcO]
    split at H
    · rename_i kl l kr r h1 h2
      simp only [h1, h2]
      split at H
      · rename_i hb
        refine ⟨hb.1, hb.2.1, hb.2.2, ?_⟩
        split at H
        · rename_i he
          cases H
          exact .inl hK
        · split at H
          · rename_i hg
            cases H
            exact .inr ⟨hg, hK⟩
          · cases H
      · cases H
    · cases H
  case cpy sz x y =>
    simp only [evO] at H
    simp only [vcO]
    split at H
    · rename_i l h1 h2
      cases H
      simp only [h1, h2]
      exact hK
    · rename_i ys b i n z h1 h2
      simp only [h1, h2]
      split at H
      · rename_i bsz els h3
        simp only [h3]
        split at H
        · rename_i hb
          cases H
          exact ⟨hb.1, hb.2, hK⟩
        · cases H
      · cases H
    · rename_i ys b i o n c z h1 h2
      simp only [h1, h2]
      split at H
      · rename_i bsz els h3
        simp only [h3]
        split at H
        · rename_i l h4
          simp only [h4]
          split at H
          · rename_i hb
            cases H
            exact ⟨hb.1, hb.2.1, hb.2.2, hK⟩
          · cases H
        · cases H
      · cases H
    · cases H
  case bin op x y =>
    simp only [evO] at H
    simp only [vcO]
    split at H
    · rename_i a b h1 h2
      obtain ⟨u, hu, hv⟩ := Option.map_eq_some_iff.1 H
      cases hv
      simp only [h1, h2]
      exact binE_sound hu hK
    · cases H
  case un op x =>
    simp only [evO] at H
    simp only [vcO]
    split at H
    · rename_i a h1
      obtain ⟨u, hu, hv⟩ := Option.map_eq_some_iff.1 H
      cases hv
      simp only [h1]
      exact unE_sound hu hK
    · cases H
  case eqp neg x y =>
    simp only [evO] at H
    simp only [vcO]
    split at H
    · rename_i b _ o n b' _ o' n' h1 h2
      simp only [h1, h2]
      split at H
      · rename_i _ els h3
        simp only [h3]
        split at H
        · rename_i _ els' h4
          simp only [h4]
          split at H
          · rename_i hc
            cases H
            exact ⟨hc, hK⟩
          · cases H
        · cases H
      · cases H
    · cases H
  case b2s x =>
    simp only [evO] at H
    simp only [vcO]
    split at H
    · rename_i l h1
      split at H
      · rename_i hl
        cases H
        simp only [h1]
        exact ⟨fun d hd => List.all_eq_true.1 hl d hd, hK⟩
      · cases H
    · cases H
  case lit sz els =>
    simp only [evO] at H
    simp only [vcO]
    split at H
    · rename_i hl
      cases H
      exact ⟨fun x hx => by have := List.all_eq_true.1 hl x hx; rw [Bool.and_eq_true, decide_eq_true_eq] at this; exact this, hK⟩
    · cases H
  case litz sz els =>
    simp only [evO] at H
    simp only [vcO]
    split at H
    · rename_i hl
      cases H
      exact ⟨fun x hx => by have := List.all_eq_true.1 hl x hx; rw [Bool.and_eq_true, decide_eq_true_eq] at this; exact this, hK⟩
    · cases H
  case app sz bytes x y =>
    simp only [evO] at H
    simp only [vcO]
    split at H
    · rename_i ys h1 h2
      simp only [h1, h2]
      split at H
      · rename_i hb
        split at H
        · rename_i he
          cases H
          have : ys = [] := by simpa using he
          exact ⟨hb, fun _ => hK, fun h => (h this).elim⟩
        · rename_i he
          cases H
          have : ys ≠ [] := by simpa using he
          exact ⟨hb, fun h => (this h).elim, fun _ => hK⟩
      · cases H
    · rename_i ys b i n z h1 h2
      simp only [h1, h2]
      split at H
      · rename_i bsz els h3
        simp only [h3]
        split at H
        · rename_i hb
          refine ⟨hb.1, hb.2.1, hb.2.2.1, hb.2.2.2.1, hb.2.2.2.2, ?_⟩
          split at H
          · rename_i hc
            cases H
            rw [if_neg hc]; exact hK
          · rename_i hc
            cases H
            rw [if_pos (Classical.not_not.1 hc)]; exact hK
        · cases H
      · cases H
    · cases H
  case nxts a =>
    simp only [evO] at H
    simp only [vcO]
    split at H
    · rename_i b h1
      simp only [h1]
      split at H
      · rename_i s pos h2
        simp only [h2]
        split at H
        · rename_i hp
          cases H
          exact ⟨fun _ => hK, fun h => absurd hp (by omega)⟩
        · rename_i hp
          cases H
          exact ⟨fun h => (hp h).elim, fun _ => hK⟩
      · cases H
    · cases H
  case slcs x lo hi =>
    simp only [evO] at H
    simp only [vcO]
    split at H
    · rename_i s h1
      simp only [h1]
      split at H
      · rename_i kl l kr r h2 h3
        simp only [h2, h3]
        split at H
        · rename_i hb
          cases H
          exact ⟨hb.1, hb.2.1, hb.2.2, hK⟩
        · cases H
      · cases H
    · cases H
  case mm mx x y =>
    simp only [evO] at H
    simp only [vcO]
    split at H
    · rename_i k a k' b h1 h2
      cases H
      simp only [h1, h2]
      exact hK
    · cases H
  all_goals first
    | (simp only [evO] at H; cases H; done)
    | (simp only [evO] at H; simp only [vcO]; repeat' split at H
       all_goals first | (cases H; done) | (cases H; simp_all; done))
end


/-- Which operand says what an operation writes. -/
def tgtO : DO → Option Opd
  | .store _ a _ => some a
  | .app _ _ x _ => some x
  | .nxts x => some x
  | .mupd _ m _ _ => some m
  | .mdel _ m _ => some m
  | .cpy _ x _ => some x
  | _ => none
def blkOf : DV → Option Nat
  | .ptr b _ _ _ => some b
  | .sl b _ _ _ => some b
  | .sa _ _ b _ _ _ _ _ => some b
  | .mp b => some b
  | .it b => some b
  | _ => none
/-- Nothing below base is written. -/
def okB (base : Nat) (o : DO) (ev : Opd → DV) : Bool := match tgtO o with
  | none => true
  | some x => match blkOf (ev x) with
    | none => true
    | some b => decide (base ≤ b)
def evB (P : Program) (G : Nat → DV) (base : Nat) (call : FuncId → List DV → List Blk → Rs) (pc : FuncId → List DV → Option DV) (o : DO) (ev : Opd → DV) (h : List Blk) : Rs := if okB base o ev = true then evO P G call pc o ev h else none
structure KeepB (base : Nat) (h h' : List Blk) : Prop where
  len : h.length ≤ h'.length
  same : ∀ b, b < base → h'[b]? = h[b]?
theorem KeepB.refl {base : Nat} (h : List Blk) : KeepB base h h := ⟨Nat.le_refl _, fun _ _ => rfl⟩
theorem KeepB.trans {base : Nat} {a b c : List Blk} (h : KeepB base a b) (h' : KeepB base b c) : KeepB base a c := ⟨Nat.le_trans h.len h'.len, fun b hb => (h'.same b hb).trans (h.same b hb)⟩
theorem KeepB.append {base : Nat} {h : List Blk} (hb : base ≤ h.length) (x : List Blk) : KeepB base h (h ++ x) := ⟨by simp, fun b hlt => List.getElem?_append_left (by omega)⟩
theorem KeepB.set {base : Nat} {h : List Blk} {b : Nat} (hb : base ≤ b) (k : Blk) : KeepB base h (h.set b k) := ⟨by simp, fun c hlt => List.getElem?_set_ne (by omega)⟩
theorem KeepB.mono {base base' : Nat} {h h' : List Blk} (k : KeepB base h h') (hb : base' ≤ base) : KeepB base' h h' := ⟨k.len, fun b hlt => k.same b (by omega)⟩
theorem KeepB.pre {h h' : List Blk} (k : KeepB h.length h h') : HPre h h' := fun b x hb => by
  rw [k.same b (List.getElem?_eq_some_iff.1 hb).1]; exact hb
section
variable {P : Program} {G : Nat → DV} {base : Nat} {call : FuncId → List DV → List Blk → Rs} {pc : FuncId → List DV → Option DV}
theorem evB_some {o : DO} {ev : Opd → DV} {h : List Blk} {r : DV × List Blk} (H : evB P G base call pc o ev h = some r) : evO P G call pc o ev h = some r := by
  unfold evB at H
  split at H
  · exact H
  · cases H
theorem okB_le {o : DO} {ev : Opd → DV} (h : okB base o ev = true) {x : Opd} (hx : tgtO o = some x) {b : Nat} (hb : blkOf (ev x) = some b) : base ≤ b := by
  simp only [okB, hx, hb] at h
  simpa using h
theorem evB_keep (hcall : ∀ f args h v h', base ≤ h.length → call f args h = some (v, h') → KeepB base h h') {o : DO} {ev : Opd → DV} {h : List Blk} {v : DV} {h' : List Blk} (hb : base ≤ h.length) (H : evB P G base call pc o ev h = some (v, h')) : KeepB base h h' := by
  unfold evB at H
  split at H
  case isFalse => cases H
  rename_i hok
  have le : ∀ {x : Opd}, tgtO o = some x → ∀ {b : Nat}, blkOf (ev x) = some b → base ≤ b := @fun x hx b hbb => okB_le hok hx hbb
  cases o <;> simp only [evO] at H <;> (repeat' split at H) <;> first
    | (cases H; done)
    | (cases H; exact KeepB.refl _)
    | (cases H; exact KeepB.append hb _)
    | exact hcall _ _ _ _ _ hb H
    | (obtain ⟨_, _, hr⟩ := Option.map_eq_some_iff.1 H; cases hr; exact KeepB.refl _)
    | (cases H; exact KeepB.set (le rfl (by simp only [blkOf, *])) _)
end

def evL (P : Program) (G : Nat → DV) (bs : Nat) (call : FuncId → List DV → List Blk → Rs) (pc : FuncId → List DV → Option DV) : List DOper → St → Option St
  | [], s => some s
  | o :: l, s => match o.guard with
    | none => match evB P G bs call pc o.op (Opd.ev G s.t) s.h with
      | some (v, h) => evL P G bs call pc l (s.put o.dst v h)
      | none => none
    | some (g, want) => match s.t.getD g .any with
      | .p (.bool b) => if b = want then (match evB P G bs call pc o.op (Opd.ev G s.t) s.h with
          | some (v, h) => evL P G bs call pc l (s.put o.dst v h)
          | none => none) else evL P G bs call pc l (s.put o.dst (.tup []) s.h)
      | .tup [] => evL P G bs call pc l (s.put o.dst (.tup []) s.h)
      | _ => none

section
variable {P : Program} {G : Nat → DV} {bs : Nat} {call : FuncId → List DV → List Blk → Rs} {pc : FuncId → List DV → Option DV}
theorem evL_sound (hc : ∀ f args h v h', call f args h = some (v, h') → Ok P G f args h v h') (hq : ∀ f args v, pc f args = some v → ∀ h, Ok P G f args h v h) : ∀ (l : List DOper) (s s' : St) (K : St → Prop), evL P G bs call pc l s = some s' → K s' → vcL P G l s K
  | [], s, s', K, H, hK => by
    simp only [evL] at H
    cases H
    exact hK
  | o :: l, s, s', K, H, hK => by
    simp only [evL] at H
    rw [vcL]
    split at H
    · rename_i hg
      split at H
      · rename_i v h he
        simp only [hg]
        exact evO_sound hc hq (evB_some he) (evL_sound hc hq l _ _ K H hK)
      · cases H
    · rename_i g want hg
      simp only [hg]
      split at H
      · rename_i b hb
        simp only [hb]
        by_cases hbw : b = want
        · rw [if_pos hbw] at H ⊢
          split at H
          · rename_i v h he
            exact evO_sound hc hq (evB_some he) (evL_sound hc hq l _ _ K H hK)
          · cases H
        · rw [if_neg hbw] at H ⊢
          exact evL_sound hc hq l _ _ K H hK
      · rename_i hb
        simp only [hb]
        exact evL_sound hc hq l _ _ K H hK
      · cases H
end

/-- What only lays new blocks. -/
def DO.pushes : DO → Bool
  | .s2b .. | .s2bl .. | .lit .. | .alloc .. | .box .. | .boxn .. | .rngs .. => true
  | _ => false
def DO.isCall : DO → Bool
  | .call .. | .callv .. | .inv .. => true
  | _ => false
/-- Below it nothing may be written. -/
def maxB (bs : Nat) (Hs : List (List Blk)) (fr : List Nat) : Nat := fr.foldl (fun a m => max a (Hs.getD m []).length) bs

/-- An operation that makes no more than new blocks, where it stands. -/
def pushesAt (o : DO) (ev : Opd → DV) : Bool := o.pushes || match o with
  | .app _ _ x _ => match ev x with
    | .p (.slice none 0 0) => true
    | _ => false
  | _ => false
/-- One of a region that is drawn; pre: of which heaps still everything stands. -/
def evS (P : Program) (G : Nat → DV) (bs : Nat) (call : Nat → FuncId → List DV → List Blk → Rs) (pc : FuncId → List DV → Option DV) (d : DDOp) (t : List DV) (Hs : List (List Blk)) (h : List Blk) (pre : List Nat) : Option (DV × List (List Blk) × List Blk × List Nat) :=
  if d.o.op.heavy = true then
    (if d.o.op.isCall = true then
      (if (decide (bs ≤ h.length) && d.fr.all (fun m => pre.contains m)) = true then (evB P G bs (call (maxB bs Hs d.fr)) pc d.o.op (Opd.ev G t) h).map fun r => (r.1, Hs ++ [r.2], r.2, Hs.length :: pre.filter fun m => decide ((Hs.getD m []).length ≤ maxB bs Hs d.fr)) else none)
    else if pushesAt d.o.op (Opd.ev G t) = true then
      (if d.fr.all (fun m => pre.contains m) = true then (evB P G bs (call bs) pc d.o.op (Opd.ev G t) h).map fun r => (r.1, Hs ++ [r.2], r.2, Hs.length :: pre) else none)
    else (if d.fr.isEmpty = true then (evB P G bs (call bs) pc d.o.op (Opd.ev G t) h).map fun r => (r.1, Hs ++ [r.2], r.2, [Hs.length]) else none))
  else (evO P G (call bs) pc d.o.op (Opd.ev G t) (Hs.getD d.a [])).map fun r => (r.1, Hs, h, pre)

def evD (P : Program) (G : Nat → DV) (bs : Nat) (call : Nat → FuncId → List DV → List Blk → Rs) (pc : FuncId → List DV → Option DV) : List DDOp → List DV → List (List Blk) → List Blk → List Nat → Option (List DV × List Blk)
  | [], t, _, h, _ => some (t, h)
  | d :: l, t, Hs, h, pre => match d.o.guard with
    | none => match evS P G bs call pc d t Hs h pre with
      | some (v, Hs', h', pre') => evD P G bs call pc l (putL t d.o.dst v) Hs' h' pre'
      | none => none
    | some (g, want) => match t.getD g .any with
      | .p (.bool b) => if b = want then (match evS P G bs call pc d t Hs h pre with
          | some (v, Hs', h', pre') => evD P G bs call pc l (putL t d.o.dst v) Hs' h' pre'
          | none => none)
        else evD P G bs call pc l (putL t d.o.dst (.tup [])) (if d.o.op.heavy = true then Hs ++ [h] else Hs) h pre
      | .tup [] => evD P G bs call pc l (putL t d.o.dst (.tup [])) (if d.o.op.heavy = true then Hs ++ [h] else Hs) h pre
      | _ => none

section
variable {P : Program} {G : Nat → DV} {bs : Nat} {call : FuncId → List DV → List Blk → Rs} {pc : FuncId → List DV → Option DV}
theorem pushes_pre {o : DO} (hu : o.pushes = true) {ev : Opd → DV} {h : List Blk} {v : DV} {h' : List Blk} (H : evO P G call pc o ev h = some (v, h')) : HPre h h' := by
  cases o <;> simp only [DO.pushes, Bool.false_eq_true] at hu
  all_goals
    simp only [evO] at H
    repeat' split at H
    all_goals first | (cases H; done) | (cases H; exact HPre.append _ _) | (cases H; exact HPre.refl _)

theorem pushesAt_pre {o : DO} {ev : Opd → DV} (hu : pushesAt o ev = true) {h : List Blk} {v : DV} {h' : List Blk} (H : evO P G call pc o ev h = some (v, h')) : HPre h h' := by
  by_cases hq1 : o.pushes = true
  · exact pushes_pre hq1 H
  · simp only [pushesAt, hq1, Bool.false_or, Bool.false_eq_true] at hu
    cases o <;> simp only [Bool.false_eq_true] at hu
    rename_i sz bytes x y
    simp only [evO] at H
    split at hu
    · rename_i hx
      rw [hx] at H
      repeat' split at H
      all_goals first | (cases H; done) | (cases H; exact HPre.append _ _) | (cases H; exact HPre.refl _) | simp_all
    · cases hu
end
section
variable {P : Program} {G : Nat → DV} {bs : Nat} {call : Nat → FuncId → List DV → List Blk → Rs} {pc : FuncId → List DV → Option DV}
structure SnapI (Hs : List (List Blk)) (h : List Blk) (pre : List Nat) : Prop where
  ok : ∀ j, j ∈ pre → j < Hs.length ∧ HPre (Hs.getD j []) h
theorem HPre.len {h h' : List Blk} (hp : HPre h h') : h.length ≤ h'.length := by
  cases hl : h.length with
  | zero => exact Nat.zero_le _
  | succ n =>
    have hlt : n < h.length := by omega
    have := hp n _ (List.getElem?_eq_getElem hlt)
    have := (List.getElem?_eq_some_iff.1 this).1
    omega
theorem maxB_ge : ∀ (fr : List Nat) (bs : Nat) (Hs : List (List Blk)), bs ≤ maxB bs Hs fr ∧ ∀ m, m ∈ fr → (Hs.getD m []).length ≤ maxB bs Hs fr
  | [], bs, Hs => ⟨Nat.le_refl _, fun m hm => by simp at hm⟩
  | x :: fr, bs, Hs => by
    obtain ⟨h1, h2⟩ := maxB_ge fr (max bs (Hs.getD x []).length) Hs
    refine ⟨Nat.le_trans (Nat.le_max_left _ _) h1, fun m hm => ?_⟩
    rcases List.mem_cons.1 hm with rfl | hm
    · exact Nat.le_trans (Nat.le_max_right _ _) h1
    · exact h2 m hm
theorem maxB_le : ∀ (fr : List Nat) (bs n : Nat) (Hs : List (List Blk)), bs ≤ n → (∀ m, m ∈ fr → (Hs.getD m []).length ≤ n) → maxB bs Hs fr ≤ n
  | [], bs, n, Hs, h, _ => h
  | x :: fr, bs, n, Hs, h, hm => maxB_le fr _ n Hs (Nat.max_le.2 ⟨h, hm x (by simp)⟩) fun m h => hm m (by simp [h])
theorem KeepB.snap {B : Nat} {h h' g : List Blk} (k : KeepB B h h') (hg : HPre g h) (hl : g.length ≤ B) : HPre g h' := fun b x hb => by
  have hlt := (List.getElem?_eq_some_iff.1 hb).1
  rw [k.same b (by omega)]
  exact hg b x hb
theorem snap_getD {Hs : List (List Blk)} {h1 : List Blk} {j : Nat} (hj : j < Hs.length) : (Hs ++ [h1]).getD j [] = Hs.getD j [] := by simp [List.getD, List.getElem?_append_left hj]
theorem snap_last {Hs : List (List Blk)} {h1 : List Blk} : (Hs ++ [h1]).getD Hs.length [] = h1 := by simp [List.getD]
theorem call_keep {B : Nat} {o : DO} (ho : o.isCall = true) {cl : FuncId → List DV → List Blk → Rs} (hk : ∀ f args h v h', B ≤ h.length → cl f args h = some (v, h') → KeepB B h h') {ev : Opd → DV} {h : List Blk} (hB : B ≤ h.length) {v : DV} {h' : List Blk} (H : evO P G cl pc o ev h = some (v, h')) : KeepB B h h' := by
  refine evB_keep (P := P) (G := G) (pc := pc) (base := B) hk hB (o := o) (ev := ev) (v := v) ?_
  unfold evB
  have : okB B o ev = true := by cases o <;> first | rfl | cases ho
  rw [if_pos this]
  exact H
theorem evS_sound (hc : ∀ B f args h v h', call B f args h = some (v, h') → Ok P G f args h v h') (hq : ∀ f args v, pc f args = some v → ∀ h, Ok P G f args h v h) (hk : ∀ B f args h v h', B ≤ h.length → call B f args h = some (v, h') → KeepB B h h') {d : DDOp} {t : List DV} {Hs : List (List Blk)} {h : List Blk} {pre : List Nat} (hS : SnapI Hs h pre)
    {v : DV} {Hs' : List (List Blk)} {h' : List Blk} {pre' : List Nat} (H : evS P G bs call pc d t Hs h pre = some (v, Hs', h', pre')) {K : DV → List (List Blk) → List Blk → Prop} (hK : SnapI Hs' h' pre' → K v Hs' h') : stepD P G d t Hs h K := by
  unfold evS at H
  unfold stepD
  split at H
  · rename_i hh
    rw [if_pos hh]
    split at H
    · rename_i hcl
      split at H
      · rename_i hf0
        obtain ⟨hb, hf⟩ : bs ≤ h.length ∧ d.fr.all (fun m => pre.contains m) = true := by simpa only [Bool.and_eq_true, decide_eq_true_eq] using hf0
        obtain ⟨⟨v1, h1⟩, he, hr⟩ := Option.map_eq_some_iff.1 H
        simp only [Prod.mk.injEq] at hr
        obtain ⟨rfl, rfl, rfl, rfl⟩ := hr
        have hmem : ∀ m, m ∈ d.fr → m ∈ pre := fun m hm => by simpa using List.all_eq_true.1 hf m hm
        have hB : maxB bs Hs d.fr ≤ h.length := maxB_le _ _ _ _ hb fun m hm => (hS.ok m (hmem m hm)).2.len
        have k := call_keep hcl (hk _) hB (evB_some he)
        refine evO_sound (hc _) hq (evB_some he) ⟨fun m hm => ?_, hK ⟨fun j hj => ?_⟩⟩
        · exact (k.snap (hS.ok m (hmem m hm)).2 ((maxB_ge d.fr bs Hs).2 m hm)).toV
        · rcases List.mem_cons.1 hj with rfl | hj
          · exact ⟨by simp, by rw [snap_last]; exact HPre.refl _⟩
          · obtain ⟨g1, g2⟩ := List.mem_filter.1 hj
            obtain ⟨g3, g4⟩ := hS.ok j g1
            exact ⟨by simp; omega, by rw [snap_getD g3]; exact k.snap g4 (by simpa using g2)⟩
      · cases H
    · split at H
      · rename_i hu
        split at H
        · rename_i hf
          obtain ⟨⟨v1, h1⟩, he, hr⟩ := Option.map_eq_some_iff.1 H
          simp only [Prod.mk.injEq] at hr
          obtain ⟨rfl, rfl, rfl, rfl⟩ := hr
          have hmem : ∀ m, m ∈ d.fr → m ∈ pre := fun m hm => by simpa using List.all_eq_true.1 hf m hm
          have hpre := pushesAt_pre hu (evB_some he)
          refine evO_sound (hc _) hq (evB_some he) ⟨fun m hm => ?_, hK ⟨fun j hj => ?_⟩⟩
          · exact ((hS.ok m (hmem m hm)).2.trans hpre).toV
          · rcases List.mem_cons.1 hj with rfl | hj
            · exact ⟨by simp, by rw [snap_last]; exact HPre.refl _⟩
            · obtain ⟨g3, g4⟩ := hS.ok j hj
              exact ⟨by simp; omega, by rw [snap_getD g3]; exact g4.trans hpre⟩
        · cases H
      · split at H
        · rename_i hf
          obtain ⟨⟨v1, h1⟩, he, hr⟩ := Option.map_eq_some_iff.1 H
          simp only [Prod.mk.injEq] at hr
          obtain ⟨rfl, rfl, rfl, rfl⟩ := hr
          have hfn : d.fr = [] := by simpa using hf
          refine evO_sound (hc _) hq (evB_some he) ⟨fun m hm => by rw [hfn] at hm; simp at hm, hK ⟨fun j hj => ?_⟩⟩
          rcases List.mem_cons.1 hj with rfl | hj
          · exact ⟨by simp, by rw [snap_last]; exact HPre.refl _⟩
          · simp at hj
        · cases H
  · rename_i hh
    rw [if_neg hh]
    obtain ⟨⟨v1, h1⟩, he, hr⟩ := Option.map_eq_some_iff.1 H
    simp only [Prod.mk.injEq] at hr
    obtain ⟨rfl, rfl, rfl, rfl⟩ := hr
    exact evO_sound (hc _) hq he (hK hS)
theorem evS_keep (hk : ∀ B f args h v h', B ≤ h.length → call B f args h = some (v, h') → KeepB B h h') {d : DDOp} {t : List DV} {Hs : List (List Blk)} {h : List Blk} {pre : List Nat} (hb : bs ≤ h.length) (hS : SnapI Hs h pre) {v : DV} {Hs' : List (List Blk)} {h' : List Blk} {pre' : List Nat} (H : evS P G bs call pc d t Hs h pre = some (v, Hs', h', pre')) : KeepB bs h h' := by
  unfold evS at H
  split at H
  · split at H
    · rename_i hcl
      split at H
      · rename_i hf0
        obtain ⟨hb, hf⟩ : bs ≤ h.length ∧ d.fr.all (fun m => pre.contains m) = true := by simpa only [Bool.and_eq_true, decide_eq_true_eq] using hf0
        obtain ⟨⟨v1, h1⟩, he, hr⟩ := Option.map_eq_some_iff.1 H
        simp only [Prod.mk.injEq] at hr
        obtain ⟨rfl, rfl, rfl, rfl⟩ := hr
        have hmem : ∀ m, m ∈ d.fr → m ∈ pre := fun m hm => by simpa using List.all_eq_true.1 hf m hm
        have hB : maxB bs Hs d.fr ≤ h.length := maxB_le _ _ _ _ hb fun m hm => (hS.ok m (hmem m hm)).2.len
        exact (call_keep hcl (hk _) hB (evB_some he)).mono (maxB_ge d.fr bs Hs).1
      · cases H
    · repeat' split at H
      all_goals first
        | (cases H; done)
        | (obtain ⟨⟨v1, h1⟩, he, hr⟩ := Option.map_eq_some_iff.1 H
           simp only [Prod.mk.injEq] at hr
           obtain ⟨rfl, rfl, rfl, rfl⟩ := hr
           exact evB_keep (hk bs) hb he)
  · obtain ⟨⟨v1, h1⟩, he, hr⟩ := Option.map_eq_some_iff.1 H
    simp only [Prod.mk.injEq] at hr
    obtain ⟨rfl, rfl, rfl, rfl⟩ := hr
    exact KeepB.refl _
theorem evS_snap (hk : ∀ B f args h v h', B ≤ h.length → call B f args h = some (v, h') → KeepB B h h') {d : DDOp} {t : List DV} {Hs : List (List Blk)} {h : List Blk} {pre : List Nat} (hb : bs ≤ h.length) (hS : SnapI Hs h pre) {v : DV} {Hs' : List (List Blk)} {h' : List Blk} {pre' : List Nat} (H : evS P G bs call pc d t Hs h pre = some (v, Hs', h', pre')) : SnapI Hs' h' pre' := by
  unfold evS at H
  split at H
  · split at H
    · rename_i hcl
      split at H
      · rename_i hf0
        obtain ⟨hb, hf⟩ : bs ≤ h.length ∧ d.fr.all (fun m => pre.contains m) = true := by simpa only [Bool.and_eq_true, decide_eq_true_eq] using hf0
        obtain ⟨⟨v1, h1⟩, he, hr⟩ := Option.map_eq_some_iff.1 H
        simp only [Prod.mk.injEq] at hr
        obtain ⟨rfl, rfl, rfl, rfl⟩ := hr
        have hmem : ∀ m, m ∈ d.fr → m ∈ pre := fun m hm => by simpa using List.all_eq_true.1 hf m hm
        have hB : maxB bs Hs d.fr ≤ h.length := maxB_le _ _ _ _ hb fun m hm => (hS.ok m (hmem m hm)).2.len
        have k := call_keep hcl (hk _) hB (evB_some he)
        refine ⟨fun j hj => ?_⟩
        rcases List.mem_cons.1 hj with rfl | hj
        · exact ⟨by simp, by rw [snap_last]; exact HPre.refl _⟩
        · obtain ⟨g1, g2⟩ := List.mem_filter.1 hj
          obtain ⟨g3, g4⟩ := hS.ok j g1
          exact ⟨by simp; omega, by rw [snap_getD g3]; exact k.snap g4 (by simpa using g2)⟩
      · cases H
    · split at H
      · rename_i hu
        split at H
        · obtain ⟨⟨v1, h1⟩, he, hr⟩ := Option.map_eq_some_iff.1 H
          simp only [Prod.mk.injEq] at hr
          obtain ⟨rfl, rfl, rfl, rfl⟩ := hr
          have hpre := pushesAt_pre hu (evB_some he)
          refine ⟨fun j hj => ?_⟩
          rcases List.mem_cons.1 hj with rfl | hj
          · exact ⟨by simp, by rw [snap_last]; exact HPre.refl _⟩
          · obtain ⟨g3, g4⟩ := hS.ok j hj
            exact ⟨by simp; omega, by rw [snap_getD g3]; exact g4.trans hpre⟩
        · cases H
      · split at H
        · obtain ⟨⟨v1, h1⟩, he, hr⟩ := Option.map_eq_some_iff.1 H
          simp only [Prod.mk.injEq] at hr
          obtain ⟨rfl, rfl, rfl, rfl⟩ := hr
          refine ⟨fun j hj => ?_⟩
          rcases List.mem_cons.1 hj with rfl | hj
          · exact ⟨by simp, by rw [snap_last]; exact HPre.refl _⟩
          · simp at hj
        · cases H
  · obtain ⟨⟨v1, h1⟩, he, hr⟩ := Option.map_eq_some_iff.1 H
    simp only [Prod.mk.injEq] at hr
    obtain ⟨rfl, rfl, rfl, rfl⟩ := hr
    exact hS
theorem SnapI.skip {Hs : List (List Blk)} {h : List Blk} {pre : List Nat} (hS : SnapI Hs h pre) (b : Bool) : SnapI (if b = true then Hs ++ [h] else Hs) h pre := by
  cases b
  · exact hS
  · refine ⟨fun j hj => ?_⟩
    obtain ⟨g3, g4⟩ := hS.ok j hj
    exact ⟨by simp; omega, by simp only [if_true]; rw [snap_getD g3]; exact g4⟩
theorem evD_sound (hc : ∀ B f args h v h', call B f args h = some (v, h') → Ok P G f args h v h') (hq : ∀ f args v, pc f args = some v → ∀ h, Ok P G f args h v h) (hk : ∀ B f args h v h', B ≤ h.length → call B f args h = some (v, h') → KeepB B h h') {K : List DV → List Blk → Prop} : ∀ (l : List DDOp) (t : List DV) (Hs : List (List Blk)) (h : List Blk) (pre : List Nat) (t' : List DV) (h' : List Blk), SnapI Hs h pre → evD P G bs call pc l t Hs h pre = some (t', h') → K t' h' → vcD P G l t Hs h K
  | [], t, Hs, h, pre, t', h', hS, H, hK => by
    simp only [evD] at H
    cases H
    rw [vcD]
    exact hK
  | d :: l, t, Hs, h, pre, t', h', hS, H, hK => by
    simp only [evD] at H
    rw [vcD]
    split at H
    · rename_i hg
      simp only [hg]
      split at H
      · rename_i v Hs1 h1 pre1 he
        exact evS_sound hc hq hk hS he fun hS1 => evD_sound hc hq hk l _ _ _ _ _ _ hS1 H hK
      · cases H
    · rename_i g want hg
      simp only [hg]
      split at H
      · rename_i b hbb
        simp only [hbb]
        by_cases hbw : b = want
        · rw [if_pos hbw] at H ⊢
          split at H
          · rename_i v Hs1 h1 pre1 he
            exact evS_sound hc hq hk hS he fun hS1 => evD_sound hc hq hk l _ _ _ _ _ _ hS1 H hK
          · cases H
        · rw [if_neg hbw] at H ⊢
          exact evD_sound hc hq hk l _ _ _ _ _ _ (hS.skip d.o.op.heavy) H hK
      · rename_i hbb
        simp only [hbb]
        exact evD_sound hc hq hk l _ _ _ _ _ _ (hS.skip d.o.op.heavy) H hK
      · cases H
theorem evD_keep (hk : ∀ B f args h v h', B ≤ h.length → call B f args h = some (v, h') → KeepB B h h') : ∀ (l : List DDOp) (t : List DV) (Hs : List (List Blk)) (h : List Blk) (pre : List Nat) (t' : List DV) (h' : List Blk), bs ≤ h.length → SnapI Hs h pre → evD P G bs call pc l t Hs h pre = some (t', h') → KeepB bs h h'
  | [], t, Hs, h, pre, t', h', hb, hS, H => by
    simp only [evD] at H
    cases H
    exact KeepB.refl _
  | d :: l, t, Hs, h, pre, t', h', hb, hS, H => by
    simp only [evD] at H
    split at H
    · split at H
      · rename_i v Hs1 h1 pre1 he
        have k := evS_keep hk hb hS he
        exact k.trans (evD_keep hk l _ _ _ _ _ _ (Nat.le_trans hb k.len) (evS_snap hk hb hS he) H)
      · cases H
    · split at H
      · split at H
        · split at H
          · rename_i v Hs1 h1 pre1 he
            have k := evS_keep hk hb hS he
            exact k.trans (evD_keep hk l _ _ _ _ _ _ (Nat.le_trans hb k.len) (evS_snap hk hb hS he) H)
          · cases H
        · exact evD_keep hk l _ _ _ _ _ _ hb (hS.skip d.o.op.heavy) H
      · exact evD_keep hk l _ _ _ _ _ _ hb (hS.skip d.o.op.heavy) H
      · cases H
end

/-- The codes of functions: code, results, slots. -/
abbrev Tab := FuncId → Option (DC × List DR × Nat)
def TabOk (P : Program) (tb : Tab) : Prop := ∀ f d rs n, tb f = some (d, rs, n) → ∃ fn, P.funcs[f]? = some fn ∧ fn.body.bind (cCode P) = some d ∧ cRes P fn.results.toList = some rs ∧ fn.ntmps = n

/-- A call of plain values, its code run by rn. -/
def callE (tb : Tab) (rn : DC → St → Option (DX × St)) (f : FuncId) (args : List DV) (h : List Blk) : Rs :=
  if pureV.pureL args = true then match tb f with
    | some (d, rs, n) => if args.length ≤ n then match rn d ⟨args ++ List.replicate (n - args.length) .any, []⟩ with
      | some (x, s') => if x = .nrm ∨ x = .ret then match resD s'.h s'.t rs with
        | some ds => if pureV (mkRes ds) = true then some (mkRes ds, h) else none
        | none => none else none
      | none => none else none
    | none => none
  else none

/-- What calls are known to do. -/
abbrev Kn := FuncId → List DV → List Blk → Rs
structure KnOk (P : Program) (G : Nat → DV) (kn : Kn) : Prop where
  ok : ∀ f args h v h', kn f args h = some (v, h') → Ok P G f args h v h'
  app : ∀ f args h v h', kn f args h = some (v, h') → ∃ x, h' = h ++ x
abbrev kn0 : Kn := fun _ _ _ => none
theorem kn0_ok {P : Program} {G : Nat → DV} : KnOk P G kn0 := ⟨fun _ _ _ _ _ h => (by cases h), fun _ _ _ _ _ h => (by cases h)⟩
/-- Such a call, or one on the memory as it is. -/
def callF (tb : Tab) (kn : Kn) (rn0 rn : DC → St → Option (DX × St)) (f : FuncId) (args : List DV) (h : List Blk) : Rs :=
  match kn f args h with
  | some r => some r
  | none => match callE tb rn0 f args h with
  | some r => some r
  | none => match tb f with
    | some (d, rs, n) => if args.length ≤ n then match rn d ⟨args ++ List.replicate (n - args.length) .any, h⟩ with
      | some (x, s') => if x = .nrm ∨ x = .ret then match resD s'.h s'.t rs with
        | some ds => some (mkRes ds, s'.h)
        | none => none else none
      | none => none else none
    | none => none

/-- A call that leaves the memory as it is and looks at none of it. -/
def pcE (tb : Tab) (rn : DC → St → Option (DX × St)) (f : FuncId) (args : List DV) : Option DV := (callE tb rn f args []).map Prod.fst

/-- A call in a region that is drawn: what stands there stays. -/
def callD (tb : Tab) (kn : Kn) (rn : Nat → DC → St → Option (DX × St)) (B : Nat) : FuncId → List DV → List Blk → Rs := callF tb kn (rn 0) (rn B)

/-- bs: no block below it is written. -/
def runB (P : Program) (G : Nat → DV) (tb : Tab) (kn : Kn) : Nat → Nat → DC → St → Option (DX × St)
  | 0, _, _, _ => none
  | n + 1, bs, c, s => match c with
    | .skip => some (.nrm, s)
    | .rg ops => (evL P G bs (callF tb kn (runB P G tb kn n 0) (runB P G tb kn n bs)) (pcE tb (runB P G tb kn n 0)) ops s).map fun s' => (.nrm, s')
    | .rgm nb al ops => if nb ≤ s.t.length then (evD P G bs (callD tb kn (runB P G tb kn n)) (pcE tb (runB P G tb kn n 0)) ops (putL s.t al .any) [s.h] s.h [0]).map fun r => (.nrm, ⟨r.1, r.2⟩) else none
    | .rgv ops => (evD P G bs (callD tb kn (runB P G tb kn n)) (pcE tb (runB P G tb kn n 0)) ops s.t [s.h] s.h [0]).map fun r => (.nrm, ⟨r.1, r.2⟩)
    | .rgd ops => (evD P G bs (callD tb kn (runB P G tb kn n)) (pcE tb (runB P G tb kn n 0)) ops s.t [s.h] s.h [0]).map fun r => (.nrm, ⟨r.1, r.2⟩)
    | .seq a b => match runB P G tb kn n bs a s with
      | some (.nrm, s') => runB P G tb kn n bs b s'
      | r => r
    | .cond c a b => match c.ev G s.t with
      | .p (.bool t) => if t = true then runB P G tb kn n bs a s else runB P G tb kn n bs b s
      | _ => none
    | .block id a => match runB P G tb kn n bs a s with
      | some (.ext i, s') => if i = id then some (.nrm, s') else some (.ext i, s')
      | r => r
    | .loop a => match runB P G tb kn n bs a s with
      | some (.nrm, s') => runB P G tb kn n bs (.loop a) s'
      | r => r
    | .exit id => some (.ext id, s)
    | .ret => some (.ret, s)

abbrev run (P : Program) (G : Nat → DV) (tb : Tab) (n : Nat) : DC → St → Option (DX × St) := runB P G tb kn0 n 0

section
variable {P : Program} {G : Nat → DV} {tb : Tab}
theorem pureL_frz {h : List Blk} : ∀ {l : List DV}, pureV.pureL l = true → FrzL h [] l l
  | [], _ => .nil
  | d :: l, hl => by
    simp only [pureV.pureL, Bool.and_eq_true] at hl
    exact .cons (fun e v he hr hv => hv.pure hl.1) (pureL_frz hl.2)

theorem callE_sound (hG : GZ G) (ht : TabOk P tb) {rn : DC → St → Option (DX × St)} (hrn : ∀ nb c s x s' Q, rn c s = some (x, s') → Q x s' → vc P G nb c s Q) : ∀ f args h v h', callE tb rn f args h = some (v, h') → Ok P G f args h v h' := by
  intro f args h v h' H
  unfold callE at H
  split at H
  · rename_i hpa
    split at H
    · rename_i d rs n htb
      split at H
      · rename_i hle
        split at H
        · rename_i x s' hr
          split at H
          · rename_i hx
            split at H
            · rename_i ds hds
              split at H
              · rename_i hpv
                cases H
                obtain ⟨fn, h1, h2, h3, h4⟩ := ht f d rs n htb
                refine Ok.lend hG ?_ (pureL_frz hpa) hpv
                refine Ok_of_code h1 h2 h3 (n - args.length) (by omega) (hrn _ _ _ _ _ _ hr ?_)
                rcases hx with rfl | rfl
                · exact ⟨ds, hds, WkV.ofPure (by simp) hpv⟩
                · exact ⟨ds, hds, WkV.ofPure (by simp) hpv⟩
              · cases H
            · cases H
          · cases H
        · cases H
      · cases H
    · cases H
  · cases H
theorem callE_heap {rn : DC → St → Option (DX × St)} : ∀ f args h v h', callE tb rn f args h = some (v, h') → h' = h := by
  intro f args h v h' H
  unfold callE at H
  repeat' split at H
  all_goals first | (cases H; done) | (cases H; rfl)

theorem pcE_sound (hG : GZ G) (ht : TabOk P tb) {rn : DC → St → Option (DX × St)} (hrn : ∀ nb c s x s' Q, rn c s = some (x, s') → Q x s' → vc P G nb c s Q) : ∀ f args v, pcE tb rn f args = some v → ∀ h, Ok P G f args h v h := by
  intro f args v H h
  obtain ⟨⟨v1, h1⟩, he, hv⟩ := Option.map_eq_some_iff.1 H
  cases hv
  have := callE_heap _ _ _ _ _ he
  subst this
  have h2 : callE tb rn f args h = some (v1, h) := by
    unfold callE at he ⊢
    repeat' split at he
    all_goals first | (cases he; done) | (simp_all; done)
  exact callE_sound hG ht hrn _ _ _ _ _ h2
theorem callF_sound {kn : Kn} (hkn : KnOk P G kn) (hG : GZ G) (ht : TabOk P tb) {rn0 rn : DC → St → Option (DX × St)} (hrn0 : ∀ nb c s x s' Q, rn0 c s = some (x, s') → Q x s' → vc P G nb c s Q) (hrn : ∀ nb c s x s' Q, rn c s = some (x, s') → Q x s' → vc P G nb c s Q) : ∀ f args h v h', callF tb kn rn0 rn f args h = some (v, h') → Ok P G f args h v h' := by
  intro f args h v h' H
  unfold callF at H
  split at H
  · rename_i r hr
    cases H
    exact hkn.ok _ _ _ _ _ hr
  split at H
  · rename_i r hr
    cases H
    exact callE_sound hG ht hrn0 _ _ _ _ _ hr
  · split at H
    · rename_i d rs n htb
      split at H
      · rename_i hle
        split at H
        · rename_i x s' hr
          split at H
          · rename_i hx
            split at H
            · rename_i ds hds
              cases H
              obtain ⟨fn, h1, h2, h3, h4⟩ := ht f d rs n htb
              refine Ok_of_code h1 h2 h3 (n - args.length) (by omega) (hrn _ _ _ _ _ _ hr ?_)
              rcases hx with rfl | rfl
              · exact ⟨ds, hds, WkV.refl⟩
              · exact ⟨ds, hds, WkV.refl⟩
            · cases H
          · cases H
        · cases H
      · cases H
    · cases H
/-! What a run keeps. -/
theorem evL_keep {bs : Nat} {call : FuncId → List DV → List Blk → Rs} {pc : FuncId → List DV → Option DV} (hcall : ∀ f args h v h', bs ≤ h.length → call f args h = some (v, h') → KeepB bs h h') : ∀ (l : List DOper) (s s' : St), bs ≤ s.h.length → evL P G bs call pc l s = some s' → KeepB bs s.h s'.h
  | [], s, s', hb, H => by
    simp only [evL] at H
    cases H
    exact KeepB.refl _
  | o :: l, s, s', hb, H => by
    simp only [evL] at H
    have put : ∀ dst v h, (s.put dst v h).h = h := fun dst v h => by cases dst <;> rfl
    split at H
    · split at H
      · rename_i v h he
        have k := evB_keep hcall hb he
        have k2 := evL_keep hcall l _ _ (by rw [put]; exact Nat.le_trans hb k.len) H
        rw [put] at k2
        exact k.trans k2
      · cases H
    · split at H
      · split at H
        · split at H
          · rename_i v h he
            have k := evB_keep hcall hb he
            have k2 := evL_keep hcall l _ _ (by rw [put]; exact Nat.le_trans hb k.len) H
            rw [put] at k2
            exact k.trans k2
          · cases H
        · have k2 := evL_keep hcall l _ _ (by rw [put]; exact hb) H
          rw [put] at k2
          exact k2
      · have k2 := evL_keep hcall l _ _ (by rw [put]; exact hb) H
        rw [put] at k2
        exact k2
      · cases H
theorem callF_keep {kn : Kn} (hkn : KnOk P G kn) {bs : Nat} {rn0 rn : DC → St → Option (DX × St)} (hrn : ∀ c s x s', rn c s = some (x, s') → bs ≤ s.h.length → KeepB bs s.h s'.h) : ∀ f args h v h', bs ≤ h.length → callF tb kn rn0 rn f args h = some (v, h') → KeepB bs h h' := by
  intro f args h v h' hb H
  unfold callF at H
  split at H
  · rename_i r hr
    cases H
    obtain ⟨x, rfl⟩ := hkn.app _ _ _ _ _ hr
    exact KeepB.append hb x
  split at H
  · rename_i r hr
    cases H
    rw [callE_heap _ _ _ _ _ hr]
    exact KeepB.refl _
  · split at H
    · split at H
      · split at H
        · rename_i x s' hr
          have := hrn _ _ _ _ hr hb
          repeat' split at H
          all_goals first | (cases H; done) | (cases H; exact this)
        · cases H
      · cases H
    · cases H
theorem callD_keep {kn : Kn} (hkn : KnOk P G kn) {rn : Nat → DC → St → Option (DX × St)} (hrn : ∀ bs c s x s', rn bs c s = some (x, s') → bs ≤ s.h.length → KeepB bs s.h s'.h) : ∀ B f args h v h', B ≤ h.length → callD tb kn rn B f args h = some (v, h') → KeepB B h h' := fun B f args h v h' hB H => callF_keep hkn (hrn B) f args h v h' hB H
theorem snap0 (h : List Blk) : SnapI [h] h [0] := ⟨fun j hj => by
  obtain rfl : j = 0 := by simpa using hj
  exact ⟨by simp, HPre.refl _⟩⟩
theorem runB_keep {kn : Kn} (hkn : KnOk P G kn) : ∀ (n bs : Nat) (c : DC) (s : St) (x : DX) (s' : St), runB P G tb kn n bs c s = some (x, s') → bs ≤ s.h.length → KeepB bs s.h s'.h := by
  intro n
  induction n with
  | zero => intro bs c s x s' H; cases H
  | succ n ih =>
    intro bs c s x s' H hb
    have two : ∀ (c1 : DC) (s1 : St) (x1 : DX) (c2 : DC) (s2 : St), runB P G tb kn n bs c1 s = some (x1, s1) → runB P G tb kn n bs c2 s1 = some (x, s2) → KeepB bs s.h s2.h := fun c1 s1 x1 c2 s2 h1 h2 => by
      have k := ih _ _ _ _ _ h1 hb
      exact k.trans (ih _ _ _ _ _ h2 (Nat.le_trans hb k.len))
    have hD := callD_keep (tb := tb) hkn ih
    cases c <;> simp only [runB] at H
    case skip => cases H; exact KeepB.refl _
    case rg =>
      obtain ⟨s1, h1, h2⟩ := Option.map_eq_some_iff.1 H
      cases h2
      exact evL_keep (callF_keep hkn (ih bs)) _ _ _ hb h1
    case rgd =>
      obtain ⟨⟨t1, hh1⟩, h1, h2⟩ := Option.map_eq_some_iff.1 H
      cases h2
      exact evD_keep hD _ _ _ _ _ _ _ hb (snap0 _) h1
    case rgv =>
      obtain ⟨⟨t1, hh1⟩, h1, h2⟩ := Option.map_eq_some_iff.1 H
      cases h2
      exact evD_keep hD _ _ _ _ _ _ _ hb (snap0 _) h1
    case rgm =>
      split at H
      · obtain ⟨⟨t1, hh1⟩, h1, h2⟩ := Option.map_eq_some_iff.1 H
        cases h2
        exact evD_keep hD _ _ _ _ _ _ _ hb (snap0 _) h1
      · cases H
    case seq a b =>
      split at H
      · rename_i s1 h1
        exact two _ _ _ _ _ h1 H
      · exact ih _ _ _ _ _ H hb
    case cond =>
      split at H
      · split at H
        · exact ih _ _ _ _ _ H hb
        · exact ih _ _ _ _ _ H hb
      · cases H
    case block id a =>
      split at H
      · rename_i i s1 h1
        split at H
        · cases H; exact ih _ _ _ _ _ h1 hb
        · cases H; exact ih _ _ _ _ _ h1 hb
      · exact ih _ _ _ _ _ H hb
    case loop a =>
      split at H
      · rename_i s1 h1
        exact two _ _ _ _ _ h1 H
      · exact ih _ _ _ _ _ H hb
    case exit => cases H; exact KeepB.refl _
    case ret => cases H; exact KeepB.refl _
theorem runB_sound {kn : Kn} (hkn : KnOk P G kn) (hG : GZ G) (ht : TabOk P tb) : ∀ (n : Nat) (nb : List Blk) (bs : Nat) (c : DC) (s : St) (x : DX) (s' : St) (Q : DX → St → Prop), runB P G tb kn n bs c s = some (x, s') → Q x s' → vc P G nb c s Q := by
  intro n
  induction n using Nat.strongRecOn with
  | _ n ih =>
    intro nb bs c s x s' Q H hQ
    cases n with
    | zero => cases H
    | succ n =>
      have ihn := ih n (Nat.lt_succ_self _)
      have ih0 := fun nb => ihn nb 0
      have ihb := fun nb => ihn nb bs
      have hcF := callF_sound hkn hG ht (rn0 := runB P G tb kn n 0) (rn := runB P G tb kn n bs) ih0 ihb
      have hc : ∀ B f args h v h', callD tb kn (runB P G tb kn n) B f args h = some (v, h') → Ok P G f args h v h' := fun B => callF_sound hkn hG ht (rn0 := runB P G tb kn n 0) (rn := runB P G tb kn n B) ih0 (fun nb => ihn nb B)
      have hcp := callD_keep (tb := tb) hkn (rn := runB P G tb kn n) (runB_keep (P := P) (G := G) (tb := tb) hkn n)
      have hpc := pcE_sound hG ht (rn := runB P G tb kn n 0) ih0
      cases c with
      | skip => simp only [runB] at H; cases H; rw [vc_skip]; exact hQ
      | rg ops =>
        simp only [runB] at H
        obtain ⟨s1, h1, h2⟩ := Option.map_eq_some_iff.1 H
        cases h2
        rw [vc_rg]
        exact evL_sound hcF hpc _ _ _ _ h1 hQ
      | rgm nb al ops =>
        simp only [runB] at H
        split at H
        · rename_i hnb
          obtain ⟨⟨t1, hh1⟩, h1, h2⟩ := Option.map_eq_some_iff.1 H
          cases h2
          rw [vc_rgm]
          exact ⟨hnb, evD_sound hc hpc hcp _ _ _ _ _ _ _ (snap0 _) h1 hQ⟩
        · cases H
      | rgv ops =>
        simp only [runB] at H
        obtain ⟨⟨t1, hh1⟩, h1, h2⟩ := Option.map_eq_some_iff.1 H
        cases h2
        rw [vc_rgv]
        refine ⟨s.h, HV.refl _, ?_⟩
        exact evD_sound hc hpc hcp _ _ _ _ _ _ _ (snap0 _) h1 hQ
      | rgd ops =>
        simp only [runB] at H
        obtain ⟨⟨t1, hh1⟩, h1, h2⟩ := Option.map_eq_some_iff.1 H
        cases h2
        rw [vc_rgd]
        exact evD_sound hc hpc hcp _ _ _ _ _ _ _ (snap0 _) h1 hQ
      | seq a b =>
        simp only [runB] at H
        rw [vc_seq]
        split at H
        · rename_i s1 h1
          exact ihn _ _ _ _ _ _ _ h1 (ihn _ _ _ _ _ _ _ H hQ)
        · rename_i r hr
          cases hra : runB P G tb kn n bs a s with
          | none => rw [hra] at H; cases H
          | some r1 =>
            obtain ⟨x1, s1⟩ := r1
            rw [hra] at H
            cases H
            refine ihn _ _ _ _ _ _ _ hra ?_
            cases x with
            | nrm => exact absurd hra (hr _)
            | _ => exact hQ
      | cond c a b =>
        simp only [runB] at H
        rw [vc_cond]
        split at H
        · rename_i t h1
          simp only [h1]
          split at H
          · rename_i h2; rw [if_pos h2]; exact ihn _ _ _ _ _ _ _ H hQ
          · rename_i h2; rw [if_neg h2]; exact ihn _ _ _ _ _ _ _ H hQ
        · cases H
      | block id a =>
        simp only [runB] at H
        rw [vc_block]
        cases hra : runB P G tb kn n bs a s with
        | none => rw [hra] at H; cases H
        | some r1 =>
          obtain ⟨x1, s1⟩ := r1
          rw [hra] at H
          refine ihn _ _ _ _ _ _ _ hra ?_
          cases x1 with
          | ext i =>
            simp only at H ⊢
            split at H
            · rename_i hi; cases H; rw [if_pos hi]; exact hQ
            · rename_i hi; cases H; rw [if_neg hi]; exact hQ
          | nrm => cases H; exact hQ
          | ret => cases H; exact hQ
      | loop a =>
        rw [vc_loop]
        let I : St → Nat → Prop := fun s1 k => k ≤ n + 1 ∧ runB P G tb kn k bs (.loop a) s1 = some (x, s')
        have key : ∀ s1, ∃ m, (∃ k, I s1 k) → I s1 m ∧ ∀ j, I s1 j → m ≤ j := fun s1 => by
          by_cases h : ∃ k, I s1 k
          · obtain ⟨k, hk⟩ := h
            obtain ⟨j, hj⟩ := least_of k hk
            exact ⟨j, fun _ => hj⟩
          · exact ⟨0, fun h' => (h h').elim⟩
        obtain ⟨μ, hμ⟩ : ∃ μ : St → Nat, ∀ s1, (∃ k, I s1 k) → I s1 (μ s1) ∧ ∀ j, I s1 j → μ s1 ≤ j := ⟨fun s1 => Classical.choose (key s1), fun s1 => Classical.choose_spec (key s1)⟩
        refine ⟨fun s1 => ∃ k, I s1 k, μ, ⟨s, Wk.refl, n + 1, Nat.le_refl _, H⟩, fun s1 hs1 => ?_⟩
        obtain ⟨⟨hk1, hk2⟩, hk3⟩ := hμ s1 hs1
        cases hk : μ s1 with
        | zero => rw [hk] at hk2; cases hk2
        | succ m =>
          rw [hk] at hk1 hk2
          simp only [runB] at hk2
          cases hra : runB P G tb kn m bs a s1 with
          | none => rw [hra] at hk2; cases hk2
          | some r1 =>
            obtain ⟨x1, s2⟩ := r1
            rw [hra] at hk2
            refine ih m (by omega) _ _ _ _ _ _ _ hra ?_
            cases x1 with
            | nrm =>
              simp only at hk2 ⊢
              have hex : ∃ k, I s2 k := ⟨m, by omega, hk2⟩
              have := (hμ s2 hex).2 m ⟨by omega, hk2⟩
              exact ⟨s2, Wk.refl, hex, by omega⟩
            | ext i => cases hk2; exact ⟨_, Wk.refl, hQ⟩
            | ret => cases hk2; exact hQ
      | exit id => simp only [runB] at H; cases H; rw [vc_exit]; exact hQ
      | ret => simp only [runB] at H; cases H; rw [vc_ret]; exact hQ

theorem run_sound (hG : GZ G) (ht : TabOk P tb) : ∀ (n : Nat) (nb : List Blk) (c : DC) (s : St) (x : DX) (s' : St) (Q : DX → St → Prop), run P G tb n c s = some (x, s') → Q x s' → vc P G nb c s Q := fun n nb c s x s' Q H hQ => runB_sound kn0_ok hG ht n nb 0 c s x s' Q H hQ

/-- A CALL OF PLAIN VALUES, BY RECKONING. -/
theorem Ok.eval (hG : GZ G) (ht : TabOk P tb) (n : Nat) {f : FuncId} {args : List DV} {v : DV} (H : (callE tb (run P G tb n) f args []).map Prod.fst = some v) (h : List Blk) : Ok P G f args h v h :=
  pcE_sound hG ht (run_sound hG ht n) _ _ _ H h

theorem Ok.evalK {kn : Kn} (hkn : KnOk P G kn) (hG : GZ G) (ht : TabOk P tb) (n : Nat) {f : FuncId} {args : List DV} {v : DV} (H : (callE tb (runB P G tb kn n 0) f args []).map Prod.fst = some v) (h : List Blk) : Ok P G f args h v h :=
  pcE_sound hG ht (fun nb c s x s' Q H hQ => runB_sound hkn hG ht n nb 0 c s x s' Q H hQ) _ _ _ H h
/-- A call on the memory as it is, by reckoning. -/
theorem Ok.evalF {kn : Kn} (hkn : KnOk P G kn) (hG : GZ G) (ht : TabOk P tb) (n : Nat) {f : FuncId} {args : List DV} {h : List Blk} {v : DV} {h' : List Blk} (H : callF tb kn (runB P G tb kn n 0) (runB P G tb kn n 0) f args h = some (v, h')) : Ok P G f args h v h' :=
  callF_sound hkn hG ht (fun nb c s x s' Q H hQ => runB_sound hkn hG ht n nb 0 c s x s' Q H hQ) (fun nb c s x s' Q H hQ => runB_sound hkn hG ht n nb 0 c s x s' Q H hQ) _ _ _ _ _ H

/-- What is still to be done, by reckoning. -/
def evK (rn : DC → St → Option (DX × St)) : List Fr → DX × St → Option (DX × St)
  | [], r => some r
  | .seq b :: st, (.nrm, s) => match rn b s with
    | some r => evK rn st r
    | none => none
  | .seq _ :: st, r => evK rn st r
  | .blk id :: st, (.ext i, s) => if i = id then evK rn st (.nrm, s) else evK rn st (.ext i, s)
  | .blk _ :: st, r => evK rn st r
theorem evK_sound {n : List Blk} {rn : DC → St → Option (DX × St)} {Q : DX → St → Prop} (hrn : ∀ c s x s' Q, rn c s = some (x, s') → Q x s' → vc P G n c s Q) : ∀ (st : List Fr) (r : DX × St) (x : DX) (s' : St), evK rn st r = some (x, s') → Q x s' → kon0 P G n st Q r.1 r.2
  | [], r, x, s', H, hQ => by
    simp only [evK] at H
    cases H
    exact hQ
  | .seq b :: st, (.nrm, s), x, s', H, hQ => by
    simp only [evK] at H
    split at H
    · rename_i r hr
      rw [kon0_seq_nrm]
      exact hrn _ _ _ _ _ hr (evK_sound hrn st r x s' H hQ)
    · cases H
  | .seq b :: st, (.ret, s), x, s', H, hQ => by
    simp only [evK] at H
    rw [kon0_seq_ret]
    exact evK_sound hrn st _ x s' H hQ
  | .seq b :: st, (.ext i, s), x, s', H, hQ => by
    simp only [evK] at H
    rw [kon0_seq_ext]
    exact evK_sound hrn st _ x s' H hQ
  | .blk id :: st, (.ext i, s), x, s', H, hQ => by
    simp only [evK] at H
    by_cases hi : i = id
    · subst hi
      rw [if_pos rfl] at H
      rw [kon0_blk_same]
      exact evK_sound hrn st _ x s' H hQ
    · rw [if_neg hi] at H
      rw [kon0_blk_ext hi]
      exact evK_sound hrn st _ x s' H hQ
  | .blk id :: st, (.nrm, s), x, s', H, hQ => by
    simp only [evK] at H
    rw [kon0_blk_nrm]
    exact evK_sound hrn st _ x s' H hQ
  | .blk id :: st, (.ret, s), x, s', H, hQ => by
    simp only [evK] at H
    rw [kon0_blk_ret]
    exact evK_sound hrn st _ x s' H hQ

/-- From here on by reckoning: the rest of a function that was called on an empty memory. -/
theorem VV_eval (hG : GZ G) (ht : TabOk P tb) (n : Nat) {c : DC} {s : St} {st : List Fr} {rs : List DR} {v : Value}
    (H : ((run P G tb n c s).bind (evK (run P G tb n) st)).bind (fun r => if r.1 = .ret ∨ r.1 = .nrm then resD r.2.h r.2.t rs else none) = some [.p v]) : VV P G [] c s st (RR [] rs (.p v) []) := by
  obtain ⟨⟨x, s'⟩, h1, h2⟩ := Option.bind_eq_some_iff.1 H
  obtain ⟨⟨x1, s1⟩, h3, h4⟩ := Option.bind_eq_some_iff.1 h1
  simp only at h2
  split at h2
  · rename_i hx
    refine ⟨?_⟩
    rw [VV0]
    have hrn := fun c s x s' Q => run_sound hG ht n (P := P) (G := G) (tb := tb) [] c s x s' Q
    refine hrn _ _ _ _ _ h3 (evK_sound hrn st _ _ _ h4 ?_)
    have key : RR0 [] rs (.p v) [] x s' := by
      rcases hx with rfl | rfl
      · exact ⟨_, h2, WkV.ofPure (by simp) rfl⟩
      · exact ⟨_, h2, WkV.ofPure (by simp) rfl⟩
    exact ⟨key⟩
  · cases h2
end

end Go.Den

namespace Go.Den
open Go

/-- A text of these bytes. -/
def txt (l : List UInt8) : ByteArray := ⟨l.toArray⟩
@[simp] theorem txt_size (l : List UInt8) : (txt l).size = l.length := by simp [txt]
theorem txt_inj {a b : List UInt8} : txt a = txt b ↔ a = b := by simp [txt]
@[simp] theorem txt_eq (a b : List UInt8) : (txt a = txt b) = (a = b) := propext txt_inj
theorem txt_of (s : ByteArray) : s = txt s.data.toList := by cases s; simp [txt]
@[simp] theorem txt_eq_mk (a : List UInt8) (x : Array UInt8) : (txt a = ByteArray.mk x) = (a = x.toList) := by
  simp only [txt, eq_iff_iff]
  constructor
  · intro h
    have := congrArg (fun s : ByteArray => s.data.toList) h
    simpa using this
  · rintro rfl; simp
@[simp] theorem txt_extract (l : List UInt8) (a b : Nat) : (txt l).extract a b = txt ((l.take b).drop a) := by
  have h : ∀ {x y : ByteArray}, x.data.toList = y.data.toList → x = y := fun {x y} h => by cases x; cases y; simp at h; rw [h]
  apply h
  simp [txt, List.extract_eq_take_drop, List.drop_take]
@[simp] theorem txt_append (a b : List UInt8) : txt a ++ txt b = txt (a ++ b) := by
  have h : ∀ {x y : ByteArray}, x.data.toList = y.data.toList → x = y := fun {x y} h => by cases x; cases y; simp at h; rw [h]
  apply h
  simp [txt]
theorem mk_txt (x : Array UInt8) : ByteArray.mk x = txt x.toList := by simp [txt]

theorem txt_nil : txt [] = ⟨#[]⟩ := rfl
@[simp] theorem mk_append_txt (x : Array UInt8) (b : List UInt8) : ByteArray.mk x ++ txt b = txt (x.toList ++ b) := by rw [mk_txt, txt_append]
@[simp] theorem txt_append_mk (a : List UInt8) (x : Array UInt8) : txt a ++ ByteArray.mk x = txt (a ++ x.toList) := by rw [mk_txt, txt_append]
@[simp] theorem txt_data (l : List UInt8) : (txt l).data = l.toArray := rfl


end Go.Den

namespace Go.Den
open Go

/-- The block of a slice. -/
def inBlk (d : DV) (i : Nat) : Prop := match d with
  | .sl b _ _ _ => i = b
  | _ => False
/-- A slice of these elements that owns its block, or nil. -/
def SlS (sz : Nat) (h : List Blk) (d : DV) (els : List DV) : Prop :=
  (d = .p (.slice none 0 0) ∧ els = []) ∨ ∃ b, d = .sl b 0 els.length els.length ∧ h[b]? = some (.cells sz els)
theorem SlS.nil {sz : Nat} {h : List Blk} : SlS sz h (.p (.slice none 0 0)) [] := .inl ⟨rfl, rfl⟩
/-- What an append to d keeps, of which d' came. -/
structure Keep (h h' : List Blk) (d d' : DV) : Prop where
  len : h.length ≤ h'.length
  old : ∀ i, i < h.length → ¬ inBlk d i → h'[i]? = h[i]?
  new : ∀ i, inBlk d' i → inBlk d i ∨ h.length ≤ i
theorem vc_slS {P : Program} {G : Nat → DV} {ev : Opd → DV} {sz bytes : Nat} {dx dy : DV} {x y : Opd} {h : List Blk} {K : DV → List Blk → Prop} {els ys : List DV} (hx : ev x = dx) (hy' : ev y = dy) (ho : SlS sz h dx els) (hy : elemsOf h sz dy = some ys) (hb : (els.length + ys.length) * bytes ≤ 140737488355328)
    (hK : ∀ d' h', SlS sz h' d' (els ++ ys) → Keep h h' dx d' → K d' h') : vcO P G (.app sz bytes x y) ev h K := by
  simp only [vcO, hx, hy', hy]
  rcases ho with ⟨rfl, rfl⟩ | ⟨b, rfl, h1⟩
  · simp only [List.nil_append] at hK
    refine ⟨by simpa using hb, fun h2 => ?_, fun h2 => ?_⟩
    · subst h2
      exact hK _ _ .nil ⟨Nat.le_refl _, fun i h1 h2 => rfl, fun i h => .inl h⟩
    · refine hK _ _ (.inr ⟨h.length, rfl, by simp⟩) ⟨by simp, fun i h1 h2 => by rw [List.getElem?_append_left h1], fun i h => .inr ?_⟩
      simp only [inBlk] at h
      omega
  · have hlt : b < h.length := (List.getElem?_eq_some_iff.1 h1).1
    simp only [h1]
    refine ⟨trivial, trivial, hb, trivial, Nat.le_refl _, ?_⟩
    rw [if_pos (.inl trivial)]
    refine hK _ _ (.inr ⟨b, by simp, by simp [hlt]⟩) ⟨by simp, fun i h2 h3 => ?_, fun i h => .inl h⟩
    have h4 : b ≠ i := fun h => h3 h.symm
    rw [List.getElem?_set_ne h4]
section
variable {P : Program} {G : Nat → DV} {n : List Blk} {sz bytes : Nat} {dx dy : DV} {dst : Option Nat} {t : List DV} {h : List Blk} {st : List Fr} {Q : DX → St → Prop} {els ys : List DV}
theorem AA_slS {l : List DOper} (ho : SlS sz h dx els) (hy : elemsOf h sz dy = some ys) (hb : (els.length + ys.length) * bytes ≤ 140737488355328)
    (hK : ∀ d' h', SlS sz h' d' (els ++ ys) → Keep h h' dx d' → KK P G n dst l t st Q d' h') : AA P G n sz bytes dx dy dst l t h st Q := ⟨vc_slS rfl rfl ho hy hb hK⟩
theorem DA_slS {fr : List Nat} {l : List DDOp} {Hs : List (List Blk)} (ho : SlS sz h dx els) (hy : elemsOf h sz dy = some ys) (hb : (els.length + ys.length) * bytes ≤ 140737488355328)
    (hK : ∀ d' h', SlS sz h' d' (els ++ ys) → Keep h h' dx d' → DH P G n dst fr l t Hs h st Q d' h') : DA P G n sz bytes dx dy dst fr l t Hs h st Q := ⟨vc_slS rfl rfl ho hy hb hK⟩
end

theorem SlS.elems {sz : Nat} {h : List Blk} {d : DV} {els : List DV} (ho : SlS sz h d els) : elemsOf h sz d = some els := by
  rcases ho with ⟨rfl, rfl⟩ | ⟨b, rfl, h3⟩
  · rfl
  · simp [elemsOf, h3]
theorem SlS.slice {sz : Nat} {h : List Blk} {d : DV} {els : List DV} (ho : SlS sz h d els) : sliceOf h sz d = some els := by
  rcases ho with ⟨rfl, rfl⟩ | ⟨b, rfl, h3⟩
  · rfl
  · simp [sliceOf, elemsOf, h3]
theorem SlS.blk {sz : Nat} {h : List Blk} {d : DV} {els : List DV} (ho : SlS sz h d els) {i : Nat} (hi : inBlk d i) : h[i]? = some (.cells sz els) := by
  rcases ho with ⟨rfl, rfl⟩ | ⟨b, rfl, h3⟩
  · exact hi.elim
  · cases hi; exact h3
theorem SlS.lt {sz : Nat} {h : List Blk} {d : DV} {els : List DV} (ho : SlS sz h d els) {i : Nat} (hi : inBlk d i) : i < h.length := (List.getElem?_eq_some_iff.1 (ho.blk hi)).1
theorem SlS.of {sz : Nat} {h h' : List Blk} {d : DV} {els : List DV} (ho : SlS sz h d els) (he : ∀ i, inBlk d i → h'[i]? = h[i]?) : SlS sz h' d els := by
  rcases ho with h1 | ⟨b, rfl, h3⟩
  · exact .inl h1
  · exact .inr ⟨b, rfl, by rw [he b rfl, h3]⟩

/-- The buffer in block bb (a structure with one field, a slice) holds these bytes. -/
structure BufS (h : List Blk) (bb : Nat) (d : DV) (l : List UInt8) : Prop where
  at_ : h[bb]? = some (.cells 1 [.agg [d]])
  sl : SlS 1 h d (bts l)
  ne : ¬ inBlk d bb
theorem BufS.lt {h : List Blk} {bb : Nat} {d : DV} {l : List UInt8} (hs : BufS h bb d l) : bb < h.length := (List.getElem?_eq_some_iff.1 hs.at_).1
/-- What a change of the buffer keeps. -/
structure BufK (h h' : List Blk) (bb : Nat) (d d' : DV) : Prop where
  len : h.length ≤ h'.length
  old : ∀ i, i < h.length → i ≠ bb → ¬ inBlk d i → h'[i]? = h[i]?
  new : ∀ i, inBlk d' i → inBlk d i ∨ h.length ≤ i
theorem BufK.refl {h : List Blk} {bb : Nat} {d : DV} : BufK h h bb d d := ⟨Nat.le_refl _, fun _ _ _ _ => rfl, fun _ h => .inl h⟩
theorem BufK.trans {h1 h2 h3 : List Blk} {bb : Nat} {d1 d2 d3 : DV} (a : BufK h1 h2 bb d1 d2) (b : BufK h2 h3 bb d2 d3) : BufK h1 h3 bb d1 d3 := by
  refine ⟨Nat.le_trans a.len b.len, fun i h1 h2 h3 => ?_, fun i h => ?_⟩
  · rw [b.old i (Nat.lt_of_lt_of_le h1 a.len) h2 fun h => ?_, a.old i h1 h2 h3]
    rcases a.new i h with h | h
    · exact h3 h
    · omega
  · rcases b.new i h with h | h
    · exact a.new i h
    · exact .inr (Nat.le_trans a.len h)
/-- Blocks that are laid in front. -/
theorem BufK.pre {h x h' : List Blk} {bb : Nat} {d d' : DV} (a : BufK (h ++ x) h' bb d d') : BufK h h' bb d d' := by
  refine ⟨Nat.le_trans (by simp) a.len, fun i h1 h2 h3 => ?_, fun i h => ?_⟩
  · rw [a.old i (by simp; omega) h2 h3, List.getElem?_append_left h1]
  · rcases a.new i h with h | h
    · exact .inl h
    · exact .inr (Nat.le_trans (by simp) h)
theorem BufS.push {h x : List Blk} {bb : Nat} {d : DV} {l : List UInt8} (hs : BufS h bb d l) : BufS (h ++ x) bb d l :=
  ⟨by rw [List.getElem?_append_left hs.lt]; exact hs.at_, hs.sl.of fun i hi => List.getElem?_append_left (hs.sl.lt hi), hs.ne⟩
/-- Appended, and stored. -/
theorem BufS.store {h h' : List Blk} {bb : Nat} {d d' : DV} {l u : List UInt8} (hs : BufS h bb d l) (h1 : SlS 1 h' d' (bts l ++ bts u)) (h2 : Keep h h' d d') : BufS (h'.set bb (.cells 1 [.agg [d']])) bb d' (l ++ u) ∧ BufK h (h'.set bb (.cells 1 [.agg [d']])) bb d d' := by
  have hne : ¬ inBlk d' bb := fun h => by
    rcases h2.new bb h with h | h
    · exact hs.ne h
    · have := hs.lt; omega
  have hlt : bb < h'.length := Nat.lt_of_lt_of_le hs.lt h2.len
  refine ⟨⟨by simp [hlt], ?_, hne⟩, by simpa using h2.len, fun i h3 h4 h5 => ?_, h2.new⟩
  · have : bts (l ++ u) = bts l ++ bts u := by simp [bts]
    rw [this]
    refine h1.of fun i hi => ?_
    rw [List.getElem?_set_ne]
    rintro rfl
    exact hne hi
  · rw [List.getElem?_set_ne (Ne.symm h4)]
    exact h2.old i h3 h5
/-- What a function that puts these bytes into the buffer leaves. -/
def BufP (h : List Blk) (bb : Nat) (d : DV) (l : List UInt8) (v : DV) (h' : List Blk) : Prop := v = .tup [] ∧ ∃ d', BufS h' bb d' l ∧ BufK h h' bb d d'

/-- The bytes of an array's beginning. -/
theorem elems_sa {h x : List Blk} {z : Nat} {u : List UInt8} {r : List DV} {c : Nat} : elemsOf (h ++ .cells z [.agg (bts u ++ r)] :: x) 1 (.sa false 1 h.length 0 0 u.length c 1) = some (bts u) := by
  simp [elemsOf, sub]
  apply List.ext_getElem
  · simp
  · intro i h1 h2
    simp at h1 h2
    simp [h2, List.getElem?_append]

end Go.Den

namespace Go.Den
open Go

theorem Wk.fitsE {G : Nat → DV} {h0 h h' : List Blk} {t t' : List DV} (he : h = h') (hf : Den.fits t t' true) : Wk G h0 ⟨t, h⟩ ⟨t', h'⟩ := he ▸ Wk.fits hf

/-! Numbers. -/
theorem ofInt_nat (w n : Nat) : BitVec.ofInt w (n : Int) = BitVec.ofNat w n := by
  apply BitVec.eq_of_toNat_eq
  simp
theorem wrap_u {k : IntKind} (hk : k.signed = false) (n : Nat) (hn : n < 2 ^ k.bits) : k.wrap (n : Int) = n := by
  unfold IntKind.wrap
  cases k <;> simp [IntKind.signed, IntKind.bits] at hk hn ⊢ <;> omega
theorem ior_nat {k : IntKind} (hk : k.signed = false) {a b : Nat} (ha : a < 2 ^ k.bits) (hb : b < 2 ^ k.bits) : ior k a b = ((a ||| b : Nat) : Int) := by
  unfold ior
  rw [ofInt_nat, ofInt_nat, BitVec.toNat_or, BitVec.toNat_ofNat, BitVec.toNat_ofNat, Nat.mod_eq_of_lt ha, Nat.mod_eq_of_lt hb]
  exact wrap_u hk _ (Nat.or_lt_two_pow ha hb)
theorem iand_nat {k : IntKind} (hk : k.signed = false) {a b : Nat} (ha : a < 2 ^ k.bits) (hb : b < 2 ^ k.bits) : iand k a b = ((a &&& b : Nat) : Int) := by
  unfold iand
  rw [ofInt_nat, ofInt_nat, BitVec.toNat_and, BitVec.toNat_ofNat, BitVec.toNat_ofNat, Nat.mod_eq_of_lt ha, Nat.mod_eq_of_lt hb]
  exact wrap_u hk _ (Nat.and_lt_two_pow _ hb)
theorem ixor_nat {k : IntKind} (hk : k.signed = false) {a b : Nat} (ha : a < 2 ^ k.bits) (hb : b < 2 ^ k.bits) : ixor k a b = ((a ^^^ b : Nat) : Int) := by
  unfold ixor
  rw [ofInt_nat, ofInt_nat, BitVec.toNat_xor, BitVec.toNat_ofNat, BitVec.toNat_ofNat, Nat.mod_eq_of_lt ha, Nat.mod_eq_of_lt hb]
  exact wrap_u hk _ (Nat.xor_lt_two_pow ha hb)
theorem ishl_nat {k : IntKind} (hk : k.signed = false) {a b : Nat} (h : a * 2 ^ b < 2 ^ k.bits) (hb : b ≤ k.bits) : ishl k a b = ((a * 2 ^ b : Nat) : Int) := by
  unfold ishl
  have : min (b : Int).toNat k.bits = b := by simp; omega
  rw [this]
  have e : ((a : Int) * 2 ^ b) = ((a * 2 ^ b : Nat) : Int) := by simp
  rw [e]
  exact wrap_u hk _ h
theorem ishr_nat {k : IntKind} {a b : Nat} (hb : b ≤ k.bits) : ishr k a b = ((a / 2 ^ b : Nat) : Int) := by
  unfold ishr
  have : min (b : Int).toNat k.bits = b := by simp; omega
  rw [this, Int.fdiv_eq_ediv_of_nonneg _ (by exact Int.le_of_lt (Int.pow_pos (by decide)))]
  simp
/-- Bits that don't meet. -/
theorem or_add {a b i : Nat} (h : a < 2 ^ i) : a ||| b * 2 ^ i = a + b * 2 ^ i := by
  rw [Nat.or_comm, Nat.mul_comm, ← Nat.two_pow_add_eq_or_of_lt h, Nat.add_comm]

/-- The block of a slice of an array. -/
def inSa (d : DV) (i : Nat) : Prop := match d with
  | .sa _ _ b _ _ _ _ _ => i = b
  | _ => False
/-- A slice of bytes whose capacity stays, or nil; its first bytes. -/
def CapS (h : List Blk) (f : DV) (l : List UInt8) : Prop :=
  (f = .p (.slice none 0 0) ∧ l = []) ∨ ∃ b rest, f = .sa false 1 b 0 0 l.length (l.length + rest.length) 1 ∧ h[b]? = some (.cells (l.length + rest.length) [.agg (bts (l ++ rest))])
theorem CapS.of {h h' : List Blk} {f : DV} {l : List UInt8} (hs : CapS h f l) (he : ∀ i, inSa f i → h'[i]? = h[i]?) : CapS h' f l := by
  rcases hs with h1 | ⟨b, rest, rfl, h3⟩
  · exact .inl h1
  · exact .inr ⟨b, rest, rfl, by rw [he b rfl, h3]⟩
theorem CapS.lt {h : List Blk} {f : DV} {l : List UInt8} (hs : CapS h f l) {i : Nat} (hi : inSa f i) : i < h.length := by
  rcases hs with ⟨rfl, _⟩ | ⟨b, rest, rfl, h3⟩
  · exact hi.elim
  · cases hi; exact (List.getElem?_eq_some_iff.1 h3).1

/-- Bytes that nobody writes: a part of a block, or nil. -/
def DataS (h : List Blk) (d : DV) (r : List UInt8) : Prop :=
  (d = .p (.slice none 0 0) ∧ r = []) ∨ ∃ b i D, d = .sl b i r.length D.length ∧ h[b]? = some (.cells 1 (bts D)) ∧ r = D.drop i
theorem DataS.of {h h' : List Blk} {d : DV} {r : List UInt8} (hs : DataS h d r) (he : ∀ i, inBlk d i → h'[i]? = h[i]?) : DataS h' d r := by
  rcases hs with h1 | ⟨b, i, D, rfl, h3, h4⟩
  · exact .inl h1
  · exact .inr ⟨b, i, D, rfl, by rw [he b rfl, h3], h4⟩
theorem DataS.lt {h : List Blk} {d : DV} {r : List UInt8} (hs : DataS h d r) {i : Nat} (hi : inBlk d i) : i < h.length := by
  rcases hs with ⟨rfl, _⟩ | ⟨b, j, D, rfl, h3, h4⟩
  · exact hi.elim
  · cases hi; exact (List.getElem?_eq_some_iff.1 h3).1

/-- A reader: its block, its buffer's, its data, its buffer's slice. -/
structure Rd where
  rb : Nat
  bb : Nat
  d : DV
  f : DV
/-- The blocks that it writes. -/
def Rd.own (R : Rd) (i : Nat) : Prop := i = R.rb ∨ i = R.bb ∨ inSa R.f i
structure RdS (h : List Blk) (R : Rd) (r l : List UInt8) : Prop where
  rb : h[R.rb]? = some (.cells 2 [.agg [R.d, .ptr R.bb 0 0 1]])
  bb : h[R.bb]? = some (.cells 1 [.agg [R.f]])
  d : DataS h R.d r
  f : CapS h R.f l
  ne : R.rb ≠ R.bb
  fr : ¬ inSa R.f R.rb
  fb : ¬ inSa R.f R.bb
  dn : ∀ i, inBlk R.d i → ¬ R.own i
structure RdK (h h' : List Blk) (R R' : Rd) : Prop where
  len : h.length ≤ h'.length
  old : ∀ i, i < h.length → ¬ R.own i → h'[i]? = h[i]?
  rb : R'.rb = R.rb
  bb : R'.bb = R.bb
  new : ∀ i, inSa R'.f i → inSa R.f i ∨ h.length ≤ i
  dsub : ∀ i, inBlk R'.d i → inBlk R.d i
theorem RdK.refl {h : List Blk} {R : Rd} : RdK h h R R := ⟨Nat.le_refl _, fun _ _ _ => rfl, rfl, rfl, fun _ h => .inl h, fun _ h => h⟩
theorem RdK.own {h h' : List Blk} {R R' : Rd} (a : RdK h h' R R') {i : Nat} (hi : i < h.length) (hn : ¬ R.own i) : ¬ R'.own i := by
  rintro (h1 | h1 | h1)
  · exact hn (.inl (h1.trans a.rb))
  · exact hn (.inr (.inl (h1.trans a.bb)))
  · rcases a.new i h1 with h2 | h2
    · exact hn (.inr (.inr h2))
    · omega
theorem RdK.trans {h1 h2 h3 : List Blk} {R1 R2 R3 : Rd} (a : RdK h1 h2 R1 R2) (b : RdK h2 h3 R2 R3) : RdK h1 h3 R1 R3 := by
  refine ⟨Nat.le_trans a.len b.len, fun i hi hn => ?_, b.rb.trans a.rb, b.bb.trans a.bb, fun i h => ?_, fun i h => a.dsub i (b.dsub i h)⟩
  · rw [b.old i (Nat.lt_of_lt_of_le hi a.len) (a.own hi hn), a.old i hi hn]
  · rcases b.new i h with h | h
    · exact a.new i h
    · exact .inr (Nat.le_trans a.len h)
theorem RdK.get {h h' : List Blk} {R R' : Rd} (a : RdK h h' R R') {i : Nat} {k : Blk} (hk : h[i]? = some k) (hn : ¬ R.own i) : h'[i]? = some k := by
  rw [a.old i (List.getElem?_eq_some_iff.1 hk).1 hn, hk]
theorem RdS.rlt {h : List Blk} {R : Rd} {r l : List UInt8} (s : RdS h R r l) : R.rb < h.length := (List.getElem?_eq_some_iff.1 s.rb).1
theorem RdS.blt {h : List Blk} {R : Rd} {r l : List UInt8} (s : RdS h R r l) : R.bb < h.length := (List.getElem?_eq_some_iff.1 s.bb).1
/-- Blocks that are laid behind it. -/
theorem RdS.push {h x : List Blk} {R : Rd} {r l : List UInt8} (s : RdS h R r l) : RdS (h ++ x) R r l :=
  ⟨by rw [List.getElem?_append_left s.rlt]; exact s.rb, by rw [List.getElem?_append_left s.blt]; exact s.bb, s.d.of fun i hi => List.getElem?_append_left (s.d.lt hi), s.f.of fun i hi => List.getElem?_append_left (s.f.lt hi), s.ne, s.fr, s.fb, s.dn⟩
theorem RdK.push {h x : List Blk} {R : Rd} : RdK h (h ++ x) R R := ⟨by simp, fun i hi _ => List.getElem?_append_left hi, rfl, rfl, fun _ h => .inl h, fun _ h => h⟩
/-- Other blocks are written. -/
theorem RdS.set {h : List Blk} {R : Rd} {r l : List UInt8} (s : RdS h R r l) {b : Nat} {k : Blk} (hn : ¬ R.own b) (hd : ¬ inBlk R.d b) : RdS (h.set b k) R r l := by
  have g : ∀ i, i ≠ b → (h.set b k)[i]? = h[i]? := fun i hi => List.getElem?_set_ne (Ne.symm hi)
  refine ⟨by rw [g _ fun h => hn (.inl h.symm)]; exact s.rb, by rw [g _ fun h => hn (.inr (.inl h.symm))]; exact s.bb, s.d.of fun i hi => g i fun h => hd (h ▸ hi), s.f.of fun i hi => g i fun h => hn (.inr (.inr (h ▸ hi))), s.ne, s.fr, s.fb, s.dn⟩
/-- A reader that was made since: what stood there stands there still. -/
theorem RdK.pre {h0 h h' : List Blk} {R R' : Rd} (a : RdK h h' R R') (hp : HPre h0 h) (hn : ∀ i, i < h0.length → ¬ R.own i) : HPre h0 h' := by
  intro b k hk
  have hlt := (List.getElem?_eq_some_iff.1 hk).1
  exact a.get (hp b k hk) (hn b hlt)
end Go.Den
namespace Go.Den
open Go
/-- What a reader keeps, but for one block. -/
structure RdX (xb : Nat) (h h' : List Blk) (R R' : Rd) : Prop where
  len : h.length ≤ h'.length
  old : ∀ i, i < h.length → i ≠ xb → ¬ R.own i → h'[i]? = h[i]?
  rb : R'.rb = R.rb
  bb : R'.bb = R.bb
  new : ∀ i, inSa R'.f i → inSa R.f i ∨ h.length ≤ i
  dsub : ∀ i, inBlk R'.d i → inBlk R.d i
theorem RdX.refl {xb : Nat} {h : List Blk} {R : Rd} : RdX xb h h R R := ⟨Nat.le_refl _, fun _ _ _ _ => rfl, rfl, rfl, fun _ h => .inl h, fun _ h => h⟩
theorem RdX.own {xb : Nat} {h h' : List Blk} {R R' : Rd} (a : RdX xb h h' R R') {i : Nat} (hi : i < h.length) (hn : ¬ R.own i) : ¬ R'.own i := by
  rintro (h1 | h1 | h1)
  · exact hn (.inl (h1.trans a.rb))
  · exact hn (.inr (.inl (h1.trans a.bb)))
  · rcases a.new i h1 with h2 | h2
    · exact hn (.inr (.inr h2))
    · omega
theorem RdX.trans {xb : Nat} {h1 h2 h3 : List Blk} {R1 R2 R3 : Rd} (a : RdX xb h1 h2 R1 R2) (b : RdX xb h2 h3 R2 R3) : RdX xb h1 h3 R1 R3 := by
  refine ⟨Nat.le_trans a.len b.len, fun i hi hx hn => ?_, b.rb.trans a.rb, b.bb.trans a.bb, fun i h => ?_, fun i h => a.dsub i (b.dsub i h)⟩
  · rw [b.old i (Nat.lt_of_lt_of_le hi a.len) hx (a.own hi hn), a.old i hi hx hn]
  · rcases b.new i h with h | h
    · exact a.new i h
    · exact .inr (Nat.le_trans a.len h)
theorem RdK.toX {xb : Nat} {h h' : List Blk} {R R' : Rd} (a : RdK h h' R R') : RdX xb h h' R R' := ⟨a.len, fun i hi _ hn => a.old i hi hn, a.rb, a.bb, a.new, a.dsub⟩
theorem RdX.set {xb : Nat} {h h' : List Blk} {R R' : Rd} (a : RdX xb h h' R R') {k : Blk} : RdX xb h (h'.set xb k) R R' :=
  ⟨by simpa using a.len, fun i hi hx hn => by rw [List.getElem?_set_ne (Ne.symm hx)]; exact a.old i hi hx hn, a.rb, a.bb, a.new, a.dsub⟩
theorem RdX.pre {xb : Nat} {h0 h h' : List Blk} {R R' : Rd} (a : RdX xb h h' R R') (hp : HPre h0 h) (hn : ∀ i, i < h0.length → ¬ R.own i) (hx : h0.length ≤ xb) : HPre h0 h' := by
  intro b k hk
  have hlt := (List.getElem?_eq_some_iff.1 hk).1
  rw [a.old b (List.getElem?_eq_some_iff.1 (hp b k hk)).1 (by omega) (hn b hlt)]
  exact hp b k hk
/-- A reader, and a block that is none of its own. -/
structure RdSX (xb : Nat) (x : Blk) (h : List Blk) (R : Rd) (r l : List UInt8) : Prop where
  s : RdS h R r l
  x : h[xb]? = some x
  n : ¬ R.own xb
  d : ¬ inBlk R.d xb
theorem RdSX.lt {xb : Nat} {x : Blk} {h : List Blk} {R : Rd} {r l : List UInt8} (s : RdSX xb x h R r l) : xb < h.length := (List.getElem?_eq_some_iff.1 s.x).1
theorem RdSX.set {xb : Nat} {x x' : Blk} {h : List Blk} {R : Rd} {r l : List UInt8} (s : RdSX xb x h R r l) : RdSX xb x' (h.set xb x') R r l :=
  ⟨s.s.set s.n s.d, by simp [s.lt], s.n, s.d⟩
theorem RdSX.next {xb : Nat} {x : Blk} {h h' : List Blk} {R R' : Rd} {r l r' l' : List UInt8} (s : RdSX xb x h R r l) (s' : RdS h' R' r' l') (k : RdK h h' R R') : RdSX xb x h' R' r' l' :=
  ⟨s', k.get s.x s.n, k.own s.lt s.n, fun h => s.d (k.dsub _ h)⟩
end Go.Den

namespace Go.Den
open Go

/-- What reads something off the front of some bytes. -/
abbrev Dec := List UInt8 → Option (Value × List UInt8)
def decs : List Dec → List UInt8 → Option (List Value × List UInt8)
  | [], r => some ([], r)
  | d :: ds, r => match d r with
    | some (v, r') => match decs ds r' with
      | some (vs, r'') => some (v :: vs, r'')
      | none => none
    | none => none
/-- Reads just these bytes, as this; not of fewer. -/
structure Ex {α : Type} (d : List UInt8 → Option (α × List UInt8)) (w : List UInt8) (v : α) : Prop where
  out : ∀ rest, d (w ++ rest) = some (v, rest)
  cut : ∀ p, p <+: w → p.length < w.length → d p = none
theorem Ex.nil : Ex (decs []) [] [] := ⟨fun rest => rfl, fun p _ h => absurd h (by simp)⟩
theorem Ex.cons {d : Dec} {ds : List Dec} {w W : List UInt8} {v : Value} {vs : List Value} (h : Ex d w v) (h' : Ex (decs ds) W vs) : Ex (decs (d :: ds)) (w ++ W) (v :: vs) := by
  refine ⟨fun rest => ?_, fun p hp hl => ?_⟩
  · rw [List.append_assoc, decs, h.out]
    simp only [h'.out]
  · rw [decs]
    rcases Nat.lt_or_ge p.length w.length with h1 | h1
    · have : p <+: w := List.prefix_of_prefix_length_le hp (List.prefix_append _ _) (Nat.le_of_lt h1)
      rw [h.cut p this h1]
    · have hw : w <+: p := List.prefix_of_prefix_length_le (List.prefix_append _ _) hp h1
      obtain ⟨q, rfl⟩ := hw
      rw [h.out]
      have hq : q <+: W := by
        obtain ⟨t, ht⟩ := hp
        rw [List.append_assoc] at ht
        exact ⟨t, List.append_cancel_left ht⟩
      simp only [h'.cut q hq (by simp at hl; omega)]
theorem Ex.of_take {α : Type} {d : List UInt8 → Option (α × List UInt8)} {w : List UInt8} {v : α} (h : Ex d w v) {n : Nat} (hn : n < w.length) : d (w.take n) = none := h.cut _ (List.take_prefix _ _) (by simp; omega)

/-- What a function that decodes into a block leaves. -/
def DecOut (t : TypeId) (h : List Blk) (R : Rd) (xb n : Nat) (F : List Value → List DV) (o : Option (List Value × List UInt8)) (v : DV) (h' : List Blk) : Prop :=
  match o with
  | some (vs, r) => v = .p .nilIface ∧ ∃ R' l', RdSX xb (.cells n [.agg (F vs)]) h' R' r l' ∧ RdX xb h h' R R'
  | none => (∃ x, v = .iface t x) ∧ ∃ R' r' l' X, RdSX xb X h' R' r' l' ∧ RdX xb h h' R R'
end Go.Den

namespace Go.Den
open Go

/-- A loop that is left in its first round. -/
theorem VV_once {P : Program} {G : Nat → DV} {n : List Blk} {Q : DX → St → Prop} {s : St} {st : List Fr} {a : DC}
    (h1 : ∀ B : DX → St → Prop, (∀ i s1, KON P G n st Q (.ext i) s1 → B (.ext i) s1) → (∀ s1, KON P G n st Q .ret s1 → B .ret s1) → VV P G n a s [] B) : VV P G n (.loop a) s st Q :=
  VV_fam (fun _ : Unit => s) (fun _ => True) (fun _ => 0) () trivial (fun _ D e a w hr hl => ⟨e, hr, Ev.refl' e hl⟩) fun x _ B _ he hr => h1 B he hr

/-! Package-level variables of numbers, truths and texts: from what a row lists to what they hold. -/
def litV : Lit → Value
  | .int k n => .int k n
  | .bool b => .bool b
  | .string bs => .string ⟨bs.toArray⟩
  | _ => .nilIface
theorem litV_one (l : Lit) : (litV l).oneCell' = true := by cases l <;> rfl

mutual
/-- A datum's cells. -/
def flatD : DataW Unit → Option (List Value)
  | .lit l => some [litV l]
  | .agg ps => flatL ps
  | _ => none
def flatL : List (DataW Unit) → Option (List Value)
  | [] => some []
  | d :: ds => match flatD d, flatL ds with
    | some a, some b => some (a ++ b)
    | _, _ => none
end

def flatFs (P : Program) (g : TypeId → Bool) : Nat → List Field → Bool
  | _, [] => true
  | off, f :: fs => f.offset == off && g f.type && flatFs P g (off + P.cellsOf f.type) fs
/-- A type of numbers, truths, texts, and structures and arrays of such. -/
def flatT (P : Program) : Nat → TypeId → Bool
  | 0, _ => false
  | m + 1, t => match P.underlying t with
    | some (.int _) => true
    | some .bool => true
    | some .string => true
    | some (.struct fs) => sumFs P fs.toList == P.cellsOf t && flatFs P (flatT P m) 0 fs.toList
    | some (.array k e) => sumFs P (arrFs (P.cellsOf e) e 0 k) == P.cellsOf t && flatFs P (flatT P m) 0 (arrFs (P.cellsOf e) e 0 k)
    | _ => false

theorem flat_fields {P : Program} {cs : List Value} {g : TypeId → Bool} : ∀ (fs : List Field) (off : Nat) (ds : List (DataW Unit)), flatFs P g off fs = true → ds.length = fs.length → off + sumFs P fs ≤ cs.length →
    (∀ i (hi : i < fs.length) (hi' : i < ds.length), g fs[i].type = true → flatD ds[i] = some ((cs.drop fs[i].offset).take (P.cellsOf fs[i].type))) →
    flatL ds = some ((cs.drop off).take (sumFs P fs))
  | [], off, ds, _, hl, _, _ => by
    obtain rfl : ds = [] := List.eq_nil_of_length_eq_zero hl
    simp [flatL, sumFs]
  | f :: fs, off, [], _, hl, _, _ => by simp at hl
  | f :: fs, off, d :: ds, h, hl, hlen, hf => by
    simp only [flatFs, Bool.and_eq_true, beq_iff_eq] at h
    obtain ⟨⟨h1, h2⟩, h3⟩ := h
    simp only [sumFs] at hlen
    have g0 := hf 0 (by simp) (by simp) h2
    have gs := flat_fields (cs := cs) fs _ ds h3 (by simpa using hl) (by omega) (fun i hi hi' hg => by
      have := hf (i + 1) (by simpa using hi) (by simpa using hi') (by simpa using hg)
      simpa using this)
    simp only [List.getElem_cons_zero] at g0
    simp only [flatL, g0, gs, sumFs]
    rw [h1, List.take_add, List.drop_drop]

theorem flat_cells {enc : TypeId × Value → Unit} {P : Program} {w : World} {base : Nat} {spare : Nat → Bool} {held : Bool} : ∀ (m : Nat) (t : TypeId) (fuel : Nat) (cs : List Value) (x : DataW Unit × List MemPlace), flatT P m t = true → DataW.trod enc P w base spare held fuel t cs = some x → flatD x.1 = some cs
  | 0, _, _, _, _, h, _ => by cases h
  | m + 1, t, fuel, cs, x, h, hx => by
    simp only [flatT] at h
    split at h
    · rename_i k hu
      obtain ⟨n, rfl, rfl, _⟩ := DataW.trod_int hu hx
      rfl
    · rename_i hu
      obtain ⟨b, rfl, rfl⟩ := DataW.trod_bool hu hx
      rfl
    · rename_i hu
      obtain ⟨s, rfl, rfl, _⟩ := DataW.trod_string hu hx
      simp [flatD, litV]
    · rename_i fs hu
      simp only [Bool.and_eq_true, beq_iff_eq] at h
      obtain ⟨xs, n, rfl, rfl, hl, hxl, hall⟩ := DataW.trod_struct hu hx
      have := flat_fields (P := P) (cs := cs) fs.toList 0 (xs.map (·.1)) h.2 (by simpa using hxl) (by omega) (fun i hi hi' hg => by
        have hi2 : i < fs.size := by simpa using hi
        have hxi := hall i fs[i] (by simp [hi2])
        rw [List.getElem?_eq_getElem (by omega)] at hxi
        have := flat_cells m _ n _ _ (by simpa using hg) hxi
        simpa using this)
      simp only [flatD, this]
      rw [List.drop_zero, h.1, ← hl, List.take_length]
    · rename_i k e hu
      simp only [Bool.and_eq_true, beq_iff_eq] at h
      obtain ⟨xs, n, rfl, rfl, hl, hxl, hall⟩ := DataW.trod_array hu hx
      have hal : ∀ (sz : Nat) (off n : Nat), (arrFs sz e off n).length = n := by
        intro sz off n
        induction n generalizing off with
        | zero => rfl
        | succ n ih => simp [arrFs, ih]
      have hat : ∀ (sz : Nat) (n off i : Nat) (hi : i < (arrFs sz e off n).length), (arrFs sz e off n)[i].type = e ∧ (arrFs sz e off n)[i].offset = off + i * sz := by
        intro sz n
        induction n with
        | zero => intro off i hi; simp [arrFs] at hi
        | succ n ih =>
          intro off i hi
          cases i with
          | zero => simp [arrFs]
          | succ i =>
            obtain ⟨h1, h2⟩ := ih (off + sz) i (by simpa [arrFs] using hi)
            simp only [arrFs, List.getElem_cons_succ]
            refine ⟨h1, ?_⟩
            rw [h2, Nat.succ_mul]
            omega
      have := flat_fields (P := P) (cs := cs) (arrFs (P.cellsOf e) e 0 k) 0 (xs.map (·.1)) h.2 (by rw [hal]; simpa using hxl) (by omega) (fun i hi hi' hg => by
        have hi2 : i < k := by rwa [hal] at hi
        obtain ⟨e1, e2⟩ := hat _ k 0 i hi
        have hxi := hall i hi2
        rw [List.getElem?_eq_getElem (by omega)] at hxi
        rw [e1] at hg ⊢
        have := flat_cells m _ n _ _ hg hxi
        rw [e2, Nat.zero_add]
        simpa using this)
      simp only [flatD, this]
      rw [List.drop_zero, h.1, ← hl, List.take_length]
    · cases h

/-- One listed variable, as it reads. -/
theorem laid_var {P : Program} {w : World} : ∀ {l : List (String × DataW Unit)} {ps : List MemPlace}, DataW.LaidVars P w l ps → ∀ n d, (n, d) ∈ l →
    ∃ g t cs fuel p, P.globalNamed n = some g ∧ (P.globals[g]?).map (·.type) = some t ∧ w.var? P n = some cs ∧ DataW.trod (fun _ => ()) P w 0 (fun _ => true) false fuel t cs.toList = some (d, p)
  | [], _, _, _, _, hm => by cases hm
  | (n', d') :: r, ps, h, n, d, hm => by
    obtain ⟨g, t, cs, fuel, p, q, h1, h2, h3, h4, h5, _⟩ := h
    rcases List.mem_cons.1 hm with e | e
    · cases e
      exact ⟨g, t, cs, fuel, p, h1, h2, h3, h4⟩
    · exact laid_var h5 n d e

/-- A listed variable of numbers, truths and texts: its place is that of memory which nobody writes. -/
theorem laid_flat {P : Program} {w : World} {l : List (String × DataW Unit)} (h : laidMet P l w) {n : String} {d : DataW Unit} (hm : (n, d) ∈ l) {g : Nat} (m : Nat) {vs : List Value}
    (hg : P.globalNamed n = some g) (hf : (match (P.globals[g]?).map (·.type) with | some t => flatT P m t | none => false) = true) (hd : flatD d = some vs) (hne : vs ≠ []) (h1 : vs.all (·.oneCell') = true) :
    VR (env0 w) (.fp (.agg (vs.map .p))) (.pointer (some ⟨g, 0, none⟩)) := by
  obtain ⟨ps, hv, _⟩ := h
  obtain ⟨g', t', cs, fuel, p, k1, k2, k3, k4⟩ := laid_var hv n d hm
  obtain rfl := Option.some.inj (hg.symm.trans k1)
  rw [k2] at hf
  have k5 := flat_cells m t' fuel _ _ hf k4
  simp only [hd] at k5
  have hcs : vs = cs.toList := Option.some.inj k5
  have hcell : ∀ i, cellAt w.heap g i = cs[i]? := fun i => by
    rw [← cellAt_cell?]
    exact World.var?_cell k1 k3 i
  have hsz : 0 < cs.size := by
    have := List.length_pos_iff.2 hne
    rw [hcs] at this
    simpa using this
  have hlt : g < w.heap.size := by
    have h0 := hcell 0
    rw [Array.getElem?_eq_getElem hsz] at h0
    unfold cellAt at h0
    split at h0
    · rename_i hb
      exact (Array.getElem?_eq_some_iff.1 hb).1
    · cases h0
  have hone : ∀ i (hi : i < cs.size), cs[i].oneCell' = true := fun i hi => by
    have := List.all_eq_true.1 h1 cs[i] (by rw [hcs]; simp)
    exact this
  refine .fp (.agg cs) rfl ⟨hlt, fun b q hk => absurd rfl hk, id⟩ (.agg (by rw [hcs]; simp) hone fun i hi hi' => ?_) fun k hk => ?_
  · have : (vs.map DV.p)[i] = .p cs[i] := by simp [hcs]
    rw [this]
    exact .p (hone i hi')
  · simp only [Nat.zero_add]
    exact hcell k

/-- It has just these cells. -/
theorem laid_GX {P : Program} {w : World} {l : List (String × DataW Unit)} (h : laidMet P l w) {n : String} {d : DataW Unit} (hm : (n, d) ∈ l) {g : Nat} (m : Nat) {vs : List Value}
    (hg : P.globalNamed n = some g) (hf : (match (P.globals[g]?).map (·.type) with | some t => flatT P m t | none => false) = true) (hd : flatD d = some vs) : GX (env0 w) g (.fp (.agg (vs.map .p))) := by
  obtain ⟨ps, hv, _⟩ := h
  obtain ⟨g', t', cs, fuel, p, k1, k2, k3, k4⟩ := laid_var hv n d hm
  obtain rfl := Option.some.inj (hg.symm.trans k1)
  rw [k2] at hf
  have k5 := flat_cells m t' fuel _ _ hf k4
  simp only [hd] at k5
  have hcs : vs = cs.toList := Option.some.inj k5
  cases hvs : vs with
  | nil => trivial
  | cons x xs =>
    simp only [List.map_cons, GX]
    simp only [World.var?, hg, Option.bind_some] at k3
    split at k3
    · rename_i c T f hb
      cases k3
      refine ⟨_, _, _, hb, ?_⟩
      have : cs.toList.length = (x :: xs).length := by rw [← hcs, hvs]
      simpa using this
    · cases k3

end Go.Den

namespace Go.Den
open Go

/-! Loops of few rounds, round by round. -/
section
variable {P : Program} {G : Nat → DV} {n : List Blk}
def un0 (P : Program) (G : Nat → DV) (n : List Blk) (a : DC) (st : List Fr) (Q : DX → St → Prop) : Nat → DX → St → Prop
  | 0, .nrm, _ => False
  | m + 1, .nrm, s => VV P G n a s [] (un0 P G n a st Q m)
  | _, .ret, s => KON P G n st Q .ret s
  | _, .ext i, s => KON P G n st Q (.ext i) s
/-- Behind a round; at most m more. -/
structure UN (P : Program) (G : Nat → DV) (n : List Blk) (m : Nat) (a : DC) (st : List Fr) (Q : DX → St → Prop) (x : DX) (s : St) : Prop where
  out : un0 P G n a st Q m x s
theorem UN_e : (fun m a st Q => UN P G n m a st Q) = fun m a st Q => un0 P G n a st Q m := by
  funext m a st Q x s
  exact propext ⟨fun x => x.out, fun x => ⟨x⟩⟩
theorem UN_is {m : Nat} {a : DC} {st : List Fr} {Q : DX → St → Prop} : UN P G n m a st Q = un0 P G n a st Q m := congrFun (congrFun (congrFun (congrFun UN_e m) a) st) Q
@[simp] theorem UN_nrm {m : Nat} {a : DC} {st : List Fr} {Q : DX → St → Prop} {s : St} : UN P G n (m + 1) a st Q .nrm s = VV P G n a s [] (UN P G n m a st Q) := by
  rw [UN_is, UN_is]
  rfl
@[simp] theorem UN_ret {m : Nat} {a : DC} {st : List Fr} {Q : DX → St → Prop} {s : St} : UN P G n m a st Q .ret s = KON P G n st Q .ret s := by
  rw [UN_is]
  cases m <;> rfl
@[simp] theorem UN_ext {m i : Nat} {a : DC} {st : List Fr} {Q : DX → St → Prop} {s : St} : UN P G n m a st Q (.ext i) s = KON P G n st Q (.ext i) s := by
  rw [UN_is]
  cases m <;> rfl
theorem VV_mono {a : DC} {s : St} {Q Q' : DX → St → Prop} (hQ : ∀ x s, Q x s → Q' x s) (H : VV P G n a s [] Q) : VV P G n a s [] Q' := ⟨vc_mono a (fun x s hx => hQ x s hx) H.out⟩
theorem exists_least {p : Nat → Prop} (h : ∃ k, p k) : ∃ k, p k ∧ ∀ j, p j → k ≤ j := by
  obtain ⟨k, hk⟩ := h
  induction k using Nat.strongRecOn with
  | _ k ih =>
    by_cases hj : ∃ j, j < k ∧ p j
    · obtain ⟨j, h1, h2⟩ := hj
      exact ih j h1 h2
    · exact ⟨k, hk, fun j h => Nat.le_of_not_lt fun h' => hj ⟨j, h', h⟩⟩
open Classical in
/-- A LOOP OF AT MOST SO MANY ROUNDS. -/
theorem VV_unroll (m : Nat) {a : DC} {st : List Fr} {Q : DX → St → Prop} {s : St} (H : VV P G n a s [] (UN P G n m a st Q)) : VV P G n (.loop a) s st Q := by
  rw [UN_is] at H
  refine VV_loop (fun s => ∃ k, VV P G n a s [] (un0 P G n a st Q k)) (fun s => if h : ∃ k, VV P G n a s [] (un0 P G n a st Q k) then Classical.choose (exists_least h) else 0) ⟨s, Wk.refl, m, H⟩ ?_
  intro s hs B hb he hr
  have h1 := (Classical.choose_spec (exists_least hs)).1
  refine VV_mono (fun x s1 hx => ?_) h1
  cases x with
  | nrm =>
    cases hk : Classical.choose (exists_least hs) with
    | zero => rw [hk] at hx; exact hx.elim
    | succ k =>
      rw [hk] at hx
      have h2 : ∃ k, VV P G n a s1 [] (un0 P G n a st Q k) := ⟨k, hx⟩
      refine hb s1 ⟨s1, Wk.refl, h2, ?_⟩
      rw [dif_pos h2, dif_pos hs, hk]
      exact Nat.lt_succ_of_le ((Classical.choose_spec (exists_least h2)).2 _ hx)
  | ret => exact hr s1 (by cases hk : Classical.choose (exists_least hs) <;> (rw [hk] at hx; exact hx))
  | ext i => exact he i s1 (by cases hk : Classical.choose (exists_least hs) <;> (rw [hk] at hx; exact hx))
end
/-- A structure, part by part. -/
theorem FrzR.agg {h h0 : List Blk} {l l' : List DV} (H : FrzL h h0 l l') : FrzR h h0 (.agg l) (.agg l') := fun e v he hr hv => by
  obtain ⟨h1, h2⟩ := H.tr
  cases hv with
  | agg hl g1 g => exact .agg (h1.trans hl) g1 fun i hi hi' => h2 i (by omega) hi e _ he hr (g i (by omega) hi')
theorem HWF.set {h : List Blk} {b : Nat} {k : Blk} (hh : HWF h) (hk : k.wf (· < h.length)) : HWF (h.set b k) := fun c x hc => by
  rw [List.length_set]
  rw [List.getElem?_set] at hc
  split at hc
  · split at hc
    · cases hc; exact hk
    · cases hc
  · exact hh c x hc
theorem wf_bts {B : Nat → Prop} {sz : Nat} {l : List UInt8} : (Blk.cells sz (bts l)).wf B := fun j hj => by
  simp only [bts_getElem]
  exact .p
/-- What was made since, behind all the rest, is no longer spoken of. -/
theorem WkV.drop {h0 h x : List Blk} {d : DV} (hn : h0.length ≤ h.length) (hw : HWF h0 → HWF h) (hwd : WF (· < h.length) d) : WkV h0 d (h ++ x) d h := WkV.cut (HPre.append h x) hn hw hwd
theorem Own.frzR1 {h1 h : List Blk} {sz : Nat} {d : DV} {els : List DV} (ho : Own h1 sz h d els) (hw : HWF h1) (hl : plainL els) : FrzR h h1 d (.fz sz els) := by
  have hd : ∀ (b : Nat) (k : Blk), h1[b]? = some k → h[b]? = some k ∨ k = .dead := fun b k hb => .inl (ho.pre b k hb)
  rcases ho.2 with ⟨rfl, rfl⟩ | ⟨b, rfl, h2, h3⟩
  · exact .nil
  · exact FrzR.of 1 hd hw (by rw [frz_sl hl h3 h2 rfl]; simp)
theorem FrzR_p {h h0 : List Blk} {v : Value} : FrzR h h0 (.p v) (.p v) = True := eq_true .p
end Go.Den

namespace Go.Den
open Go

/-- A block of the base is written. -/
theorem Own.setb {h1 h : List Blk} {sz : Nat} {d : DV} {els : List DV} (ho : Own h1 sz h d els) {c : Nat} (hc : c < h1.length) (y : Blk) : Own (h1.set c y) sz (h.set c y) d els := by
  obtain ⟨hp, h2⟩ := ho
  refine ⟨fun b k hb => ?_, ?_⟩
  · rw [List.getElem?_set] at hb ⊢
    split at hb
    · rename_i he
      subst he
      rw [if_pos rfl]
      have : c < h.length := Nat.lt_of_lt_of_le hc hp.length
      rw [if_pos this]
      exact hb
    · rename_i he
      rw [if_neg he]
      exact hp b k hb
  · rcases h2 with ⟨rfl, rfl⟩ | ⟨b, rfl, h3, h4⟩
    · exact .inl ⟨rfl, rfl⟩
    · refine .inr ⟨b, rfl, by simpa using h3, ?_⟩
      rw [List.getElem?_set_ne (by omega)]
      exact h4
/-- A slice of one's own, read where only some blocks are spoken of. -/
theorem Own.frzT {h1 h h' : List Blk} {sz : Nat} {d : DV} {els : List DV} (ho : Own h1 sz h d els) (hd : ∀ (b : Nat) (k : Blk), h'[b]? = some k → h[b]? = some k ∨ k = .dead) (hw : HWF h') (hn : h'.length ≤ h1.length) (hl : plainL els) : FrzR h h' d (.fz sz els) := by
  rcases ho.2 with ⟨rfl, rfl⟩ | ⟨b, rfl, h2, h3⟩
  · exact .nil
  · exact FrzR.of 1 hd hw (by rw [frz_sl hl h3 (by omega) rfl]; simp)
theorem FrzR.tup {h h0 : List Blk} {l l' : List DV} (H : FrzL h h0 l l') : FrzR h h0 (.tup l) (.tup l') := fun e v he hr hv => by
  obtain ⟨h1, h2⟩ := H.tr
  cases hv with
  | tup hl g => exact .tup (h1.trans hl) fun i hi hi' => h2 i (by omega) hi e _ he hr (g i (by omega) hi')
/-- At a return: only some blocks are spoken of any longer, and what is told is read so. -/
theorem WkV.ofFrz {h0 h h' : List Blk} {d d' : DV} (hn : h0.length ≤ h'.length) (hd : ∀ (b : Nat) (k : Blk), h'[b]? = some k → h[b]? = some k ∨ k = .dead) (hw : HWF h0 → HWF h') (hf : HWF h0 → FrzR h h' d d') : WkV h0 d h d' h' := by
  intro h0w e v he hr hv hl
  subst he
  obtain ⟨ev, hh⟩ := env_drop hr h' hd
  exact ⟨⟨e.ρ, h', e.H, e.pv⟩, rfl, rfl, hh (hw h0w), hf h0w e v rfl hr hv, ⟨hn, Nat.le_refl _, ev.ro, fun b hb k' hk => ev.key b (Nat.lt_of_lt_of_le hb hn) k' hk, ev.pv, ev.pvH⟩⟩
/-- What is left behind a call is well formed, too. -/
theorem OkR.hwf {P : Program} {G : Nat → DV} {f : FuncId} {args : List DV} {h : List Blk} {R : DV → List Blk → Prop} (hf : OkR P G f args h R) : OkR P G f args h fun v h' => R v h' ∧ HWF h' :=
  fun e w vs he hH hr hg ht => (hf e w vs he hH hr hg ht).mono fun en w' ⟨v', e', v1, h1, g1, g2, g3, g4, g5, g6, g7, g8⟩ => ⟨v', e', v1, h1, g1, g2, g3, g4, g5, g6, g7, g8, by rw [← g3]; exact g5.hwf⟩
theorem noIter_set {h : List Blk} {b c : Nat} {y : Blk} (hh : noIter h b) (hy : ∀ l, y ≠ .mit (some b) l) : noIter (h.set c y) b := fun a l ha => by
  rw [List.getElem?_set] at ha
  split at ha
  · split at ha
    · cases ha; exact absurd rfl (hy l)
    · cases ha
  · exact hh a l ha
end Go.Den
