/- The library: contracts of functions over denoted values (M). -/
import Derived.Test.YtbbafeocmchlnaaDenL
import Derived.Laws.StructEq
set_option linter.unusedVariables false
set_option linter.unusedSimpArgs false
set_option linter.unusedSectionVars false
set_option linter.unnecessarySimpa false
namespace Go.Den
open Go

def isStruct (P : Program) (t : TypeId) : Bool :=
  match P.underlying t with
  | some (.struct _) => true
  | _ => false

/-- The kinds of a type's cells, if its values are compared cell by cell: so deep. -/
def eqLay (P : Program) : Nat → TypeId → Option (List CK)
  | 0, _ => none
  | d + 1, t => match kindOf P t with
    | some k => some [k]
    | none => match P.underlying t with
      | some (.struct fs) => if P.stoodInHeld t then none else
        fs.toList.foldl (fun (acc : Option (List CK)) f => acc.bind fun ks => if f.name ≠ "_" ∧ f.offset = ks.length then (eqLay P d f.type).bind fun l => if (tyI P f.type) = some (isStruct P f.type, l.length) then some (ks ++ l) else none else none) (some [])
      | _ => none

theorem cellsEq_len : ∀ (ks : List CK) (xs ys : List DV) (r : Bool), cellsEq ks xs ys = some r → xs.length = ks.length ∧ ys.length = ks.length
  | [], [], [], _, _ => ⟨rfl, rfl⟩
  | k :: ks, x :: xs, y :: ys, r, h => by
    simp only [cellsEq] at h
    split at h
    · rename_i a b h1 h2
      have := cellsEq_len ks xs ys b h2
      simp [this.1, this.2]
    · cases h
  | [], _ :: _, _, _, h => by simp [cellsEq] at h
  | [], [], _ :: _, _, h => by simp [cellsEq] at h
  | _ :: _, [], _, _, h => by simp [cellsEq] at h
  | _ :: _, _ :: _, [], _, h => by simp [cellsEq] at h

theorem cellsEq_append : ∀ (ks ks' : List CK) (xs ys : List DV) (r : Bool), cellsEq (ks ++ ks') xs ys = some r →
    ∃ r1 r2, cellsEq ks (xs.take ks.length) (ys.take ks.length) = some r1 ∧ cellsEq ks' (xs.drop ks.length) (ys.drop ks.length) = some r2 ∧ r = (r1 && r2)
  | [], ks', xs, ys, r, h => ⟨true, r, by simp [cellsEq], by simpa using h, by simp⟩
  | k :: ks, ks', x :: xs, y :: ys, r, h => by
    simp only [List.cons_append, cellsEq] at h
    split at h
    · rename_i a b h1 h2
      obtain ⟨r1, r2, h3, h4, h5⟩ := cellsEq_append ks ks' xs ys b h2
      refine ⟨a && r1, r2, ?_, ?_, ?_⟩
      · simp only [List.length_cons, List.take_succ_cons, cellsEq, h1, h3]
      · simpa using h4
      · simp only [Option.some.injEq] at h
        rw [← h, h5, Bool.and_assoc]
    · cases h
  | _ :: _, _, [], _, _, h => by simp [cellsEq] at h
  | _ :: _, _, _ :: _, [], _, h => by simp [cellsEq] at h

theorem run_cellEq {P : Program} {e : Env} {t : TypeId} {k : CK} (hk : kindOf P t = some k) {x y : DV} {a b : Value} (hx : VR e x a) (hy : VR e y b) {r : Bool} (h : cellEq k x y = some r) (d : Nat) (w : World) : (Op.equalIn (d + 1) t a b).run P w = .ok r w := by
  unfold cellEq at h
  unfold kindOf at hk
  split at h
  · obtain ⟨rfl, _⟩ := vr_p hx
    obtain ⟨rfl, _⟩ := vr_p hy
    split at h
    · rename_i hkk
      subst hkk
      cases h
      split at hk
      · cases hk
      · rename_i k' hu; exact run_equalIn_int w d t _ k' _ _ hu
      · cases hk
      · cases hk
    · cases h
  · obtain ⟨rfl, _⟩ := vr_p hx
    obtain ⟨rfl, _⟩ := vr_p hy
    cases h
    split at hk
    · rename_i hu; exact Den.run_equalIn_bool hu _ _ d w
    · cases hk
    · cases hk
    · cases hk
  · obtain ⟨rfl, _⟩ := vr_p hx
    obtain ⟨rfl, _⟩ := vr_p hy
    cases h
    split at hk
    · cases hk
    · cases hk
    · rename_i hu; rw [run_equalIn_string w d t _ _ hu, toList_beq]
    · cases hk
  · cases h

/-- Cells of two structs, from o on. -/
structure CellsAt (e : Env) (xs : List DV) (as : Array Value) (o : Nat) : Prop where
  hl : o + xs.length ≤ as.size
  h : ∀ i (hi : i < xs.length), VR e xs[i] (as[o + i]'(by omega))

theorem ofCells_false (as : Array Value) (o : Nat) (h : o < as.size) : ofCells false ((as.toList.drop o).take 1) = as[o] := by
  simp [ofCells, List.getD, h]

theorem run_eqLay {P : Program} {e : Env} : ∀ (d : Nat) (t : TypeId) (ks : List CK), eqLay P d t = some ks → ∀ (g : Bool), tyI P t = some (g, ks.length) → g = isStruct P t →
    ∀ (xs ys : List DV) (as bs : Array Value) (o : Nat), CellsAt e xs as o → CellsAt e ys bs o → ∀ r, cellsEq ks xs ys = some r → ∀ m, d ≤ m → ∀ w, (Op.equalIn m t (ofCells g ((as.toList.drop o).take ks.length)) (ofCells g ((bs.toList.drop o).take ks.length))).run P w = .ok r w := by
  intro d
  induction d with
  | zero => intro t ks h; cases h
  | succ d ih =>
    intro t ks h g hty hg xs ys as bs o hx hy r hr m hm w
    obtain ⟨m, rfl⟩ : ∃ m', m = m' + 1 := ⟨m - 1, by omega⟩
    simp only [eqLay] at h
    cases hk : kindOf P t with
    | some k =>
      rw [hk] at h
      cases h
      have hgf : g = false := by
        rw [hg]
        unfold kindOf at hk
        unfold isStruct
        split at hk <;> first | (rename_i hu; rw [hu]) | cases hk
      subst hgf
      obtain ⟨h1, h2⟩ := cellsEq_len _ _ _ _ hr
      match xs, ys, h1, h2, hr, hx, hy with
      | [x], [y], _, _, hr, hx, hy =>
        simp only [List.length_cons, List.length_nil, Nat.zero_add]
        have hx0 := hx.h 0 (by simp)
        have hy0 := hy.h 0 (by simp)
        have hxl := hx.hl
        have hyl := hy.hl
        simp only [List.length_cons, List.length_nil] at hxl hyl
        rw [ofCells_false as o (by omega), ofCells_false bs o (by omega)]
        simp only [cellsEq] at hr
        split at hr
        · rename_i a b h3 h4
          simp only [Option.some.injEq] at h4 hr
          subst h4
          rw [Bool.and_true] at hr
          subst hr
          exact run_cellEq hk hx0 hy0 h3 m w
        · cases hr
    | none =>
      rw [hk] at h
      simp only at h
      cases hu : P.underlying t with
      | none => rw [hu] at h; cases h
      | some desc =>
        rw [hu] at h
        cases desc with
        | struct fs =>
          simp only at h
          simp only [isStruct, hu] at hg
          subst hg
          split at h
          · cases h
          · rename_i hst
            have hst : P.stoodInHeld t = false := by simpa using hst
            have hfo : P.fieldsOf t = fs := by simp [Program.fieldsOf, hu]
            simp only [ofCells, if_true]
            rw [run_equalIn_struct w m t _ _ (by rw [hfo]; exact hu) hst, hfo]
            have hmd : d ≤ m := by omega
            obtain ⟨hxl, hyl⟩ := cellsEq_len _ _ _ _ hr
            have hxs := hx.hl
            have hys := hy.hl
            -- the fields, one behind the other
            have gen : ∀ (l : List Field) (pre : List CK) (ks' : List CK), l.foldl (fun (acc : Option (List CK)) f => acc.bind fun ks => if f.name ≠ "_" ∧ f.offset = ks.length then (eqLay P d f.type).bind fun l => if (tyI P f.type) = some (isStruct P f.type, l.length) then some (ks ++ l) else none else none) (some pre) = some ks' →
                ∃ post, ks' = pre ++ post ∧ (ks' = ks → ∀ r2, cellsEq post (xs.drop pre.length) (ys.drop pre.length) = some r2 → (Op.eqFields m ((as.toList.drop o).take ks.length).toArray ((bs.toList.drop o).take ks.length).toArray l).run P w = .ok r2 w) := by
              intro l
              induction l with
              | nil =>
                intro pre ks' hf
                simp only [List.foldl_nil, Option.some.injEq] at hf
                refine ⟨[], by rw [hf]; simp, fun hks r2 h2 => ?_⟩
                have : r2 = true := by
                  obtain ⟨h5, h6⟩ := cellsEq_len _ _ _ _ h2
                  have e1 := List.eq_nil_of_length_eq_zero h5
                  have e2 := List.eq_nil_of_length_eq_zero h6
                  rw [e1, e2] at h2
                  simpa [cellsEq] using h2.symm
                subst this
                rfl
              | cons f l ihl =>
                intro pre ks' hf
                simp only [List.foldl_cons, Option.bind_some] at hf
                have hnone : ∀ l : List Field, l.foldl (fun (acc : Option (List CK)) f => acc.bind fun ks => if f.name ≠ "_" ∧ f.offset = ks.length then (eqLay P d f.type).bind fun l => if (tyI P f.type) = some (isStruct P f.type, l.length) then some (ks ++ l) else none else none) none = none := by
                  intro l
                  induction l with
                  | nil => rfl
                  | cons f l ih => simpa using ih
                by_cases hc : f.name ≠ "_" ∧ f.offset = pre.length
                · rw [if_pos hc] at hf
                  cases hl : eqLay P d f.type with
                  | none => rw [hl, Option.bind_none, hnone] at hf; cases hf
                  | some fl =>
                    rw [hl, Option.bind_some] at hf
                    by_cases ht : tyI P f.type = some (isStruct P f.type, fl.length)
                    · rw [if_pos ht] at hf
                      obtain ⟨post, hp, hrest⟩ := ihl (pre ++ fl) ks' hf
                      refine ⟨fl ++ post, by rw [hp]; simp, fun hks r2 h2 => ?_⟩
                      obtain ⟨r3, r4, h3, h4, h5⟩ := cellsEq_append _ _ _ _ _ h2
                      have hpost := hrest hks r4 (by simpa [List.drop_drop] using h4)
                      have hkl : ks.length = pre.length + fl.length + post.length := by rw [← hks, hp]; simp [Nat.add_assoc]
                      have hsub : ∀ (zs : Array Value), o + ks.length ≤ zs.size → (part f.type ((zs.toList.drop o).take ks.length).toArray f.offset).run P w = .ok (ofCells (isStruct P f.type) ((zs.toList.drop (o + pre.length)).take fl.length)) w := by
                        intro zs hzs
                        have hgf : (isStruct P f.type) = false → fl.length = 1 := by
                          intro hgf
                          cases d with
                          | zero => cases hl
                          | succ d =>
                            simp only [eqLay] at hl
                            cases hk2 : kindOf P f.type with
                            | some k => rw [hk2] at hl; cases hl; rfl
                            | none =>
                              rw [hk2] at hl
                              simp only at hl
                              cases hu2 : P.underlying f.type with
                              | none => rw [hu2] at hl; cases hl
                              | some d2 =>
                                simp only [isStruct, hu2] at hgf
                                rw [hu2] at hl
                                cases d2 <;> first | cases hl | cases hgf
                        have := run_part (w := w) (tyI_spec ht) hgf ((zs.toList.drop o).take ks.length).toArray f.offset (by simp; omega)
                        rw [this, hc.2]
                        congr 2
                        simp only [List.drop_take, List.drop_drop, List.take_take]
                        congr 1
                        omega
                      simp only [Op.eqFields]
                      rw [if_pos hc.1]
                      simp only [Sem.run_bind, hsub as (by omega), hsub bs (by omega), Result.andThen_ok]
                      have hone := ih f.type fl hl _ ht rfl ((xs.drop pre.length).take fl.length) ((ys.drop pre.length).take fl.length) as bs (o + pre.length)
                        ⟨by simp; omega, fun i hi => by
                          simp at hi
                          have := hx.h (pre.length + i) (by omega)
                          simp only [List.getElem_take, List.getElem_drop]
                          simp only [Nat.add_assoc]
                          exact this⟩
                        ⟨by simp; omega, fun i hi => by
                          simp at hi
                          have := hy.h (pre.length + i) (by omega)
                          simp only [List.getElem_take, List.getElem_drop]
                          simp only [Nat.add_assoc]
                          exact this⟩ r3 h3 m hmd w
                      rw [hone]
                      simp only [Result.andThen_ok, Sem.run_ite]
                      subst h5
                      cases r3 with
                      | false => rfl
                      | true => simpa using hpost
                    · rw [if_neg ht, hnone] at hf; cases hf
                · rw [if_neg hc, hnone] at hf; cases hf
            obtain ⟨post, hp, hfin⟩ := gen fs.toList [] ks h
            simp only [List.nil_append] at hp
            subst hp
            exact hfin rfl r (by simpa using hr)
        | _ => cases h

end Go.Den
