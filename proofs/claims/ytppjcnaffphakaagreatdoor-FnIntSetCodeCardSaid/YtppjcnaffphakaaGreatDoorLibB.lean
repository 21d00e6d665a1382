/- The library: contracts of functions over denoted values (LibB). -/
import Derived.Test.YtppjcnaffphakaaGreatDoorLibA
set_option linter.unusedVariables false
set_option linter.unusedSimpArgs false
set_option linter.unusedSectionVars false
set_option linter.unnecessarySimpa false
namespace Go.Den
open Go

/-- Keys of this kind, by the type's description. -/
def ckOf : CK → TypeDesc → Bool
  | .int, .int _ => true
  | .bool, .bool => true
  | .str, .string => true
  | .flt, .float _ => true
  | _, _ => false

theorem bytes_beq' (a b : ByteArray) : (a == b) = decide (a = b) := by
  by_cases h : a = b
  · rw [decide_eq_true h]; exact (MapKept.bytes_beq a b).2 h
  · rw [decide_eq_false h]
    cases hq : (a == b) with
    | false => rfl
    | true => exact absurd ((MapKept.bytes_beq a b).1 hq) h
theorem keyEq_same {ck : CK} {d : TypeDesc} (hd : ckOf ck d = true) {a b : Value} {r : Bool} (h : keyEq ck a b = some r) : Instr.sameNow d a b = some r := by
  cases ck <;> cases d <;> simp [ckOf] at hd <;> cases a <;> simp [keyEq] at h <;> cases b <;> simp [keyEq] at h <;> simp [Instr.sameNow, h, bytes_beq']
theorem keyEq_true {ck : CK} {a b : Value} (h : keyEq ck a b = some true) : a = b := by
  cases ck <;> cases a <;> simp [keyEq] at h <;> cases b <;> simp [keyEq] at h <;> simp_all
theorem keyEq_left {ck : CK} {d : TypeDesc} (hd : ckOf ck d = true) {a b : Value} {r : Bool} (h : keyEq ck a b = some r) : True := trivial

theorem mfind_now {ck : CK} {d : TypeDesc} (hd : ckOf ck d = true) {kv : Value} : ∀ (es : List (Value × DV)) (res : List MapEntry) (i : Nat) (r : Option Nat), es.length = res.length → (∀ j (hj : j < es.length) (hj' : j < res.length), es[j].1 = res[j].key) → mfind ck kv es i = some r →
    (r = none ∧ Instr.findNow d kv res i = some none) ∨ ∃ j x, r = some (i + j) ∧ res[j]? = some x ∧ keyEq ck kv x.key = some true ∧ Instr.findNow d kv res i = some (some (i + j, x.val))
  | [], [], i, r, _, _, h => by simp [mfind] at h; exact .inl ⟨h.symm, rfl⟩
  | e :: es, x :: res, i, r, hl, hk, h => by
    have hk0 : e.1 = x.key := hk 0 (by simp) (by simp)
    rw [mfind, hk0] at h
    split at h
    · rename_i hq
      simp only [Option.some.injEq] at h
      exact .inr ⟨0, x, by simp [h], rfl, hq, by simp [Instr.findNow, keyEq_same hd hq]⟩
    · rename_i hq
      rcases mfind_now hd es res (i + 1) r (by simpa using hl) (fun j hj hj' => hk (j + 1) (by simpa using hj) (by simpa using hj')) h with ⟨h1, h2⟩ | ⟨j, y, h1, h2, h3, h4⟩
      · exact .inl ⟨h1, by simp [Instr.findNow, keyEq_same hd hq, h2]⟩
      · exact .inr ⟨j + 1, y, by rw [h1]; congr 1; omega, by simpa using h2, h3, by rw [Instr.findNow, keyEq_same hd hq]; simp only [h4]; congr 3; omega⟩
    · cases h
  | [], _ :: _, _, _, hl, _, _ => by simp at hl
  | _ :: _, [], _, _, hl, _, _ => by simp at hl

section
variable {P : Program} {e : Env} {w : World} {K : DV → List Blk → Prop}

theorem run_check {kt : TypeId} {d : TypeDesc} {ck : CK} (hd : P.underlying kt = some d) (hc : ckOf ck d = true) (em : Bool) (n : Nat) (k : Value) : (Instr.checkKey em (n + 1) kt k).run P w = .ok () w := by
  unfold Instr.checkKey
  simp only [Sem.run_bind, run_underlying hd, Result.andThen]
  cases ck <;> cases d <;> simp [ckOf] at hc <;> cases k <;> rfl

theorem sameBits_key {ck : CK} {a b : Value} (h : keyEq ck a b = some true) (n : Nat) : Instr.sameBits n b a = true := by
  have := keyEq_true h
  subst this
  cases ck <;> cases a <;> simp [keyEq] at h <;> cases n <;> simp [Instr.sameBits, bytes_beq']


theorem y_look {mt kt et : TypeId} {d : TypeDesc} {ck : CK} {ok : Bool} {z : Value} {zd : DV} (hu : P.underlying mt = some (.map kt et)) (hd : P.underlying kt = some d) (hc : ckOf ck d = true)
    (hz : ∃ i, P.info? et = some i ∧ i.zero = some z) (hzd : ∀ e, VR e zd z) {b : Nat} {es : List (Value × DV)} {kv v : Value} (hv : VR e (.mp b) v) (hb : e.h[b]? = some (.map es)) {r : Option Nat} (hf : mfind ck kv es 0 = some r) (hH : e.H = w.heap) (hr : HR e)
    (hk : match (generalizing := false) r with | some i => K (mres ok (es.getD i default).2 true) e.h | none => K (mres ok zd false) e.h) :
    Yields P (do pure (.value (← Instr.lookup mt v kv ok))) w (After e w K) := by
  have hkey : e.key b = some .m := by simp [Env.key, hb, Blk.key]
  obtain ⟨q, hq, rfl⟩ := vr_mp hv hkey
  have hB := hr.blk b _ hb
  obtain ⟨iz, hz1, hz2⟩ := hz
  cases hB with
  | map q' res clock hq' hHq hl hk1 hv1 hb1 hd1 =>
    rw [hq] at hq'
    cases hq'
    rw [hH] at hHq
    have mk : ∀ {x : DV} {y : Value} {o : Bool}, VR e x y → VR e (mres ok x o) (if ok = true then .tuple #[y, .bool o] else y) := by
      intro x y o hxy
      unfold mres
      cases ok
      · simpa using hxy
      · simp only [if_true]
        refine .tup rfl fun i hi hi' => ?_
        have : i = 0 ∨ i = 1 := by simp at hi; omega
        rcases this with rfl | rfl
        · exact hxy
        · exact .p rfl
    rcases mfind_now hc es res.toList 0 r (by simpa using hl) (fun j hj hj' => by simpa using hk1 j hj (by simpa using hj')) hf with ⟨h1, h2⟩ | ⟨j, x, h1, h2, h3, h4⟩
    · subst h1
      have hrun : (Instr.lookup mt (.map (some q.1)) kv ok).run P w = .ok (if ok = true then .tuple #[z, .bool false] else z) w := by
        simp [Instr.lookup, run_underlying hu, MapKept.run_getObj_map hHq, run_check hd hc, MapKept.run_findKey hd h2, zeroValue, typeInfo, hz1, hz2]
      unfold Yields
      simp only [Sem.run_bind, hrun, Result.andThen_ok, Sem.run_pure]
      exact ⟨e, _, hH, WS.refl w, hr, Ev.refl e, mk (hzd e), hk⟩
    · subst h1
      have hj : j < res.size := by
        have := (List.getElem?_eq_some_iff.1 h2).1
        simpa using this
      have hxj : x = res[j] := by
        have := (List.getElem?_eq_some_iff.1 h2).2
        rw [← this]; simp
      have hrun : (Instr.lookup mt (.map (some q.1)) kv ok).run P w = .ok (if ok = true then .tuple #[x.val, .bool true] else x.val) w := by
        simp [Instr.lookup, run_underlying hu, MapKept.run_getObj_map hHq, run_check hd hc, MapKept.run_findKey hd h4]
      unfold Yields
      simp only [Sem.run_bind, hrun, Result.andThen_ok, Sem.run_pure]
      have hje : j < es.length := by rw [hl]; exact hj
      simp only [Nat.zero_add] at hk
      rw [show es.getD j default = es[j] by simp [List.getD, hje]] at hk
      refine ⟨e, _, hH, WS.refl w, hr, Ev.refl e, mk (x := es[j].2) ?_, hk⟩
      rw [hxj]
      exact hv1 j hje hj

theorem kdist_get {ck : CK} : ∀ {ks : List Value}, kdist ck ks = true → ∀ i j (hi : i < ks.length) (hj : j < ks.length), i < j → keyEq ck ks[i] ks[j] = some false
  | [], _, i, j, hi, _, _ => absurd hi (by simp)
  | k :: ks, h, i, j, hi, hj, hij => by
    simp only [kdist, Bool.and_eq_true] at h
    cases j with
    | zero => omega
    | succ j =>
      simp only [List.length_cons] at hi hj
      cases i with
      | zero =>
        have := List.all_eq_true.1 h.1 _ (List.getElem_mem (show j < ks.length by omega))
        simpa using this
      | succ i => simpa using kdist_get h.2 i j (by omega) (by omega) (by omega)
theorem mfind_some {ck : CK} {kv : Value} : ∀ (es : List (Value × DV)) (i : Nat) (r : Nat), mfind ck kv es i = some (some r) → ∃ j, ∃ hj : j < es.length, r = i + j ∧ keyEq ck kv es[j].1 = some true
  | [], i, r, h => by simp [mfind] at h
  | e :: es, i, r, h => by
    rw [mfind] at h
    split at h
    · rename_i hq
      simp only [Option.some.injEq] at h
      exact ⟨0, by simp, h.symm, hq⟩
    · obtain ⟨j, hj, h1, h2⟩ := mfind_some es (i + 1) r h
      exact ⟨j + 1, by simpa using hj, by omega, by simpa using h2⟩
    · cases h
theorem mfind_none {ck : CK} {kv : Value} : ∀ (es : List (Value × DV)) (i : Nat), mfind ck kv es i = some none → ∀ j (hj : j < es.length), keyEq ck kv es[j].1 = some false
  | [], i, h, j, hj => absurd hj (by simp)
  | e :: es, i, h, j, hj => by
    rw [mfind] at h
    split at h
    · simp at h
    · rename_i hq
      cases j with
      | zero => exact hq
      | succ j => simpa using mfind_none es (i + 1) h j (by simpa using hj)
    · cases h
theorem mfind_dec {ck : CK} {kv : Value} : ∀ (es : List (Value × DV)) (i : Nat), (∀ j (hj : j < es.length), (keyEq ck kv es[j].1).isSome = true) → ∃ r, mfind ck kv es i = some r
  | [], i, h => ⟨none, rfl⟩
  | e :: es, i, h => by
    rw [mfind]
    have h0 := h 0 (by simp)
    simp only [List.getElem_cons_zero] at h0
    cases hq : keyEq ck kv e.1 with
    | none => rw [hq] at h0; cases h0
    | some b =>
      cases b with
      | true => exact ⟨_, rfl⟩
      | false => exact mfind_dec es (i + 1) fun j hj => h (j + 1) (Nat.succ_lt_succ hj)
/-- A key is found among the same entries in another order. -/
theorem mfind_perm {ck : CK} {kv : Value} {ks : List Value} {ds : List DV} {es : List (Value × DV)} (hp : es.Perm (ks.zip ds)) (hkl : ks.length = ds.length) (hd : kdist ck ks = true) (hdec : kdec ck kv ks = true) {r : Option Nat} (hf : mfind ck kv (ks.zip ds) 0 = some r) :
    ∃ r', mfind ck kv es 0 = some r' ∧ ((r = none ∧ r' = none) ∨ ∃ i i', r = some i ∧ r' = some i' ∧ es.getD i' default = (ks.zip ds).getD i default) := by
  have hz : ∀ j (hj : j < es.length), ∃ i, ∃ hi : i < (ks.zip ds).length, es[j] = (ks.zip ds)[i] := fun j hj => by
    obtain ⟨i, hi, he⟩ := List.getElem_of_mem (hp.mem_iff.1 (List.getElem_mem hj))
    exact ⟨i, hi, he.symm⟩
  have hz' : ∀ i (hi : i < (ks.zip ds).length), ∃ j, ∃ hj : j < es.length, es[j] = (ks.zip ds)[i] := fun i hi => by
    obtain ⟨j, hj, he⟩ := List.getElem_of_mem (hp.mem_iff.2 (List.getElem_mem hi))
    exact ⟨j, hj, he⟩
  have hk : ∀ i (hi : i < (ks.zip ds).length), ∃ hi' : i < ks.length, ((ks.zip ds)[i]).1 = ks[i] := fun i hi => ⟨by simp at hi; omega, by simp⟩
  obtain ⟨r', hr'⟩ := mfind_dec (ck := ck) (kv := kv) es 0 fun j hj => by
    obtain ⟨i, hi, he⟩ := hz j hj
    obtain ⟨hi', h1⟩ := hk i hi
    rw [he, h1]
    exact List.all_eq_true.1 hdec _ (List.getElem_mem hi')
  refine ⟨r', hr', ?_⟩
  cases r with
  | none =>
    left
    refine ⟨rfl, ?_⟩
    cases r' with
    | none => rfl
    | some i' =>
      obtain ⟨j, hj, _, h2⟩ := mfind_some es 0 i' hr'
      obtain ⟨i, hi, he⟩ := hz j hj
      have := mfind_none _ 0 hf i hi
      rw [← he, h2] at this
      cases this
  | some i =>
    right
    obtain ⟨i0, hi0, h1, h2⟩ := mfind_some _ 0 i hf
    simp only [Nat.zero_add] at h1
    subst h1
    cases r' with
    | none =>
      obtain ⟨j, hj, he⟩ := hz' i hi0
      have := mfind_none es 0 hr' j hj
      rw [he, h2] at this
      cases this
    | some i' =>
      obtain ⟨j, hj, h3, h4⟩ := mfind_some es 0 i' hr'
      simp only [Nat.zero_add] at h3
      subst h3
      refine ⟨i, i', rfl, rfl, ?_⟩
      obtain ⟨i2, hi2, he⟩ := hz i' hj
      obtain ⟨q1, e1⟩ := hk i hi0
      obtain ⟨q2, e2⟩ := hk i2 hi2
      have hsame : ks[i] = ks[i2] := by
        rw [e1] at h2
        rw [he, e2] at h4
        rw [← keyEq_true h2, ← keyEq_true h4]
      have hself : keyEq ck ks[i] ks[i2] = some true := by
        rw [← hsame]
        rw [e1] at h2
        have := keyEq_true h2
        rw [← this]
        rw [← this] at h2
        exact h2
      have : i = i2 := by
        rcases Nat.lt_trichotomy i i2 with h | h | h
        · rw [kdist_get hd i i2 q1 q2 h] at hself; cases hself
        · exact h
        · have h9 := kdist_get hd i2 i q2 q1 h
          rw [hsame] at h9 hself
          rw [hself] at h9; cases h9
      subst this
      rw [show es.getD i' default = es[i'] by simp [List.getD, hj], show (ks.zip ds).getD i default = (ks.zip ds)[i] by simp only [List.getD, List.getElem?_eq_getElem hi0, Option.getD_some], he]
theorem y_lookf {mt kt et : TypeId} {d : TypeDesc} {ck : CK} {ok : Bool} {z : Value} {zd : DV} (hu : P.underlying mt = some (.map kt et)) (hd : P.underlying kt = some d) (hc : ckOf ck d = true)
    (hz : ∃ i, P.info? et = some i ∧ i.zero = some z) (hzd : ∀ e, VR e zd z) {ks : List Value} {ds : List DV} {kv v : Value} (hv : VR e (.fm ks ds) v) (hkd : kdist ck ks = true) (hdec : kdec ck kv ks = true) {r : Option Nat} (hf : mfind ck kv (ks.zip ds) 0 = some r) (hH : e.H = w.heap) (hr : HR e)
    (hk : match (generalizing := false) r with | some i => K (mres ok ((ks.zip ds).getD i default).2 true) e.h | none => K (mres ok zd false) e.h) :
    Yields P (do pure (.value (← Instr.lookup mt v kv ok))) w (After e w K) := by
  obtain ⟨iz, hz1, hz2⟩ := hz
  cases hv with
  | fm es res clock hro hHq hp hkl hl hk1 hv1 =>
    rename_i q
    rw [hH] at hHq
    obtain ⟨r', hf', hrr⟩ := mfind_perm hp hkl hkd hdec hf
    have mk : ∀ {x : DV} {y : Value} {o : Bool}, VR e x y → VR e (mres ok x o) (if ok = true then .tuple #[y, .bool o] else y) := by
      intro x y o hxy
      unfold mres
      cases ok
      · simpa using hxy
      · simp only [if_true]
        refine .tup rfl fun i hi hi' => ?_
        have : i = 0 ∨ i = 1 := by simp at hi; omega
        rcases this with rfl | rfl
        · exact hxy
        · exact .p rfl
    rcases mfind_now hc es res.toList 0 r' (by simpa using hl) (fun j hj hj' => by simpa using hk1 j hj (by simpa using hj')) hf' with ⟨h1, h2⟩ | ⟨j, x, h1, h2, h3, h4⟩
    · subst h1
      rcases hrr with ⟨rfl, _⟩ | ⟨_, _, _, h9, _⟩
      · have hrun : (Instr.lookup mt (.map (some q)) kv ok).run P w = .ok (if ok = true then .tuple #[z, .bool false] else z) w := by
          simp [Instr.lookup, run_underlying hu, MapKept.run_getObj_map hHq, run_check hd hc, MapKept.run_findKey hd h2, zeroValue, typeInfo, hz1, hz2]
        unfold Yields
        simp only [Sem.run_bind, hrun, Result.andThen_ok, Sem.run_pure]
        exact ⟨e, _, hH, WS.refl w, hr, Ev.refl e, mk (hzd e), hk⟩
      · cases h9
    · subst h1
      rcases hrr with ⟨_, h9⟩ | ⟨i, i', rfl, h9, hee⟩
      · cases h9
      cases h9
      have hj : j < res.size := by
        have := (List.getElem?_eq_some_iff.1 h2).1
        simpa using this
      have hxj : x = res[j] := by
        have := (List.getElem?_eq_some_iff.1 h2).2
        rw [← this]; simp
      have hrun : (Instr.lookup mt (.map (some q)) kv ok).run P w = .ok (if ok = true then .tuple #[x.val, .bool true] else x.val) w := by
        simp [Instr.lookup, run_underlying hu, MapKept.run_getObj_map hHq, run_check hd hc, MapKept.run_findKey hd h4]
      unfold Yields
      simp only [Sem.run_bind, hrun, Result.andThen_ok, Sem.run_pure]
      have hje : j < es.length := by rw [hl]; exact hj
      simp only at hk
      rw [← hee] at hk
      simp only [Nat.zero_add] at hk
      rw [show es.getD j default = es[j] by simp [List.getD, hje]] at hk
      refine ⟨e, _, hH, WS.refl w, hr, Ev.refl e, mk (x := es[j].2) ?_, hk⟩
      rw [hxj]
      exact hv1 j hje hj

theorem y_look0 {mt kt et : TypeId} {d : TypeDesc} {ck : CK} {ok : Bool} {z : Value} {zd : DV} (hu : P.underlying mt = some (.map kt et)) (hd : P.underlying kt = some d) (hc : ckOf ck d = true)
    (hz : ∃ i, P.info? et = some i ∧ i.zero = some z) (hzd : ∀ e, VR e zd z) {kv : Value} (hH : e.H = w.heap) (hr : HR e) (hk : K (mres ok zd false) e.h) :
    Yields P (do pure (.value (← Instr.lookup mt (.map none) kv ok))) w (After e w K) := by
  obtain ⟨iz, hz1, hz2⟩ := hz
  have h2 : Instr.findNow d kv [] 0 = some none := rfl
  have hrun : (Instr.lookup mt (.map none) kv ok).run P w = .ok (if ok = true then .tuple #[z, .bool false] else z) w := by
    simp [Instr.lookup, run_underlying hu, run_check hd hc, MapKept.run_findKey hd h2, zeroValue, typeInfo, hz1, hz2]
  unfold Yields
  simp only [Sem.run_bind, hrun, Result.andThen_ok, Sem.run_pure]
  refine ⟨e, _, hH, WS.refl w, hr, Ev.refl e, ?_, hk⟩
  unfold mres
  cases ok
  · simpa using hzd e
  · simp only [if_true]
    refine .tup rfl fun i hi hi' => ?_
    have : i = 0 ∨ i = 1 := by simp at hi; omega
    rcases this with rfl | rfl
    · exact hzd e
    · exact .p rfl


theorem y_mupd {mt kt et : TypeId} {d : TypeDesc} {ck : CK} (hu : P.underlying mt = some (.map kt et)) (hd : P.underlying kt = some d) (hc : ckOf ck d = true)
    {b : Nat} {es : List (Value × DV)} {kv v xv : Value} {xd : DV} (hv : VR e (.mp b) v) (hx : VR e xd xv) (hb : e.h[b]? = some (.map es)) {r : Option Nat} (hf : mfind ck kv es 0 = some r) (hni : noIter e.h b) (hH : e.H = w.heap) (hr : HR e)
    (hk : K .any (e.h.set b (.map (mput es kv xd r)))) :
    Yields P (do Instr.mapUpdate mt v kv xv; pure .skip) w (After e w K) := by
  have hkey : e.key b = some .m := by simp [Env.key, hb, Blk.key]
  obtain ⟨q, hq, rfl⟩ := vr_mp hv hkey
  have hB := hr.blk b _ hb
  cases hB with
  | map q' res clock hq' hHq hl hk1 hv1 hb1 hd1 =>
    rw [hq] at hq'
    cases hq'
    rw [hH] at hHq
    rcases mfind_now hc es res.toList 0 r (by simpa using hl) (fun j hj hj' => by simpa using hk1 j hj (by simpa using hj')) hf with ⟨h1, h2⟩ | ⟨j, x, h1, h2, h3, h4⟩
    · subst h1
      have hrun : (Instr.mapUpdate mt (.map (some q.1)) kv xv).run P w = .ok () { w with heap := w.heap.setIfInBounds q.1 (.map (res.push { key := kv, val := xv, born := clock }) (clock + 1)) } := by
        simp [Instr.mapUpdate, run_underlying hu, MapKept.run_getObj_map hHq, run_check hd hc, MapKept.run_findKey hd h2, MapKept.run_setObj_map _ hHq]
      obtain ⟨e', g1, g2, g3, g4, g5⟩ := env_put (w := w) (blk' := .map (es ++ [(kv, xd)])) (o := .map (res.push { key := kv, val := xv, born := clock }) (clock + 1)) hr hH hb (k := .m) rfl rfl hq (fun _ => hni) (fun e' a1 a2 a3 a4 => by
        refine .map q (res.push { key := kv, val := xv, born := clock }) (clock + 1) a2 (by rw [a3]; simp [lt_of_some hHq]) (by simp [hl]) (fun i hi hi' => ?_) (fun i hi hi' => ?_) (fun i hi => ?_) (fun i i' hi hi' hbb => ?_)
        · rcases Nat.lt_or_ge i res.size with h | h
          · rw [Array.getElem_push_lt h, List.getElem_append_left (by omega)]
            exact hk1 i (by omega) h
          · have : i = res.size := by simp at hi'; omega
            subst this
            simp [List.getElem_append_right, hl]
        · rcases Nat.lt_or_ge i res.size with h | h
          · rw [Array.getElem_push_lt h, List.getElem_append_left (by omega)]
            exact (hv1 i (by omega) h).mono a4
          · have : i = res.size := by simp at hi'; omega
            subst this
            simp only [Array.getElem_push_eq]
            have : (es ++ [(kv, xd)])[res.size] = (kv, xd) := by simp [List.getElem_append_right, hl]
            rw [this]
            exact hx.mono a4
        · rcases Nat.lt_or_ge i res.size with h | h
          · rw [Array.getElem_push_lt h]
            have := hb1 i h
            omega
          · have : i = res.size := by simp at hi; omega
            subst this
            simp
        · have hsz : i < res.size + 1 ∧ i' < res.size + 1 := by simp at hi hi'; omega
          rcases Nat.lt_or_ge i res.size with h | h <;> rcases Nat.lt_or_ge i' res.size with h' | h'
          · rw [Array.getElem_push_lt h, Array.getElem_push_lt h'] at hbb
            exact hd1 i i' h h' hbb
          · have : i' = res.size := by omega
            subst this
            rw [Array.getElem_push_lt h, Array.getElem_push_eq] at hbb
            have := hb1 i h
            simp at hbb
            omega
          · have : i = res.size := by omega
            subst this
            rw [Array.getElem_push_lt h', Array.getElem_push_eq] at hbb
            have := hb1 i' h'
            simp at hbb
            omega
          · omega)
      unfold Yields
      simp only [Sem.run_bind, hrun, Result.andThen_ok, Sem.run_pure]
      exact ⟨e', .any, g1, ⟨rfl, rfl, rfl⟩, g4, g3, .any, by rw [g2]; exact hk⟩
    · subst h1
      rw [Nat.zero_add] at hk
      have hj : j < res.size := by
        have := (List.getElem?_eq_some_iff.1 h2).1
        simpa using this
      have hxj : res[j] = x := by
        have := (List.getElem?_eq_some_iff.1 h2).2
        rw [← this]; simp
      have hkx : x.key = kv := (keyEq_true h3).symm
      have hold : (res[j]?.map (·.key)).getD kv = kv := by simp [hj, hxj, hkx]
      have hsb : Instr.sameBits 10000 kv kv = true := by
        rw [hkx] at h3
        exact sameBits_key h3 10000
      have hrun : (Instr.mapUpdate mt (.map (some q.1)) kv xv).run P w = .ok () { w with heap := w.heap.setIfInBounds q.1 (.map (res.modify j fun e => { e with key := kv, val := xv }) clock) } := by
        simp [Instr.mapUpdate, run_underlying hu, MapKept.run_getObj_map hHq, run_check hd hc, MapKept.run_findKey hd h4, MapKept.run_setObj_map _ hHq, Instr.keyThatStays, hj, hxj, hkx, hsb]
      have hje : j < es.length := by rw [hl]; exact hj
      have born : ∀ i (hi : i < (res.modify j fun e => { e with key := kv, val := xv }).size) (hi' : i < res.size), (res.modify j fun e => { e with key := kv, val := xv })[i].born = res[i].born := fun i hi hi' => by
        rw [Array.getElem_modify]
        split <;> rfl
      obtain ⟨e', g1, g2, g3, g4, g5⟩ := env_put (w := w) (blk' := .map (es.set j (kv, xd))) (o := .map (res.modify j fun e => { e with key := kv, val := xv }) clock) hr hH hb (k := .m) rfl rfl hq (fun _ => hni) (fun e' a1 a2 a3 a4 => by
        refine .map q (res.modify j fun e => { e with key := kv, val := xv }) clock a2 (by rw [a3]; simp [lt_of_some hHq]) (by simp [hl]) (fun i hi hi' => ?_) (fun i hi hi' => ?_) (fun i hi => ?_) (fun i i' hi hi' hbb => ?_)
        · have hi2 : i < res.size := by simpa using hi'
          rw [Array.getElem_modify, List.getElem_set]
          by_cases h : j = i
          · rw [if_pos h, if_pos h]
          · rw [if_neg h, if_neg h]
            exact hk1 i (by omega) hi2
        · have hi2 : i < res.size := by simpa using hi'
          rw [Array.getElem_modify, List.getElem_set]
          by_cases h : j = i
          · rw [if_pos h, if_pos h]
            exact hx.mono a4
          · rw [if_neg h, if_neg h]
            exact (hv1 i (by omega) hi2).mono a4
        · have hi2 : i < res.size := by simpa using hi
          rw [born i hi hi2]
          exact hb1 i hi2
        · have hi2 : i < res.size := by simpa using hi
          have hi2' : i' < res.size := by simpa using hi'
          rw [born i hi hi2, born i' hi' hi2'] at hbb
          exact hd1 i i' hi2 hi2' hbb)
      unfold Yields
      simp only [Sem.run_bind, hrun, Result.andThen_ok, Sem.run_pure]
      exact ⟨e', .any, g1, ⟨rfl, rfl, rfl⟩, g4, g3, .any, by rw [g2]; exact hk⟩

theorem y_mdel {mt kt et k2 : TypeId} {d : TypeDesc} {ck : CK} {ty : TypeId} (hu : P.underlying mt = some (.map kt et)) (hd : P.underlying kt = some d) (hc : ckOf ck d = true)
    {b : Nat} {es : List (Value × DV)} {kv v : Value} (hv : VR e (.mp b) v) (hb : e.h[b]? = some (.map es)) {r : Option Nat} (hf : mfind ck kv es 0 = some r) (hH : e.H = w.heap) (hr : HR e)
    (hk : match (generalizing := false) r with | some i => noIter e.h b ∧ K .any (e.h.set b (.map (es.eraseIdx i))) | none => K .any e.h) :
    Yields P (do pure (.value (← Builtin.delete_ #[mt, k2] ty #[v, kv]))) w (After e w K) := by
  have hkey : e.key b = some .m := by simp [Env.key, hb, Blk.key]
  obtain ⟨q, hq, rfl⟩ := vr_mp hv hkey
  have hB := hr.blk b _ hb
  cases hB with
  | map q' res clock hq' hHq hl hk1 hv1 hb1 hd1 =>
    rw [hq] at hq'
    cases hq'
    rw [hH] at hHq
    rcases mfind_now hc es res.toList 0 r (by simpa using hl) (fun j hj hj' => by simpa using hk1 j hj (by simpa using hj')) hf with ⟨h1, h2⟩ | ⟨j, x, h1, h2, h3, h4⟩
    · subst h1
      have hsame : w.heap.setIfInBounds q.1 (.map res clock) = w.heap := by
        refine Array.ext_getElem? fun i => ?_
        by_cases hi : q.1 = i
        · subst hi
          rw [Array.getElem?_setIfInBounds_self, if_pos (lt_of_some hHq), hHq]
        · rw [Array.getElem?_setIfInBounds_ne hi]
      have hrun : (Builtin.delete_ #[mt, k2] ty #[.map (some q.1), kv]).run P w = .ok (.tuple #[]) { w with heap := w.heap.setIfInBounds q.1 (.map res clock) } := by
        simp [Builtin.delete_, run_underlying hu, MapKept.run_getObj_map hHq, run_check hd hc, MapKept.run_findKey hd h2, MapKept.run_setObj_map _ hHq]
      rw [hsame] at hrun
      unfold Yields
      simp only [Sem.run_bind, hrun, Result.andThen_ok, Sem.run_pure]
      exact ⟨e, .any, hH, WS.refl w, hr, Ev.refl e, .any, hk⟩
    · subst h1
      rw [Nat.zero_add] at hk
      obtain ⟨hni, hk⟩ := hk
      have hj : j < res.size := by
        have := (List.getElem?_eq_some_iff.1 h2).1
        simpa using this
      have hee : res.eraseIdxIfInBounds j = res.eraseIdx j hj := by simp [Array.eraseIdxIfInBounds, hj]
      have hrun : (Builtin.delete_ #[mt, k2] ty #[.map (some q.1), kv]).run P w = .ok (.tuple #[]) { w with heap := w.heap.setIfInBounds q.1 (.map (res.eraseIdx j hj) clock) } := by
        simp [Builtin.delete_, run_underlying hu, MapKept.run_getObj_map hHq, run_check hd hc, MapKept.run_findKey hd h4, MapKept.run_setObj_map _ hHq, hee]
      have hje : j < es.length := by rw [hl]; exact hj
      have hsz : (res.eraseIdx j hj).size = res.size - 1 := by simp
      have hle : (es.eraseIdx j).length = es.length - 1 := by rw [List.length_eraseIdx, if_pos hje]
      obtain ⟨e', g1, g2, g3, g4, g5⟩ := env_put (w := w) (blk' := .map (es.eraseIdx j)) (o := .map (res.eraseIdx j hj) clock) hr hH hb (k := .m) rfl rfl hq (fun _ => hni) (fun e' a1 a2 a3 a4 => by
        refine .map q (res.eraseIdx j hj) clock a2 (by rw [a3]; simp [lt_of_some hHq]) (by rw [hle, hsz, hl]) (fun i hi hi' => ?_) (fun i hi hi' => ?_) (fun i hi => ?_) (fun i i' hi hi' hbb => ?_)
        · rw [Array.getElem_eraseIdx, List.getElem_eraseIdx]
          split
          · exact hk1 i (by omega) (by omega)
          · exact hk1 (i + 1) (by omega) (by omega)
        · rw [Array.getElem_eraseIdx, List.getElem_eraseIdx]
          split
          · exact (hv1 i (by omega) (by omega)).mono a4
          · exact (hv1 (i + 1) (by omega) (by omega)).mono a4
        · rw [Array.getElem_eraseIdx]
          split
          · exact hb1 i (by omega)
          · exact hb1 (i + 1) (by omega)
        · rw [Array.getElem_eraseIdx, Array.getElem_eraseIdx] at hbb
          split at hbb <;> split at hbb
          · exact hd1 i i' (by omega) (by omega) hbb
          · have := hd1 i (i' + 1) (by omega) (by omega) hbb; omega
          · have := hd1 (i + 1) i' (by omega) (by omega) hbb; omega
          · have := hd1 (i + 1) (i' + 1) (by omega) (by omega) hbb; omega)
      unfold Yields
      simp only [Sem.run_bind, hrun, Result.andThen_ok, Sem.run_pure]
      exact ⟨e', .any, g1, ⟨rfl, rfl, rfl⟩, g4, g3, .any, by rw [g2]; exact hk⟩
theorem y_mdel0 {mt kt et k2 ty : TypeId} {d : TypeDesc} {ck : CK} (hu : P.underlying mt = some (.map kt et)) (hd : P.underlying kt = some d) (hc : ckOf ck d = true) {kv : Value} (hH : e.H = w.heap) (hr : HR e) (hk : K .any e.h) :
    Yields P (do pure (.value (← Builtin.delete_ #[mt, k2] ty #[.map none, kv]))) w (After e w K) := by
  have hrun : (Builtin.delete_ #[mt, k2] ty #[.map none, kv]).run P w = .ok (.tuple #[]) w := by
    simp [Builtin.delete_, run_underlying hu, run_check hd hc]
  unfold Yields
  simp only [Sem.run_bind, hrun, Result.andThen_ok, Sem.run_pure]
  exact ⟨e, .any, hH, WS.refl w, hr, Ev.refl e, .any, hk⟩

end
end Go.Den

namespace Go.Den
open Go

/-- A slice of a row that nobody speaks of any longer is as its elements. -/
theorem freeze {e : Env} (hr : HR e) {b i n sz : Nat} {els : List DV} {v : Value} (hb : e.h[b]? = some (.cells sz els)) (hv : VR e (.sl b i n els.length) v) (h' : List Blk)
    (hd : ∀ (c : Nat) (k : Blk), h'[c]? = some k → (e.h[c]? = some k ∧ c ≠ b) ∨ k = Blk.dead) (hw : ∀ (c : Nat) (k : Blk), h'[c]? = some k → k.wf (· < h'.length)) (hwe : ∀ d, d ∈ els → WF (· < h'.length) d) :
    let e' : Env := ⟨e.ρ, h', e.H, e.pv⟩
    HR e' ∧ EvB (· < h'.length) e e' ∧ VR e' (.fz sz ((els.drop i).take n)) v := by
  intro e'
  obtain ⟨ev, hh⟩ := env_drop hr h' (fun c k hc => (hd c k hc).imp And.left id)
  refine ⟨hh hw, ev, ?_⟩
  have hkey : e.key b = some (.c sz els.length) := Env.key_of hb
  obtain ⟨h1, h2⟩ := vr_sl hv hkey
  obtain ⟨a0, c0, hva⟩ := vr_sl_n hv
  by_cases hn : n = 0
  · subst hn
    rw [List.take_zero, hva]
    exact .fz0
  rcases h2 with ⟨h2, h3⟩ | ⟨q, a, cap, h2, h3, h4, h5, h6⟩
  · rw [hva] at h3
    simp only [Value.slice.injEq] at h3
    exact absurd h3.2.1 hn
  · subst h3
    have ha := h6 (by omega)
    subst ha
    have hB := hr.blk b _ hb
    cases hB with
    | nil h => rw [h] at h2; cases h2
    | cells q' c T fr vs hq hH hc hl hf hv1 hsz h1c hcell =>
      rw [h2] at hq
      cases hq
      have hlen : ((els.drop i).take n).length = n := by simp; omega
      have hro : RO e' q.1 := by
        refine ⟨(Array.getElem?_eq_some_iff.1 hH).1, fun c q0 hk hq0 he => ?_, fun h => hr.pvl _ h b q (by rw [hkey]; simp) h2 rfl⟩
        obtain ⟨k, hk1⟩ := Option.ne_none_iff_exists'.1 hk
        obtain ⟨x, hx1, hx2⟩ := Env.key_some hk1
        rcases hd c x hx1 with ⟨h7, h8⟩ | rfl
        · exact h8 (hr.inj c b q0 q (by rw [Env.key_of h7, hx2]; simp) (by rw [hkey]; simp) hq0 h2 he)
        · cases hx2
      have key := VR.fz (e := e') (sz := sz) (l := (els.drop i).take n) (a := ⟨q.1, i * sz, none⟩) (cap := cap) (fun j => vs (i + j)) rfl (by rw [hlen]; omega) hro
        (fun j hj => by
          rw [hlen] at hj
          have : ((els.drop i).take n)[j]'(by rw [hlen]; exact hj) = els[i + j]'(by omega) := by simp
          rw [this]
          exact (hv1 (i + j) (by omega)).gen ev (hwe _ (List.getElem_mem _)))
        (fun j hj => hsz (i + j) (by rw [hlen] at hj; omega)) (fun j hj => h1c (i + j) (by rw [hlen] at hj; omega))
        (fun j hj k hk => by
          rw [hlen] at hj
          have := hcell (i + j) (by omega) k hk
          show cellAt e.H q.1 (i * sz + j * sz + k) = _
          rw [cellAt, hH, ← this]
          congr 1
          rw [Nat.add_mul])
      rw [hlen] at key
      exact key


theorem Yields.imp {P : Program} {x : Sem Next} {w : World} {R R' : Value → World → Prop} (h : Yields P x w R) (hi : ∀ v w', R v w' → R' v w') : Yields P x w R' := by
  unfold Yields at h ⊢
  generalize x.run P w = r at h ⊢
  cases r with
  | ok n w' =>
    cases n with
    | value v => exact hi _ _ h
    | skip => exact hi _ _ h
    | enter f args => exact Calls.mono h fun en w'' ⟨v, h1, h2⟩ => ⟨v, h1, hi _ _ h2⟩
    | _ => exact h.elim
  | halt _ _ => exact h.elim

section
variable {P : Program} {e : Env} {w : World} {K : DV → List Blk → Prop}
/-- A literal slice that nobody writes: as its elements. -/
theorem y_litz {t el : TypeId} {sz : Nat} (hu : P.underlying t = some (.slice el)) (hi : ∃ i, P.info? el = some i ∧ i.size = sz ∧ i.zero.isSome = true) {n : Nat} (hn : n * sz ≤ 16777216) {ev : Opd → DV} {re : Operand → Value} (hev : ∀ x, VR e (ev (cOpd x)) (re x))
    (parts : Array (Nat × Operand)) (hp : consec 0 parts.toList = true) (hpn : parts.size = n) (hH : e.H = w.heap) (hr : HR e)
    (h : (∀ x, x ∈ parts.toList.map (fun p => cOpd p.2) → (ev x).size = sz ∧ (ev x).storable = true) ∧ K (.fz sz ((parts.toList.map (fun p => cOpd p.2)).map ev)) e.h) :
    Yields P (do pure (.value (← Instr.buildSlice t n (parts.map fun (i, x) => (i, re x))))) w (After e w K) := by
  refine (y_lit (K := fun d h1 => d = .sl e.h.length 0 n n ∧ h1 = e.h ++ [.cells sz ((parts.toList.map (fun p => cOpd p.2)).map ev)]) hu hi hn hev parts hp hpn hH hr ⟨h.1, rfl, rfl⟩).imp ?_
  rintro v w' ⟨e', d, g1, g2, g3, g4, g5, rfl, g6⟩
  have hlen : ((parts.toList.map (fun p => cOpd p.2)).map ev).length = n := by simp [hpn]
  obtain ⟨f1, f2, f3⟩ := freeze g3 (b := e.h.length) (i := 0) (n := n) (sz := sz) (els := (parts.toList.map (fun p => cOpd p.2)).map ev) (by rw [g6]; simp) (by rw [hlen]; exact g5) e.h (fun c k hc => by
      have hlt : c < e.h.length := (List.getElem?_eq_some_iff.1 hc).1
      exact .inl ⟨by rw [g6, List.getElem?_append_left hlt]; exact hc, by omega⟩) (fun b k h => (hr.blk b k h).wf) (fun d hd => by
      simp only [List.mem_map] at hd
      obtain ⟨x, ⟨p, hp1, rfl⟩, rfl⟩ := hd
      exact (hev p.2).wf)
  refine ⟨⟨e'.ρ, e.h, e'.H, e'.pv⟩, _, g1, g2, f1, g4.trans (c := ⟨e'.ρ, e.h, e'.H, e'.pv⟩) ⟨Nat.le_refl _, Nat.le_refl _, f2.ro, f2.key, f2.pv, f2.pvH⟩ (Nat.le_refl _), f3, ?_⟩
  have e1 : (((parts.toList.map (fun p => cOpd p.2)).map ev).drop 0).take n = (parts.toList.map (fun p => cOpd p.2)).map ev := by
    rw [List.drop_zero, List.take_of_length_le (by rw [hlen]; exact Nat.le_refl _)]
  rw [e1]
  exact h.2
end

end Go.Den

namespace Go.Den
open Go

section
variable {P : Program} {e : Env} {w : World} {K : DV → List Blk → Prop}

theorem y_cap {t el : TypeId} (hu : P.underlying t = some (.slice el)) (ty : TypeId) (hH : e.H = w.heap) (hr : HR e) {a : Option Addr} {n c : Nat} (hk : K (.p (.int .i64 c)) e.h) : Yields P (do pure (.value (← Builtin.cap_ #[t] ty #[.slice a n c]))) w (After e w K) := by
  have hrun : (Builtin.cap_ #[t] ty #[.slice a n c]).run P w = .ok (.int .i64 c) w := by
    simp [Builtin.cap_, run_underlying hu, goInt]
  exact y_pure (by simp [hrun]) hH hr (.p rfl) hk

theorem y_tas {xt t : TypeId} {d0 : TypeDesc} (hu : P.underlying t = some d0) (hni : (d0 matches .interface _) = false) {z : Value} (hz : ∃ i, P.info? t = some i ∧ i.zero = some z) {ok : Bool} (hH : e.H = w.heap) (hr : HR e) {d : DV} {v : Value} (hv : VR e d v)
    (h : match (generalizing := false) d with
      | .iface u x => if u = t then K (mres ok x true) e.h else ok = true ∧ K (mres ok (ofV z) false) e.h
      | .p .nilIface => ok = true ∧ K (mres ok (ofV z) false) e.h
      | _ => False) : Yields P (do pure (.value (← Instr.typeAssert v xt t ok))) w (After e w K) := by
  obtain ⟨i, hz1, hz2⟩ := hz
  have fin : ∀ (u : Value) (x : DV) (b : Bool), VR e x u → (Instr.typeAssert v xt t ok).run P w = .ok (if ok = true then .tuple #[u, .bool b] else u) w → K (mres ok x b) e.h → Yields P (do pure (.value (← Instr.typeAssert v xt t ok))) w (After e w K) := by
    intro u x b hx hrun hk
    refine y_pure (v := if ok = true then .tuple #[u, .bool b] else u) (by simp [hrun]) hH hr ?_ hk
    unfold mres
    cases ok
    · simpa using hx
    · simp only [if_true]
      refine .tup rfl fun i hi hi' => ?_
      have : i = 0 ∨ i = 1 := by simp at hi; omega
      rcases this with rfl | rfl
      · exact hx
      · exact .p rfl
  have hzv : (zeroValue t).run P w = .ok z w := by simp [zeroValue, typeInfo, hz1, hz2]
  cases d with
  | iface u x =>
    obtain ⟨vu, rfl, hx⟩ := vr_iface hv
    simp only at h
    by_cases hut : u = t
    · rw [if_pos hut] at h
      refine fin vu x true hx ?_ h
      subst hut
      simp only [Instr.typeAssert, Sem.run_bind, run_underlying hu, Result.andThen_ok]
      cases d0 <;> first | (cases hni; done) | (cases ok <;> simp)
    · rw [if_neg hut] at h
      obtain ⟨rfl, h⟩ := h
      refine fin z (ofV z) false (vr_ofV e z) ?_ h
      simp only [Instr.typeAssert, Sem.run_bind, run_underlying hu, Result.andThen_ok]
      cases d0 <;> first | (cases hni; done) | simp [hut, hzv]
  | p u =>
    obtain ⟨rfl, _⟩ := vr_p hv
    cases v with
    | nilIface =>
      obtain ⟨rfl, h⟩ := h
      refine fin z (ofV z) false (vr_ofV e z) ?_ h
      simp only [Instr.typeAssert, Sem.run_bind, run_underlying hu, Result.andThen_ok]
      cases d0 <;> first | (cases hni; done) | simp [hzv]
    | _ => exact h.elim
  | _ => exact h.elim

theorem y_tai {xt u : TypeId} {want : Array (String × TypeId)} (hu : P.underlying u = some (.interface want)) (hz : ∃ i, P.info? u = some i ∧ i.zero = some .nilIface) {ok : Bool} (hH : e.H = w.heap) (hr : HR e) {d : DV} {v : Value} (hv : VR e d v)
    (h : match (generalizing := false) d with
      | .iface t x => (match hasM P u t with
        | some b => if b = true then K (mres ok (.iface t x) true) e.h else ok = true ∧ K (mres ok (.p .nilIface) false) e.h
        | none => False)
      | .p .nilIface => ok = true ∧ K (mres ok (.p .nilIface) false) e.h
      | _ => False) : Yields P (do pure (.value (← Instr.typeAssert v xt u ok))) w (After e w K) := by
  obtain ⟨i, hz1, hz2⟩ := hz
  have fin : ∀ (y : Value) (x : DV) (b : Bool), VR e x y → (Instr.typeAssert v xt u ok).run P w = .ok (if ok = true then .tuple #[y, .bool b] else y) w → K (mres ok x b) e.h → Yields P (do pure (.value (← Instr.typeAssert v xt u ok))) w (After e w K) := by
    intro y x b hx hrun hk
    refine y_pure (v := if ok = true then .tuple #[y, .bool b] else y) (by simp [hrun]) hH hr ?_ hk
    unfold mres
    cases ok
    · simpa using hx
    · simp only [if_true]
      refine .tup rfl fun i hi hi' => ?_
      have : i = 0 ∨ i = 1 := by simp at hi; omega
      rcases this with rfl | rfl
      · exact hx
      · exact .p rfl
  have hzv : (zeroValue u).run P w = .ok .nilIface w := by simp [zeroValue, typeInfo, hz1, hz2]
  cases d with
  | iface t x =>
    obtain ⟨vu, rfl, hx⟩ := vr_iface hv
    simp only at h
    cases hm : hasM P u t with
    | none => rw [hm] at h; exact h.elim
    | some b =>
      rw [hm] at h
      simp only [hasM, hu] at hm
      cases hi : P.info? t with
      | none => rw [hi] at hm; cases hm
      | some it =>
        rw [hi] at hm
        simp only [Option.some.injEq] at hm
        have hti : (typeInfo t).run P w = .ok it w := by simp [typeInfo, hi]
        simp only at h
        cases b with
        | true =>
          simp only [if_true] at h
          refine fin (.iface t vu) (.iface t x) true (.iface hx) ?_ h
          have hn : Instr.missingMethod want it.methods = none := by simpa using hm
          simp only [Instr.typeAssert, Sem.run_bind, run_underlying hu, Result.andThen_ok, hti, hn]
          cases ok <;> simp
        | false =>
          simp only [Bool.false_eq_true, if_false] at h
          obtain ⟨rfl, h⟩ := h
          refine fin .nilIface (.p .nilIface) false (.p rfl) ?_ h
          obtain ⟨s, hs⟩ : ∃ s, Instr.missingMethod want it.methods = some s := by
            cases hq : Instr.missingMethod want it.methods with
            | none => rw [hq] at hm; cases hm
            | some s => exact ⟨s, rfl⟩
          simp only [Instr.typeAssert, Sem.run_bind, run_underlying hu, Result.andThen_ok, hti, hs]
          simp [hzv]
  | p y =>
    obtain ⟨rfl, _⟩ := vr_p hv
    cases v with
    | nilIface =>
      obtain ⟨rfl, h⟩ := h
      refine fin .nilIface (.p .nilIface) false (.p rfl) ?_ h
      simp only [Instr.typeAssert, Sem.run_bind, run_underlying hu, Result.andThen_ok]
      simp [hzv]
    | _ => exact h.elim
  | _ => exact h.elim

theorem y_mkf {f : Fn} {ds es : List DV} {vs us : Array Value} (hd : TR e ds vs) (he : TR e es us) (hH : e.H = w.heap) (hr : HR e) (hk : K (.fn f ds es) e.h) : Yields P (do pure (.value (← Instr.makeFunc f vs us))) w (After e w K) :=
  y_pure (v := .func f vs us) (by simp [Instr.makeFunc]) hH hr (.fn hd.1 hd.2 he.1 he.2) hk

theorem y_mks {t el : TypeId} {g : Bool} {sz bytes : Nat} {zero : Value} (hu : P.underlying t = some (.slice el)) (hi : ∃ i, P.info? el = some i ∧ i.size = sz ∧ i.bytes = bytes ∧ i.zero = some zero ∧ zero.cells.size = i.size) (hb : 0 < bytes) (hst : (ofV zero).storable = true)
    (hH : e.H = w.heap) (hr : HR e) {kn kc : IntKind} {l r : Int}
    (h : 0 ≤ l ∧ l ≤ r ∧ r * bytes ≤ 140737488355328 ∧
      (K (.sl e.h.length 0 l.toNat l.toNat) (e.h ++ [.cells sz (List.replicate l.toNat (ofV zero))]) ∨
        ((g = true ∨ sz = 1) ∧ K (.sa g sz e.h.length 0 0 l.toNat r.toNat 1) (e.h ++ [.cells (r.toNat * sz) [.agg (List.replicate r.toNat (ofV zero).cells).flatten]])))) :
    Yields P (do pure (.value (← Instr.makeSlice t (.int kn l) (.int kc r)))) w (After e w K) := by
  obtain ⟨i, hi1, rfl, rfl, hz, hzs⟩ := hi
  obtain ⟨h0, hlr, hrb, hk⟩ := h
  have hr0 : 0 ≤ r := by omega
  have hrle : r ≤ 140737488355328 := by
    have : r * 1 ≤ r * (i.bytes : Int) := Int.mul_le_mul_of_nonneg_left (by omega) hr0
    omega
  have hwl : IntKind.i64.wrap l = l := by simp [IntKind.wrap, IntKind.bits, IntKind.signed]; omega
  have hwr : IntKind.i64.wrap r = r := by simp [IntKind.wrap, IntKind.bits, IntKind.signed]; omega
  let C : Array Value := (Array.range (r.toNat * i.size)).map ((if r.toNat * i.size = 0 then (#[] : Array Value) else zero.cells)[· % (if r.toNat * i.size = 0 then (#[] : Array Value) else zero.cells).size]!)
  have hti : (typeInfo el).run P w = .ok i w := by simp [typeInfo, hi1]
  have hC : C.size = r.toNat * i.size := by simp [C]
  have hCg : ∀ j, j < r.toNat → ∀ k, k < i.size → C[j * i.size + k]? = zero.cells[k]? := by
    intro j hj k hk
    have hlt := mul_lt_add (m := 0) hj hk
    have hn0 : r.toNat * i.size ≠ 0 := by omega
    simp only [C, if_neg hn0]
    rw [Array.getElem?_map, Array.getElem?_range, if_pos hlt]
    simp only [Option.map_some]
    have : (j * i.size + k) % zero.cells.size = k := by rw [hzs, Nat.mul_comm, Nat.mul_add_mod, Nat.mod_eq_of_lt hk]
    rw [this]
    have hk' : k < zero.cells.size := by rw [hzs]; exact hk
    simp [hk']
  have hn48 : ∀ x : Int, 0 ≤ x → x ≤ r → (decide (x < 0) || decide ((i.bytes : Int) * x > 2 ^ 48)) = false := by
    intro x hx hxr
    have : x * i.bytes ≤ r * i.bytes := Int.mul_le_mul_of_nonneg_right hxr (by omega)
    rw [Int.mul_comm] at this
    simp only [Bool.or_eq_false_iff, decide_eq_false_iff_not]
    omega
  have hrun : (Instr.makeSlice t (.int kn l) (.int kc r)).run P w = .ok (.slice (some ⟨w.heap.size, 0, none⟩) l.toNat r.toNat) (w.alloc (.cells C el)) := by
    simp only [Instr.makeSlice, Sem.run_bind, run_underlying hu, Result.andThen_ok, asInt, asIntOf, Sem.run_pure, hti, hwl, hwr]
    have e1 := hn48 r hr0 (Int.le_refl _)
    rw [e1]
    have e2 : decide (l < 0) = false := by simp; omega
    have e3 : decide (l > r) = false := by simp; omega
    rw [e2, e3]
    simp only [Bool.or_false, Bool.false_eq_true, if_false, Sem.run_bind, Result.andThen_ok, Sem.run_pure]
    have har : (askRoom (r.toNat * i.bytes)).run P w = .ok () w := by
      unfold askRoom
      split <;> rfl
    rw [har]
    have hs : (sizeOf el).run P w = .ok i.size w := by simp [sizeOf, typeInfo, hi1]
    have hzv : (zeroValue el).run P w = .ok zero w := by simp [zeroValue, typeInfo, hi1, hz]
    simp only [Result.andThen_ok, hs]
    by_cases hn : r.toNat * i.size = 0
    · simp [hn, newRow, C]
    · simp [hn, newRow, C, hzv]
  unfold Yields
  simp only [Sem.run_bind, hrun, Result.andThen_ok, Sem.run_pure]
  have hz1 : VR e (ofV zero) zero := vr_ofV e zero
  have hzc := vr_cells hz1 hst
  rcases hk with hk | ⟨hg, hk⟩
  · obtain ⟨ev, hr', hkey, hq⟩ := env_alloc hr i.size (List.replicate l.toNat (ofV zero)) C el (0, 0) (fun _ => zero) (by rw [hC]; simp; exact Nat.mul_le_mul_right _ (by omega)) (fun k _ _ h => by simp at h)
      (fun j hj => by simpa using hz1) (fun _ _ => hzs) (fun _ _ => hz1.cells1 hst) (fun j hj k hk => hCg j (by simp at hj; omega) k hk)
    refine ⟨_, _, by rw [hH]; rfl, ⟨rfl, rfl, rfl⟩, hr', ev, ?_, hk⟩
    rw [← hH]
    simp only [List.length_replicate] at hkey
    exact vr_sl_new hkey hq (by omega) (by rw [hC]; exact Nat.le_refl _)
  · have hfl : ((List.replicate r.toNat (ofV zero).cells).flatten).length = r.toNat * i.size := by simp [hzc.1, hzs]
    have hfg : ∀ m (hm : m < ((List.replicate r.toNat (ofV zero).cells).flatten).length), ∃ k, ∃ (hk : k < (ofV zero).cells.length), k = m % i.size ∧ ((List.replicate r.toNat (ofV zero).cells).flatten)[m] = (ofV zero).cells[k] := by
      intro m hm
      have hs0 : 0 < i.size := by
        rcases Nat.eq_zero_or_pos i.size with h | h
        · rw [hfl, h] at hm; simp at hm
        · exact h
      have hcl : (ofV zero).cells.length = i.size := by rw [hzc.1, hzs]
      refine ⟨m % i.size, by rw [hcl]; exact Nat.mod_lt _ hs0, rfl, ?_⟩
      have key : ∀ (n m : Nat), m < n * i.size → ((List.replicate n (ofV zero).cells).flatten)[m]? = (ofV zero).cells[m % i.size]? := by
        intro n
        induction n with
        | zero => intro m hm; simp at hm
        | succ n ih =>
          intro m hm
          rw [List.replicate_succ, List.flatten_cons]
          by_cases hlt : m < i.size
          · rw [List.getElem?_append_left (by rw [hcl]; exact hlt), Nat.mod_eq_of_lt hlt]
          · rw [List.getElem?_append_right (by rw [hcl]; omega), hcl, ih (m - i.size) (by rw [Nat.succ_mul] at hm; omega)]
            rw [← Nat.mod_eq_sub_mod (Nat.le_of_not_lt hlt)]
      have := key r.toNat m (by rw [← hfl]; exact hm)
      rw [List.getElem?_eq_getElem hm, List.getElem?_eq_getElem (by rw [hcl]; exact Nat.mod_lt _ hs0)] at this
      exact Option.some.inj this
    have hCv : VR e (.agg (List.replicate r.toNat (ofV zero).cells).flatten) (.agg C) := by
      refine .agg (by rw [hfl, hC]) (fun m hm => ?_) (fun m hm hm' => ?_)
      · rw [hC] at hm
        obtain ⟨k, hk1, hk2, _⟩ := hfg m (by rw [hfl]; exact hm)
        have hs0 : 0 < i.size := by
          rcases Nat.eq_zero_or_pos i.size with h | h
          · rw [h] at hm; simp at hm
          · exact h
        have := hCg (m / i.size) ((Nat.div_lt_iff_lt_mul hs0).2 hm) (m % i.size) (Nat.mod_lt _ hs0)
        rw [Nat.mul_comm, Nat.div_add_mod, Array.getElem?_eq_getElem (by rw [hC]; exact hm), Array.getElem?_eq_getElem (by rw [hzs]; exact Nat.mod_lt _ hs0)] at this
        rw [Option.some.inj this]
        exact hz1.cells1 hst _ _
      · rw [hC] at hm'
        obtain ⟨k, hk1, hk2, hk3⟩ := hfg m hm
        have hs0 : 0 < i.size := by
          rcases Nat.eq_zero_or_pos i.size with h | h
          · rw [h] at hm'; simp at hm'
          · exact h
        have := hCg (m / i.size) ((Nat.div_lt_iff_lt_mul hs0).2 hm') (m % i.size) (Nat.mod_lt _ hs0)
        rw [Nat.mul_comm, Nat.div_add_mod, Array.getElem?_eq_getElem (by rw [hC]; exact hm'), Array.getElem?_eq_getElem (by rw [hzs]; exact Nat.mod_lt _ hs0)] at this
        rw [Option.some.inj this, hk3]
        subst hk2
        exact hzc.2 _ hk1 _
    obtain ⟨ev, hr', hkey, hq⟩ := env_alloc hr (r.toNat * i.size) [.agg (List.replicate r.toNat (ofV zero).cells).flatten] C el (0, 0) (fun _ => .agg C) (by simp [hC]) (fun k _ _ h => by simp at h)
      (fun j hj => by
        have : j = 0 := by simp at hj; exact hj
        subst this; exact hCv) (fun _ _ => hC) (fun _ _ => hCv.cells1 rfl) (fun j hj k hk => by
        have : j = 0 := by simp at hj; exact hj
        subst this; simp [Value.cells])
    refine ⟨_, _, by rw [hH]; rfl, ⟨rfl, rfl, rfl⟩, hr', ev, ?_, hk⟩
    rw [← hH]
    refine .sa (Env.key_lt (by rw [hkey]; simp)) (fun h => hg.resolve_left (by rw [h]; simp)) (fun sz' m hk' => ?_) ⟨_, rfl⟩
    rw [hkey] at hk'
    simp only [List.length_singleton, Option.some.injEq, Key.c.injEq] at hk'
    obtain ⟨rfl, rfl⟩ := hk'
    exact ⟨Nat.le_refl _, fun _ => ⟨by omega, _, _, hq, rfl, by omega, by omega, fun _ => by simp⟩⟩
end
end Go.Den

namespace Go.Den
open Go

/-- The first cells. -/
theorem Reads.cellsN {P : Program} {e : Env} {sz : Nat} {v : Value} {l : List DV} (h : Reads e sz v l) (w : World) (hH : e.H = w.heap) (n : Nat) (hn : n ≤ l.length) :
    ∃ (cs : List Value) (vs : Nat → Value), (Builtin.firstCells sz n v).run P w = .ok cs.toArray w ∧ cs.length = n * sz ∧ (∀ j (hj : j < n), VR e (l[j]'(by omega)) (vs j)) ∧ (∀ j, j < n → (vs j).cells.size = sz) ∧
      (∀ j, j < n → Cells1 (vs j)) ∧ (∀ j, j < n → ∀ k, k < sz → cs[j * sz + k]? = (vs j).cells[k]?) := by
  have fin : ∀ v', (Builtin.firstCells sz n v').run P w = (Builtin.firstCells sz n v).run P w → Reads e sz v' (l.take n) → _ := fun v' hv' h' => h'.cells (P := P) w hH
  have hlt : (l.take n).length = n := by simp; omega
  have fin2 : ∀ v', (Builtin.firstCells sz n v').run P w = (Builtin.firstCells sz n v).run P w → Reads e sz v' (l.take n) →
      ∃ (cs : List Value) (vs : Nat → Value), (Builtin.firstCells sz n v).run P w = .ok cs.toArray w ∧ cs.length = n * sz ∧ (∀ j (hj : j < n), VR e (l[j]'(by omega)) (vs j)) ∧ (∀ j, j < n → (vs j).cells.size = sz) ∧
      (∀ j, j < n → Cells1 (vs j)) ∧ (∀ j, j < n → ∀ k, k < sz → cs[j * sz + k]? = (vs j).cells[k]?) := by
    intro v' hv' h'
    obtain ⟨cs, vs, h1, h2, h3, h4, h5, h6⟩ := fin v' hv' h'
    rw [hlt] at h1 h2
    refine ⟨cs, vs, by rw [← hv']; exact h1, h2, fun j hj => ?_, fun j hj => h4 j (by omega), fun j hj => h5 j (by omega), fun j hj => h6 j (by omega)⟩
    have := h3 j (by omega)
    simpa using this
  cases h with
  | nil =>
    rename_i a c
    have : n = 0 := by simpa using hn
    subst this
    exact fin2 (.slice a 0 c) rfl .nil
  | str h =>
    rename_i s
    refine fin2 (.string (s.extract 0 n)) ?_ ?_
    · have : (s.extract 0 n).extract 0 n = s.extract 0 n := by
        have hh : ∀ {x y : ByteArray}, x.data.toList = y.data.toList → x = y := fun {x y} h => by cases x; cases y; simp at h; rw [h]
        apply hh
        simp [List.extract_eq_take_drop]
      simp only [Builtin.firstCells, this]
    · have : (bytesD s).take n = bytesD (s.extract 0 n) := by simp [bytesD, List.extract_eq_take_drop]
      rw [this]
      exact .str h
  | row vs hc hv hsz h1 hcell =>
    rename_i r o c
    refine fin2 (.slice (some ⟨r, o, none⟩) (l.take n).length c) rfl (.row vs (by omega) (fun j hj => ?_) (fun j hj => hsz j (by omega)) (fun j hj => h1 j (by omega)) (fun j hj => hcell j (by omega)))
    have := hv j (by omega)
    simpa using this

section
variable {P : Program} {e : Env} {w : World} {K : DV → List Blk → Prop}

theorem set_same {h : List Blk} {b : Nat} {x : Blk} (hb : h[b]? = some x) : h.set b x = h := by
  apply List.ext_getElem?
  intro j
  by_cases hj : j = b
  · subst hj; rw [List.getElem?_set_self (List.getElem?_eq_some_iff.1 hb).1, hb]
  · rw [List.getElem?_set_ne (Ne.symm hj)]

theorem y_cpy {t t2 el : TypeId} {g : Bool} {sz : Nat} (hu : P.underlying t = some (.slice el)) (ht : Ty P el g sz) (ty : TypeId) (hH : e.H = w.heap) (hr : HR e) {dx dy : DV} {vx vy : Value} (hvx : VR e dx vx) (hvy : VR e dy vy)
    (h : match (generalizing := false) elemsOf e.h sz dy, dx with
      | some _, .p (.slice none 0 0) => K (.p (.int .i64 0)) e.h
      | some ys, .sl b i n z => (match e.h[b]? with
        | some (.cells bsz els) => z = els.length ∧ bsz = sz ∧ K (.p (.int .i64 (min ys.length n : Nat))) (e.h.set b (.cells bsz (els.take i ++ ys.take n ++ els.drop (i + min ys.length n))))
        | _ => False)
      | some ys, .sa false 1 b i o n c z => (match e.h[b]? with
        | some (.cells bsz els) => (match els.getD i .any with
          | .agg l => z = els.length ∧ sz = 1 ∧ (ys.take n).all DV.one = true ∧ K (.p (.int .i64 (min ys.length n : Nat))) (e.h.set b (.cells bsz (els.set i (.agg (l.take o ++ ys.take n ++ l.drop (o + min ys.length n))))))
          | _ => False)
        | _ => False)
      | _, _ => False) : Yields P (do pure (.value (← Builtin.copy_ #[t, t2] ty #[vx, vy]))) w (After e w K) := by
  cases hel : elemsOf e.h sz dy with
  | none => rw [hel] at h; exact h.elim
  | some ys =>
    rw [hel] at h
    have hrd := elems_sound hr hvy hel
    have hlen := hrd.len (P := P) w
    have hsize : (sizeOf el).run P w = .ok sz w := ht.run_size w
    have run : ∀ (base : Option Addr) (n c m : Nat) (cs : List Value) (w' : World), m = min ys.length n → (Builtin.firstCells sz m vy).run P w = .ok cs.toArray w → (∀ a, base = some a → (storeCells a cs).run P w = .ok () w') → (base = none → w' = w) →
        (Builtin.copy_ #[t, t2] ty #[.slice base n c, vy]).run P w = .ok (.int .i64 m) w' := by
      intro base n c m cs w' hm hcs hb hn
      have : Nat.min ys.length n = m := hm.symm
      simp only [Builtin.copy_, List.getElem?_toArray, Sem.run_bind, Result.andThen_ok, List.getElem?_cons_zero, List.getElem?_cons_succ, run_underlying hu, hlen, this, hsize, hcs]
      cases base with
      | none => rw [hn rfl]; simp [goInt]
      | some a => simp [hb a rfl, goInt]
    have none0 : ∀ (base : Option Addr) (n c : Nat), min ys.length n = 0 → K (.p (.int .i64 0)) e.h → vx = .slice base n c → Yields P (do pure (.value (← Builtin.copy_ #[t, t2] ty #[vx, vy]))) w (After e w K) := by
      rintro base n c hm hk rfl
      obtain ⟨cs, vs, c1, c2, _⟩ := hrd.cellsN (P := P) w hH 0 (Nat.zero_le _)
      have hcs : cs = [] := by simpa using c2
      subst hcs
      have := run base n c 0 [] w hm.symm c1 (fun a _ => rfl) (fun _ => rfl)
      exact y_pure (by simp [this]) hH hr (.p rfl) hk
    have cells1 : ∀ (m : Nat) (cs : List Value) (vs : Nat → Value), cs.length = m * sz → (∀ j, j < m → (vs j).cells.size = sz) → (∀ j, j < m → Cells1 (vs j)) → (∀ j, j < m → ∀ k, k < sz → cs[j * sz + k]? = (vs j).cells[k]?) → ∀ y ∈ cs, y.oneCell' = true := by
      intro m cs vs r2 r4 r5 r6 y hy
      obtain ⟨j, hj, rfl⟩ := List.getElem_of_mem hy
      rw [r2] at hj
      have hs0 : 0 < sz := by
        rcases Nat.eq_zero_or_pos sz with h | h
        · subst h; simp at hj
        · exact h
      have h2 := Nat.div_add_mod j sz
      have h3 : j / sz < m := (Nat.div_lt_iff_lt_mul hs0).2 hj
      have h4 : j % sz < sz := Nat.mod_lt _ hs0
      have h5 := r6 (j / sz) h3 (j % sz) h4
      rw [Nat.mul_comm, h2] at h5
      rw [List.getElem?_eq_getElem (by rw [r2]; exact hj), Array.getElem?_eq_getElem (by rw [r4 _ h3]; exact h4)] at h5
      rw [Option.some.inj h5]
      exact r5 _ h3 _ _
    cases dx with
    | p u =>
      obtain ⟨rfl, _⟩ := vr_p hvx
      cases vx with
      | slice a n c =>
        cases a with
        | some a => exact h.elim
        | none =>
        cases n with
        | succ n => exact h.elim
        | zero =>
        cases c with
        | succ c => exact h.elim
        | zero => exact none0 none 0 0 (by simp) h rfl
      | _ => exact h.elim
    | sl b i n z =>
      simp only at h
      cases hb : e.h[b]? with
      | none => rw [hb] at h; exact h.elim
      | some blk =>
      rw [hb] at h
      cases blk with
      | cells bsz els =>
        simp only at h
        obtain ⟨rfl, rfl, hk⟩ := h
        have hkey : e.key b = some (.c bsz els.length) := Env.key_of hb
        obtain ⟨hi, hcase⟩ := vr_sl hvx hkey
        obtain ⟨m, hm⟩ : ∃ m, m = min ys.length n := ⟨_, rfl⟩
        rw [← hm] at hk
        have htk : ys.take n = ys.take m := by rw [hm]; simp [List.take_eq_take_iff]; omega
        rw [htk] at hk
        by_cases hm0 : m = 0
        · subst hm0
          obtain ⟨a, c, hv⟩ := vr_sl_n hvx
          have he : els.take i ++ ys.take 0 ++ els.drop (i + 0) = els := by simp
          rw [he, set_same hb] at hk
          exact none0 a n c hm.symm hk hv
        · rcases hcase with ⟨hq, hvn⟩ | ⟨q, a, cap, hq, hvs, hc, hC, ha⟩
          · exfalso
            obtain ⟨_, _, h2⟩ := vr_sl_n hvx
            rw [hvn] at h2
            injection h2 with _ h3
            omega
          · obtain rfl := ha (by omega)
            obtain ⟨c, T, fr, ovs, hh, hcs, hl, hf, hvs', hvsz, h1, hcell⟩ := hr.cells hb hq
            obtain ⟨cs, vs, r1, r2, r3, r4, r5, r6⟩ := hrd.cellsN (P := P) w hH m (by omega)
            have hle : (i + m) * bsz ≤ els.length * bsz := Nat.mul_le_mul_right _ (by omega)
            rw [Nat.add_mul] at hle
            obtain ⟨w', c', e1, e2, e3, e4, e5, e6⟩ := run_storeCells (P := P) q.1 T fr cs (i * bsz) 0 w c (by rw [← hH]; exact hh) (by rw [hcs, r2]; omega) (fun k _ hk => hf k (by rw [r2] at hk; omega) (.inr (by rw [r2] at hk; omega))) (cells1 m cs vs r2 r4 r5 r6)
            simp only [Nat.add_zero] at e5
            have hlen2 : (els.take i ++ ys.take m ++ els.drop (i + m)).length = els.length := by simp; omega
            obtain ⟨ev, hr'⟩ := env_set hr b (.c bsz els.length) (.c bsz els.length) hkey (.cells bsz (els.take i ++ ys.take m ++ els.drop (i + m))) (by simp only [Blk.key, hlen2]) (Key.le_refl _) (e.ρ b) (fun _ => rfl) w'.heap (by rw [e3, hH]; exact Nat.le_refl _)
              (fun r _ hne => by rw [e6 r (fun h => hne q hq h.symm), hH]) (fun q0 h => .inl ⟨q0, h, rfl⟩) (fun _ _ _ h => by rw [hkey] at h; cases h)
            have hrun := run (some ⟨q.1, i * bsz, none⟩) n cap m cs w' hm r1 (fun a h => by cases h; exact e1) (fun h => by cases h)
            unfold Yields
            rw [hvs]
            simp only [Sem.run_bind, hrun, Result.andThen_ok, Sem.run_pure]
            have htl : (ys.take m).length = m := by simp; omega
            have hget : ∀ j, (els.take i ++ ys.take m ++ els.drop (i + m))[j]? = if i ≤ j ∧ j < i + m then ys[j - i]? else els[j]? := by
              intro j
              have := put_getElem els (ys.take m) i (by rw [htl]; omega) j
              rw [htl] at this
              rw [this]
              split
              · rw [List.getElem?_take, if_pos (by omega)]
              · rfl
            refine ⟨_, .p (.int .i64 m), rfl, e2, hr' ?_, ev, .p rfl, hk⟩
            refine .cells q c' T fr (fun j => if i ≤ j ∧ j < i + m then vs (j - i) else ovs j) (by simp [upd_same, hq]) e4 (by rw [e5.size]; exact hcs) (by rw [hlen2]; exact hl) hf (fun j hj => ?_) (fun j hj => ?_) (fun j hj => ?_) (fun j hj k hkb => ?_)
            · have hg := hget j
              rw [List.getElem?_eq_getElem hj] at hg
              rw [hlen2] at hj
              by_cases hji : i ≤ j ∧ j < i + m
              · rw [if_pos hji, List.getElem?_eq_getElem (by omega)] at hg
                simp only [hji, and_self, if_true]
                rw [Option.some.inj hg]
                exact (r3 _ (by omega)).mono ev
              · rw [if_neg hji, List.getElem?_eq_getElem hj] at hg
                simp only [hji, if_false]
                rw [Option.some.inj hg]
                exact (hvs' j hj).mono ev
            · rw [hlen2] at hj
              split
              · exact r4 _ (by omega)
              · exact hvsz j hj
            · rw [hlen2] at hj
              split
              · exact r5 _ (by omega)
              · exact h1 j hj
            · rw [hlen2] at hj
              by_cases hji : i ≤ j ∧ j < i + m
              · simp only [hji, and_self, if_true]
                have hlt := mul_lt_add (m := 0) (show j - i < m by omega) hkb
                have heq : j * bsz = i * bsz + (j - i) * bsz := by rw [← Nat.add_mul]; congr 1; omega
                rw [heq, Nat.add_assoc, e5.new _ (by rw [r2]; exact hlt)]
                exact r6 _ (by omega) k hkb
              · simp only [hji, if_false]
                rw [e5.old _ ?_]
                · exact hcell j hj k hkb
                · rw [r2]
                  by_cases hji2 : j < i
                  · left
                    exact mul_lt_add (m := 0) hji2 hkb
                  · right
                    have : (i + m) * bsz ≤ j * bsz := Nat.mul_le_mul_right _ (by omega)
                    rw [Nat.add_mul] at this
                    omega
      | _ => exact h.elim
    | sa g' z' b i o n c z =>
      cases g' with
      | true => exact h.elim
      | false =>
      by_cases hz1 : z' = 1
      · subst hz1
        simp only at h
        cases hb : e.h[b]? with
        | none => rw [hb] at h; exact h.elim
        | some blk =>
        rw [hb] at h
        cases blk with
        | cells bsz els =>
          simp only at h
          split at h
          case h_2 => exact h.elim
          rename_i l hdl
          obtain ⟨rfl, rfl, hone, hk⟩ := h
          have hkey : e.key b = some (.c bsz els.length) := Env.key_of hb
          obtain ⟨hi, q, a, hq, rfl, hc, hC, ha⟩ := vr_sa hvx hkey
          obtain ⟨m, hm⟩ : ∃ m, m = min ys.length n := ⟨_, rfl⟩
          rw [← hm] at hk
          have htk : ys.take n = ys.take m := by rw [hm]; simp [List.take_eq_take_iff]; omega
          rw [htk] at hk hone
          have htl : (ys.take m).length = m := by simp; omega
          have hd : els.getD i .any = els[i] := by simp [List.getD, hi]
          rw [hd] at hdl
          have hpe : Den.put els[i] o (.agg (ys.take m)) m = .agg (l.take o ++ ys.take m ++ l.drop (o + m)) := by rw [hdl]; rfl
          rw [← hpe] at hk
          obtain ⟨cc, T, fr, ovs, hh, hcs, hl, hf, hvs', hvsz, h1, hcell⟩ := hr.cells hb hq
          by_cases hm0 : m = 0
          · subst hm0
            have he : els.set i (Den.put els[i] o (.agg (ys.take 0)) 0) = els := by
              apply List.ext_getElem
              · simp
              · intro j hj hj'
                rw [List.getElem_set]
                split
                · rename_i hij
                  subst hij
                  rw [hdl]
                  simp [Den.put, DV.cells]
                · rfl
            rw [he, set_same hb] at hk
            exact none0 (some a) n c hm.symm hk rfl
          · obtain ⟨cs, vs, r1, r2, r3, r4, r5, r6⟩ := hrd.cellsN (P := P) w hH m (by omega)
            rw [Nat.mul_one] at r2
            have hin : (i + 1) * bsz ≤ els.length * bsz := Nat.mul_le_mul_right _ hi
            rw [Nat.succ_mul] at hin
            have hC' : o + n ≤ bsz := by omega
            have hu2 : VR e (.agg (ys.take m)) (.agg cs.toArray) := by
              refine .agg (by rw [htl]; simp [r2]) (fun j hj => ?_) (fun j hj hj' => ?_)
              · simp [r2] at hj
                have := r6 j hj 0 (by omega)
                rw [Nat.mul_one, Nat.add_zero, List.getElem?_eq_getElem (by rw [r2]; exact hj), Array.getElem?_eq_getElem (by rw [r4 _ hj]; omega)] at this
                simp only [List.getElem_toArray]
                rw [Option.some.inj this]
                exact r5 _ hj _ _
              · rw [htl] at hj
                have h2 := r6 j hj 0 (by omega)
                rw [Nat.mul_one, Nat.add_zero, List.getElem?_eq_getElem (by rw [r2]; exact hj), Array.getElem?_eq_getElem (by rw [r4 _ hj]; omega)] at h2
                have h3 := r3 j hj
                have h4 : DV.one (ys[j]'(by omega)) = true := by
                  refine List.all_eq_true.1 hone _ ?_
                  rw [List.mem_take_iff_getElem]
                  exact ⟨j, by omega, rfl⟩
                have h5 : (vs j).oneCell' = true := by
                  have := h3.one
                  revert this h4 h3
                  generalize ys[j]'(by omega) = d0
                  intro h3
                  cases d0 <;> simp [DV.one]
                have h6 : (vs j).cells = #[vs j] := one_cells h5
                simp only [List.getElem_toArray, List.getElem_take]
                rw [Option.some.inj h2]
                simp only [h6]
                exact h3
            have hput : ∃ v', VR e (Den.put els[i] o (.agg (ys.take m)) m) v' ∧ v'.cells.size = (ovs i).cells.size ∧ (Cells1 (ovs i) → Cells1 v') ∧ ∀ k, v'.cells[k]? = if o ≤ k ∧ k < o + m then (Value.agg cs.toArray).cells[k - o]? else (ovs i).cells[k]? := by
              refine vr_put (hvs' i hi) hu2 rfl o m (by simpa [DV.size] using htl) ?_ (by rw [hvsz i hi]; omega)
              rw [hvsz i hi]; omega
            obtain ⟨v', p1, p2, p3, p4⟩ := hput
            · obtain rfl := ha (by omega)
              obtain ⟨w', c', e1, e2, e3, e4, e5, e6⟩ := run_storeCells (P := P) q.1 T fr cs (i * bsz + o) 0 w cc (by rw [← hH]; exact hh) (by rw [hcs, r2]; omega) (fun k _ hk => hf k (by rw [r2] at hk; omega) (.inr (by rw [r2] at hk; omega))) (cells1 m cs vs (by rw [r2]; omega) r4 r5 r6)
              simp only [Nat.add_zero] at e5
              obtain ⟨ev, hr'⟩ := env_set hr b (.c bsz els.length) (.c bsz els.length) hkey (.cells bsz (els.set i (Den.put els[i] o (.agg (ys.take m)) m))) (by simp [Blk.key]) (Key.le_refl _) (e.ρ b) (fun _ => rfl) w'.heap (by rw [e3, hH]; exact Nat.le_refl _)
                (fun r _ hne => by rw [e6 r (fun h => hne q hq h.symm), hH]) (fun q0 h => .inl ⟨q0, h, rfl⟩) (fun _ _ _ h => by rw [hkey] at h; cases h)
              have hrun := run (some ⟨q.1, i * bsz + o, none⟩) n c m cs w' hm r1 (fun a h => by cases h; exact e1) (fun h => by cases h)
              unfold Yields
              simp only [Sem.run_bind, hrun, Result.andThen_ok, Sem.run_pure]
              refine ⟨_, .p (.int .i64 m), rfl, e2, hr' ?_, ev, .p rfl, hk⟩
              refine .cells q c' T fr (fun j => if j = i then v' else ovs j) (by simp [upd_same, hq]) e4 (by rw [e5.size]; exact hcs) (by simpa using hl) hf (fun j hj => ?_) (fun j hj => ?_) (fun j hj => ?_) (fun j hj k hkb => ?_)
              · simp only [List.length_set] at hj
                rw [List.getElem_set]
                by_cases hji : j = i
                · subst hji; simp only [if_true]; exact p1.mono ev
                · rw [if_neg (Ne.symm hji)]; simp only [hji, if_false]; exact (hvs' j hj).mono ev
              · simp only [List.length_set] at hj
                by_cases hji : j = i
                · subst hji; simp only [if_true]; rw [p2]; exact hvsz j hj
                · simp only [hji, if_false]; exact hvsz j hj
              · simp only [List.length_set] at hj
                by_cases hji : j = i
                · subst hji; simp only [if_true]; exact p3 (h1 j hj)
                · simp only [hji, if_false]; exact h1 j hj
              · simp only [List.length_set] at hj
                by_cases hji : j = i
                · subst hji
                  simp only [if_true]
                  rw [p4 k]
                  by_cases hko : o ≤ k ∧ k < o + m
                  · rw [if_pos hko]
                    have := e5.new (k - o) (by rw [r2]; omega)
                    rw [show j * bsz + o + (k - o) = j * bsz + k by omega] at this
                    rw [this]
                    simp [Value.cells]
                  · rw [if_neg hko, e5.old _ (by rw [r2]; omega)]
                    exact hcell j hj k hkb
                · simp only [hji, if_false]
                  rw [e5.old _ ?_]
                  · exact hcell j hj k hkb
                  · rw [r2]
                    rcases Nat.lt_or_gt_of_ne hji with h2 | h2
                    · have := Nat.mul_le_mul_right bsz (Nat.succ_le_of_lt h2)
                      simp only [Nat.succ_mul] at this
                      omega
                    · have := Nat.mul_le_mul_right bsz (Nat.succ_le_of_lt h2)
                      simp only [Nat.succ_mul] at this
                      omega
        | _ => exact h.elim
      · exfalso
        revert h
        cases z' with
        | zero => simp
        | succ z' => cases z' with
          | zero => exact absurd rfl hz1
          | succ z' => simp
    | _ => exact h.elim

end
end Go.Den

namespace Go.Den
open Go
section
variable {P : Program} {e : Env} {w : World} {K : DV → List Blk → Prop}

theorem zeroCells_one {z : Value} (n : Nat) : (Builtin.zeroCells #[z] n).toList = List.replicate n z := by
  apply List.ext_getElem
  · simp [Builtin.zeroCells]
  · intro i h1 h2
    simp [Builtin.zeroCells, Nat.mod_one]

/-- A part of an array is filled with zeros. -/
theorem y_clr {t el : TypeId} {z : Value} (hu : P.underlying t = some (.slice el)) (hz : ∀ w : World, (zeroValue el).run P w = .ok z w) (hz1 : z.cells = #[z]) (hzo : z.oneCell' = true) (ty : TypeId) (hH : e.H = w.heap) (hr : HR e)
    {b i o n c x bsz : Nat} {v : Value} {els l : List DV} (hv : VR e (.sa false 1 b i o n c x) v) (hb : e.h[b]? = some (.cells bsz els)) (hdl : els.getD i .any = .agg l) (hx : x = els.length)
    (hk : K .any (e.h.set b (.cells bsz (els.set i (.agg (l.take o ++ List.replicate n (.p z) ++ l.drop (o + n))))))) : Yields P (do pure (.value (← Builtin.clear_ #[t] ty #[v]))) w (After e w K) := by
  subst hx
  have hkey : e.key b = some (.c bsz els.length) := Env.key_of hb
  obtain ⟨hi, q, a, hq, rfl, hc, hC, ha⟩ := vr_sa hv hkey
  have hd : els.getD i .any = els[i] := by simp [List.getD, hi]
  rw [hd] at hdl
  have hpe : Den.put els[i] o (.agg (List.replicate n (.p z))) n = .agg (l.take o ++ List.replicate n (.p z) ++ l.drop (o + n)) := by rw [hdl]; rfl
  rw [← hpe] at hk
  obtain ⟨cc, T, fr, ovs, hh, hcs, hl, hf, hvs', hvsz, h1, hcell⟩ := hr.cells hb hq
  by_cases hn0 : n = 0
  · subst hn0
    have he : els.set i (Den.put els[i] o (.agg (List.replicate 0 (.p z))) 0) = els := by
      apply List.ext_getElem
      · simp
      · intro j hj hj'
        rw [List.getElem_set]
        split
        · rename_i hij
          subst hij
          rw [hdl]
          simp [Den.put, DV.cells]
        · rfl
    rw [he, set_same hb] at hk
    refine y_pure (v := .tuple #[]) ?_ hH hr .any hk
    simp [Builtin.clear_, run_underlying hu]
  · have hin : (i + 1) * bsz ≤ els.length * bsz := Nat.mul_le_mul_right _ hi
    rw [Nat.succ_mul] at hin
    have hC' : o + n ≤ bsz := by omega
    have hu2 : VR e (.agg (List.replicate n (.p z))) (.agg (List.replicate n z).toArray) := by
      refine .agg (by simp) (fun j hj => ?_) (fun j hj hj' => ?_)
      · simpa using hzo
      · simp only [List.getElem_toArray, List.getElem_replicate]
        exact .p hzo
    have hput : ∃ v', VR e (Den.put els[i] o (.agg (List.replicate n (.p z))) n) v' ∧ v'.cells.size = (ovs i).cells.size ∧ (Cells1 (ovs i) → Cells1 v') ∧ ∀ k, v'.cells[k]? = if o ≤ k ∧ k < o + n then (Value.agg (List.replicate n z).toArray).cells[k - o]? else (ovs i).cells[k]? := by
      refine vr_put (hvs' i hi) hu2 rfl o n (by simp [DV.size]) ?_ (by rw [hvsz i hi]; omega)
      rw [hvsz i hi]; omega
    obtain ⟨v', p1, p2, p3, p4⟩ := hput
    obtain rfl := ha (by omega)
    obtain ⟨w', c', e1, e2, e3, e4, e5, e6⟩ := run_storeCells (P := P) q.1 T fr (List.replicate n z) (i * bsz + o) 0 w cc (by rw [← hH]; exact hh) (by rw [hcs]; simp; omega) (fun k _ hk => hf k (by simp at hk; omega) (.inr (by simp at hk; omega))) (fun y hy => by rw [(List.mem_replicate.1 hy).2]; exact hzo)
    simp only [Nat.add_zero] at e5
    obtain ⟨ev, hr'⟩ := env_set hr b (.c bsz els.length) (.c bsz els.length) hkey (.cells bsz (els.set i (Den.put els[i] o (.agg (List.replicate n (.p z))) n))) (by simp [Blk.key]) (Key.le_refl _) (e.ρ b) (fun _ => rfl) w'.heap (by rw [e3, hH]; exact Nat.le_refl _)
      (fun r _ hne => by rw [e6 r (fun h => hne q hq h.symm), hH]) (fun q0 h => .inl ⟨q0, h, rfl⟩) (fun _ _ _ h => by rw [hkey] at h; cases h)
    have hrun : (Builtin.clear_ #[t] ty #[.slice (some ⟨q.1, i * bsz + o, none⟩) n c]).run P w = .ok (.tuple #[]) w' := by
      obtain ⟨n', rfl⟩ : ∃ n', n = n' + 1 := ⟨n - 1, by omega⟩
      simp [Builtin.clear_, run_underlying hu, hz, hz1, zeroCells_one, e1]
    unfold Yields
    simp only [Sem.run_bind, hrun, Result.andThen_ok, Sem.run_pure]
    refine ⟨_, .any, rfl, e2, hr' ?_, ev, .any, hk⟩
    have r2 : (List.replicate n z).length = n := by simp
    refine .cells q c' T fr (fun j => if j = i then v' else ovs j) (by simp [upd_same, hq]) e4 (by rw [e5.size]; exact hcs) (by simpa using hl) hf (fun j hj => ?_) (fun j hj => ?_) (fun j hj => ?_) (fun j hj k hkb => ?_)
    · simp only [List.length_set] at hj
      rw [List.getElem_set]
      by_cases hji : j = i
      · subst hji; simp only [if_true]; exact p1.mono ev
      · rw [if_neg (Ne.symm hji)]; simp only [hji, if_false]; exact (hvs' j hj).mono ev
    · simp only [List.length_set] at hj
      by_cases hji : j = i
      · subst hji; simp only [if_true]; rw [p2]; exact hvsz j hj
      · simp only [hji, if_false]; exact hvsz j hj
    · simp only [List.length_set] at hj
      by_cases hji : j = i
      · subst hji; simp only [if_true]; exact p3 (h1 j hj)
      · simp only [hji, if_false]; exact h1 j hj
    · simp only [List.length_set] at hj
      by_cases hji : j = i
      · subst hji
        simp only [if_true]
        rw [p4 k]
        by_cases hko : o ≤ k ∧ k < o + n
        · rw [if_pos hko]
          have := e5.new (k - o) (by rw [r2]; omega)
          rw [show j * bsz + o + (k - o) = j * bsz + k by omega] at this
          rw [this]
          simp [Value.cells, List.getElem?_replicate, Array.getElem?_replicate]
        · rw [if_neg hko, e5.old _ (by rw [r2]; omega)]
          exact hcell j hj k hkb
      · simp only [hji, if_false]
        rw [e5.old _ ?_]
        · exact hcell j hj k hkb
        · rw [r2]
          rcases Nat.lt_or_gt_of_ne hji with h2 | h2
          · have := Nat.mul_le_mul_right bsz (Nat.succ_le_of_lt h2)
            simp only [Nat.succ_mul] at this
            omega
          · have := Nat.mul_le_mul_right bsz (Nat.succ_le_of_lt h2)
            simp only [Nat.succ_mul] at this
            omega
end
end Go.Den

namespace Go.Den
open Go

def isNilC : Operand → Bool
  | .const (.pointer none) | .const (.slice none 0 0) | .const (.map none) | .const .nilIface | .const .nilFunc => true
  | _ => false

/-- The same nil as the type's. -/
def nilOf : NK → Operand → Bool
  | .ptr, .const (.pointer none) | .sl, .const (.slice none 0 0) | .map, .const (.map none) | .iface, .const .nilIface | .fn, .const .nilFunc => true
  | _, _ => false

def nkOf (P : Program) (t : TypeId) : Option NK :=
  match P.underlying t with
  | some (.pointer _) => some .ptr
  | some (.slice _) => some .sl
  | some (.map _ _) => some .map
  | some (.interface _) => some .iface
  | some (.func _ _ _) => some .fn
  | _ => none

/-- A pointer to something that has a place of its own. -/
def ptrBig (P : Program) (t : TypeId) : Bool :=
  match P.underlying t with
  | some (.pointer el) => (P.info? el).any fun i => decide (i.size ≠ 0)
  | _ => false
def cEq (P : Program) (neg : Bool) (t : TypeId) (x y : Operand) : Option DO :=
  match kindOf P t with
  | some .bool => some (.eqb neg (cOpd x) (cOpd y))
  | some _ => some (.bin (if neg then .neq else .eql) (cOpd x) (cOpd y))
  | none => match nkOf P t with
    | some k => if nilOf k y then some (.eqn neg k (cOpd x)) else if nilOf k x then some (.eqn neg k (cOpd y)) else if k = .iface then some (.eqi neg (cOpd x) (cOpd y)) else if ptrBig P t = true then some (.eqp neg (cOpd x) (cOpd y)) else none
    | none => if P.eqGuardType P.depth t then none else match arrLay P t with
      | some ks => if tyI P t = some (true, ks.length) then some (.eqs neg ks (cOpd x) (cOpd y)) else none
      | none => (eqLay P 20 t).bind fun ks => if tyI P t = some (true, ks.length) ∧ isStruct P t = true then some (.eqs neg ks (cOpd x) (cOpd y)) else none

def isU8 (P : Program) (t : TypeId) : Bool := P.underlying t matches some (.int .u8)

def cConv (P : Program) (src dst : TypeId) (x : Operand) : Option DO :=
  match P.underlying src, P.underlying dst with
  | some _, some (.int k) => some (.cint k (cOpd x))
  | some .string, some (.slice el) => if isU8 P el then some (.s2b (cOpd x)) else none
  | some (.slice el), some .string => if isU8 P el then some (.b2s (cOpd x)) else none
  | some (.int _), some .string => some (.cstr (cOpd x))
  | some .string, some .string => some (.cstr (cOpd x))
  | _, _ => none

def cCall (P : Program) (c : Call) : Option DO :=
  match c.callee with
  | .builtin .len => match c.argTypes.toList, c.args.toList with
    | [t], [x] => match P.underlying t with
      | some .string => some (.lens (cOpd x))
      | some (.slice _) => some (.lenl (cOpd x))
      | some (.map _ _) => some (.lenm (cOpd x))
      | _ => none
    | _, _ => none
  | .builtin .append => match c.argTypes.toList, c.args.toList with
    | [t, t2], [x, y] => match P.underlying t, P.underlying t2 with
      | some (.slice el), some (.slice _) | some (.slice el), some .string => match P.info? el with
        | some i => match i.zero with
          | some z => if z.cells.size = i.size ∧ 0 < i.bytes ∧ (i.size = 1 → (z.cells.all fun c => c.oneCell') = true) then some (.app i.size i.bytes (cOpd x) (cOpd y)) else none
          | none => none
        | none => none
      | _, _ => none
    | _, _ => none
  | .builtin .min => match c.args.toList with
    | [x, y] => some (.mm false (cOpd x) (cOpd y))
    | _ => none
  | .builtin .max => match c.args.toList with
    | [x, y] => some (.mm true (cOpd x) (cOpd y))
    | _ => none
  | .builtin .cap => match c.argTypes.toList, c.args.toList with
    | [t], [x] => match P.underlying t with
      | some (.slice _) => some (.capl (cOpd x))
      | _ => none
    | _, _ => none
  | .builtin .copy => match c.argTypes.toList, c.args.toList with
    | [t, _], [x, y] => match P.underlying t with
      | some (.slice el) => (tyI P el).map fun g => .cpy g.2 (cOpd x) (cOpd y)
      | _ => none
    | _, _ => none
  | .builtin .delete => match c.argTypes.toList, c.args.toList with
    | [t, _], [m, k] => match P.underlying t with
      | some (.map kt _) => (kindOf P kt).map fun ck => .mdel ck (cOpd m) (cOpd k)
      | _ => none
    | _, _ => none
  | .builtin .clear => match c.argTypes.toList, c.args.toList with
    | [t], [x] => match P.underlying t with
      | some (.slice el) => match P.info? el with
        | some i => match i.zero with
          | some z => if z.oneCell' = true then some (.clr (.p z) (cOpd x)) else none
          | none => none
        | none => none
      | _ => none
    | _, _ => none
  | .value (.func f) => if cFunc P f then some (.call f (c.args.toList.map cOpd)) else none
  | .value (.tmp n) => some (.callv false (.t n) (c.args.toList.map cOpd))
  | .invoke x name => some (.inv false name (cOpd x) (c.args.toList.map cOpd))
  | _ => none

def isIfT (P : Program) (t : TypeId) : Bool := P.underlying t matches some (.interface _)

/-- AN OPERATION, MADE SMALL. -/
def cOp (P : Program) (o : Oper) : Option DO :=
  match o.op with
  | .move x | .assign x => some (.mov (cOpd x))
  | .pick c a b => some (.pick (cOpd c) (cOpd a) (cOpd b))
  | .binOp op t x y _ => match op with
    | .eql => cEq P false t x y
    | .neq => cEq P true t x y
    | op => some (.bin op (cOpd x) (cOpd y))
  | .unOp op _ x => some (.un op (cOpd x))
  | .convert src dst x => cConv P src dst x
  | .slice t x lo hi none => match P.underlying t with
    | some .string => some (.slcs (cOpd x) (lo.map cOpd) (hi.map cOpd))
    | some (.slice el) => (tyI P el).map fun g => .slcl g.2 (cOpd x) (lo.map cOpd) (hi.map cOpd)
    | some (.array n el) => (tyI P el).bind fun g => if g.1 = true ∨ g.2 = 1 then some (.slca n g.2 g.1 (cOpd x) (lo.map cOpd) (hi.map cOpd)) else none
    | some (.pointer arr) => match P.underlying arr with
      | some (.array n el) => (tyI P el).bind fun g => if g.1 = true ∨ g.2 = 1 then some (.slca n g.2 g.1 (cOpd x) (lo.map cOpd) (hi.map cOpd)) else none
      | _ => none
    | _ => none
  | .index t x i => match P.underlying t with
    | some .string => some (.idxs (cOpd x) (cOpd i))
    | some (.array n el) => (tyI P el).bind fun g => if g.1 = true ∨ g.2 = 1 then some (.idxa n g.2 g.1 (cOpd x) (cOpd i)) else none
    | _ => none
  | .field t x f => match P.underlying t with
    | some (.struct fs) => match fs[f]? with
      | some fd => (tyI P fd.type).bind fun g => if g.1 = true ∨ g.2 = 1 then some (.fld fd.offset g.2 g.1 (cOpd x)) else none
      | none => none
    | _ => none
  | .build t parts => match builtOf P t with
    | some (z, place) => if z.all Value.oneCell' = true then (parts.toList.mapM (fun p => (place p.1).map fun q => (q.1, q.2, cOpd p.2))).map fun dp => .bld (z.toList.map .p) dp else none
    | none => none
  | .buildSlice t n parts => match P.underlying t with
    | some (.slice el) => match P.info? el with
      | some i => if i.zero.isSome = true ∧ n * i.size ≤ 16777216 ∧ consec 0 parts.toList = true ∧ parts.size = n then some (.lit i.size (parts.toList.map fun p => cOpd p.2)) else none
      | none => none
    | _ => none
  | .alloc t => match P.info? t with
    | some i => match i.zero with
      | some z => if (ofV z).storable = true then some (.alloc (ofV z).size (ofV z)) else none
      | none => none
    | none => none
  | .box t x => some (.box (cOpd x))
  | .load t a => (tyI P t).bind fun g => if g.1 = true ∨ g.2 = 1 then some (.load g.1 g.2 (cOpd a)) else none
  | .store t a x => (tyI P t).map fun g => .store g.2 (cOpd a) (cOpd x)
  | .nilCheck x => some (.nilchk (if isIfT P o.type then .iface else .ptr) (cOpd x))
  | .fieldAddr t a f => match P.underlying t with
    | some (.struct fs) => match fs[f]? with
      | some fd => (tyI P fd.type).bind fun g => if (g.1 = true ∨ g.2 = 1) ∧ 0 < g.2 then some (.faddr g.1 fd.offset g.2 (cOpd a)) else none
      | none => none
    | _ => none
  | .indexAddr t x i => match P.underlying t with
    | some (.slice el) => (tyI P el).map fun g => .iaddr g.2 (cOpd x) (cOpd i)
    | some (.array n el) => (tyI P el).bind fun g => if (g.1 = true ∨ g.2 = 1) ∧ 0 < g.2 then some (.iaddra n g.2 g.1 (cOpd x) (cOpd i)) else none
    | _ => none
  | .extract t i => some (.ext (cOpd t) i)
  | .makeInterface t x => if P.concrete t then some (.ifc t (cOpd x)) else none
  | .range t x => match P.underlying t with
    | some .string => some (.rngs (cOpd x))
    | some (.map _ _) => some (.rngm (cOpd x))
    | _ => none
  | .next x s => some (if s = true then .nxts (cOpd x) else .nxtm (cOpd x))
  | .entry x => some (.ent (cOpd x))
  | .makeMap _ none => some .mkmap
  | .makeMap t (some r) => match P.underlying t with
    | some (.map _ _) => some (.mkmapr (cOpd r))
    | _ => none
  | .mapUpdate t m k x => match P.underlying t with
    | some (.map kt _) => (kindOf P kt).map fun ck => .mupd ck (cOpd m) (cOpd k) (cOpd x)
    | _ => none
  | .insert t m k x => match P.underlying t with
    | some (.map kt _) => (kindOf P kt).map fun ck => .mupd ck (cOpd m) (cOpd k) (cOpd x)
    | _ => none
  | .lookup t m k ok => match P.underlying t with
    | some (.map kt et) => match kindOf P kt, P.info? et with
      | some ck, some i => match i.zero with
        | some z => some (.look ck (ofV z) ok (cOpd m) (cOpd k))
        | none => none
      | _, _ => none
    | _ => none
  | .call c => cCall P c
  | .makeSlice t n c => match P.underlying t with
    | some (.slice el) => match P.info? el, tyI P el with
      | some i, some (g, sz) => match i.zero with
        | some z => if z.cells.size = i.size ∧ 0 < i.bytes ∧ (ofV z).storable = true ∧ sz = i.size then some (.mks g i.size i.bytes (ofV z) (cOpd n) (cOpd c)) else none
        | none => none
      | _, _ => none
    | _ => none
  | .typeAssert x _ t ok => match P.underlying t, P.info? t with
    | some (.interface _), some i => match i.zero with
      | some .nilIface => some (.tai t ok (cOpd x))
      | _ => none
    | some _, some i => match i.zero with
      | some z => some (.tas t (ofV z) ok (cOpd x))
      | none => none
    | _, _ => none
  | .makeFunc f first cap => some (.mkf f (first.toList.map cOpd) (cap.toList.map cOpd))
  | _ => none

section
variable {P : Program} {G : Nat → DV} {e : Env} {w : World} {K : DV → List Blk → Prop}

theorem g_one {g : Bool × Nat} (h : g.1 = true ∨ g.2 = 1) : g.1 = false → g.2 = 1 := fun h1 => h.resolve_left (by rw [h1]; simp)

theorem y_mov {v : Value} {d : DV} (hH : e.H = w.heap) (hr : HR e) (hv : VR e d v) (hk : K d e.h) : Yields P (pure (.value v)) w (After e w K) := y_pure rfl hH hr hv hk

theorem y_call {f : FuncId} {ty : TypeId} (hf : cFunc P f = true) (args : Array Operand) {a : Act} {t : List DV} (hg : GR e G) (ht : TR e t a.tmps) (hH : e.H = w.heap) (hr : HR e)
    (h : ∃ R, OkR P G f (((args.toList.map cOpd)).map (Opd.ev G t)) e.h R ∧ ∀ v h', R v h' → K v h') :
    Yields P (do let d ← resolve a.eval { callee := .value (.func f), args, argTypes := (#[] : Array TypeId) } ty; invoke d.target d.args) w (After e w K) := by
  obtain ⟨R, hok, hk⟩ := h
  have hc := hok e w (args.map a.eval) rfl hH hr hg (by
    have := tr_map hg ht args.toList
    simpa [← Array.toList_map] using this)
  unfold cFunc at hf
  split at hf
  · rename_i fn hfn
    simp only [Bool.and_eq_true, Bool.not_eq_true', beq_eq_false_iff_ne] at hf
    have hrun : (do let d ← resolve a.eval { callee := .value (.func f), args, argTypes := (#[] : Array TypeId) } ty; invoke d.target d.args : Sem Next).run P w = .ok (.enter f (args.map a.eval)) w := by
      simp only [resolve, Act.eval, Deferred.ofValue, invoke, callFunc, Sem.run_bind, Sem.run_pure, Result.andThen_ok, run_program, hfn]
      have h2 : fn.body.isNone = false := by simp [Option.isNone_iff_eq_none, ← Option.isSome_iff_ne_none, hf.1]
      rw [if_neg (by simpa using hf.2), if_neg (by rw [h2]; simp)]
      simp
    unfold Yields
    rw [hrun]
    exact hc.mono fun en w' ⟨v', e', v, h', h1, h2, h3, h4, h5, h6, h7, h8⟩ => ⟨v', h1, e', v, h2, h4, h5, h7, h6, by rw [h3]; exact hk v h' h8⟩
  · cases hf


theorem y_fn {f : FuncId} (hf : cFunc P f = true) {vs : Array Value} {ds : List DV} (hd : TR e ds vs) (hg : GR e G) (hH : e.H = w.heap) (hr : HR e) {x : Sem Next} (hx : x.run P w = (callFunc f vs).run P w)
    (h : ∃ R, OkR P G f ds e.h R ∧ ∀ v h', R v h' → K v h') : Yields P x w (After e w K) := by
  obtain ⟨R, hok, hk⟩ := h
  have hc := hok e w vs rfl hH hr hg hd
  unfold cFunc at hf
  split at hf
  · rename_i fn hfn
    simp only [Bool.and_eq_true, Bool.not_eq_true', beq_eq_false_iff_ne] at hf
    have hrun : (callFunc f vs).run P w = .ok (.enter f vs) w := by
      simp only [callFunc, Sem.run_bind, Sem.run_pure, Result.andThen_ok, run_program, hfn]
      have h2 : fn.body.isNone = false := by simp [Option.isNone_iff_eq_none, ← Option.isSome_iff_ne_none, hf.1]
      rw [if_neg (by simpa using hf.2), if_neg (by rw [h2]; simp)]
      simp
    unfold Yields
    rw [hx, hrun]
    exact hc.mono fun en w' ⟨v', e', v, h', h1, h2, h3, h4, h5, h6, h7, h8⟩ => ⟨v', h1, e', v, h2, h4, h5, h7, h6, by rw [h3]; exact hk v h' h8⟩
  · cases hf
theorem TR.app {a b : List DV} {x y : Array Value} (h : TR e a x) (h' : TR e b y) : TR e (a ++ b) (x ++ y) := by
  refine ⟨by simp [h.1, h'.1], fun i hi hi' => ?_⟩
  by_cases hia : i < a.length
  · rw [List.getElem_append_left hia, Array.getElem_append_left (h.1 ▸ hia)]
    exact h.2 i hia _
  · have hn : x.size ≤ i := by rw [← h.1]; omega
    rw [List.getElem_append_right (by omega), Array.getElem_append_right hn]
    have := h'.2 (i - a.length) (by simp at hi; omega) (by rw [h.1]; simp at hi'; omega)
    simpa only [h.1] using this
theorem run_method {t : TypeId} {name : String} {f : FuncId} (hm : methOf P t name = some f) (v : Value) (n : Nat) : (method (n + 1) t v name).run P w = .ok (f, v) w := by
  unfold methOf at hm
  split at hm
  · rename_i i hi
    split at hm
    · rename_i m hfd
      split at hm
      · rename_i f' pr d hpe hfn hu
        split at hm
        · rename_i hpr
          cases hm
          have hpath : m.path.toList = [] := by simpa using hpe
          simp only [method, typeInfo, Sem.run_bind, run_program, Result.andThen_ok, hi, Sem.run_pure, hfd, hpath, follow, hfn, hpe, if_true, receiverAt, run_underlying hu]
          subst hpr
          cases d <;> simp [isPtrDesc, Place.get]
        · cases hm
      · cases hm
    · cases hm
  · cases hm
end
end Go.Den

namespace Go.Den
open Go

section
variable {P : Program} {G : Nat → DV} {e : Env} {w : World} {K : DV → List Blk → Prop}

def negOp (neg : Bool) : BinOp := if neg then .neq else .eql

/-- The comparison behind its guard: what 'equal' tells. -/
theorem y_eq {t : TypeId} {neg : Bool} {x y : Operand} {a b : Value} {r : Bool} (hg : (eqGuard (negOp neg) t x y a b).run P w = .ok () w) (hb : ∀ op, (op = BinOp.eql ∨ op = BinOp.neq) → binOp op t a b = (if op = .eql then (do pure (.bool (← Op.equal t a b))) else (do pure (.bool (!(← Op.equal t a b))))))
    (hr' : (Op.equal t a b).run P w = .ok r w) (hH : e.H = w.heap) (hr : HR e) (hk : K (.p (.bool (r != neg))) e.h) :
    Yields P (do pure (.value (← (do eqGuard (negOp neg) t x y a b; binOp (negOp neg) t a b : Sem Value)))) w (After e w K) := by
  refine y_pure ?_ hH hr (.p rfl) hk
  rw [Sem.run_bind, Sem.run_bind, hg, Result.andThen_ok, hb _ (by cases neg <;> simp [negOp])]
  cases neg <;> simp [negOp, hr']

theorem equal_run (t : TypeId) (a b : Value) : Op.equal t a b = Op.equalIn (9999 + 1) t a b := rfl

theorem nil_run {k : NK} {t : TypeId} (ht : nkOf P t = some k) {d : DV} {v : Value} (hv : VR e d v) {b : Bool} (h : isNilD e.h k d = some b) {y : Operand} (hy : nilOf k y = true) (w : World) :
    ∃ n, y = .const n ∧ (∀ neg, (eqGuard (negOp neg) t (.const n) y v n).run P w = .ok () w) ∧ (∀ neg x, (eqGuard (negOp neg) t x (.const n) v n).run P w = .ok () w) ∧ (∀ neg x, (eqGuard (negOp neg) t (.const n) x n v).run P w = .ok () w) ∧
      (∀ op, (op = BinOp.eql ∨ op = BinOp.neq) → binOp op t v n = (if op = .eql then (do pure (.bool (← Op.equal t v n))) else (do pure (.bool (!(← Op.equal t v n)))))) ∧
      (∀ op, (op = BinOp.eql ∨ op = BinOp.neq) → binOp op t n v = (if op = .eql then (do pure (.bool (← Op.equal t n v))) else (do pure (.bool (!(← Op.equal t n v)))))) ∧
      (Op.equal t v n).run P w = .ok b w ∧ (Op.equal t n v).run P w = .ok b w := by
  unfold nkOf at ht
  cases k with
  | ptr =>
    have hn : y = .const (.pointer none) := by
      cases y with
      | const u => cases u <;> first | cases hy | (rename_i q; cases q <;> first | rfl | cases hy)
      | _ => cases hy
    subst hn
    have hu : ∃ el, P.underlying t = some (.pointer el) := by
      split at ht <;> first | exact ⟨_, ‹_›⟩ | cases ht
    obtain ⟨el, hu⟩ := hu
    have hva : ∃ q : Option Addr, v = .pointer q ∧ q.isNone = b := by
      cases d with
      | p u => cases u <;> first | (rename_i q; cases q <;> first | (obtain ⟨rfl, _⟩ := vr_p hv; cases h; exact ⟨none, rfl, rfl⟩) | (cases h; done)) | (cases h; done)
      | ptr b' i o x =>
        simp only [isNilD] at h
        split at h
        · rename_i bsz els hb
          split at h
          · rename_i hx
            subst hx
            cases h
            obtain ⟨_, q, _, rfl⟩ := vr_ptr hv (Env.key_of hb)
            exact ⟨_, rfl, rfl⟩
          · cases h
        · cases h
      | fp d => cases h; cases hv with | fp => exact ⟨_, rfl, rfl⟩
      | _ => cases h
    obtain ⟨q, rfl, hq⟩ := hva
    refine ⟨_, rfl, fun neg => by cases neg <;> rfl, fun neg x => by cases neg <;> rfl, fun neg x => by cases neg <;> rfl, fun op ho => by rcases ho with rfl | rfl <;> rfl, fun op ho => by rcases ho with rfl | rfl <;> rfl, ?_, ?_⟩
    · rw [equal_run]; unfold Op.equalIn; simp only [Sem.run_bind, run_underlying hu, Result.andThen_ok]
      cases q <;> subst hq <;> rfl
    · rw [equal_run]; unfold Op.equalIn; simp only [Sem.run_bind, run_underlying hu, Result.andThen_ok]
      cases q <;> subst hq <;> rfl
  | sl =>
    have hn : y = .const (.slice none 0 0) := by
      cases y with
      | const u => cases u <;> first | cases hy | (rename_i q n c; cases q <;> cases n <;> cases c <;> first | rfl | cases hy)
      | _ => cases hy
    subst hn
    have hu : ∃ el, P.underlying t = some (.slice el) := by
      split at ht <;> first | exact ⟨_, ‹_›⟩ | cases ht
    obtain ⟨el, hu⟩ := hu
    have hva : ∃ (q : Option Addr) (n c : Nat), v = .slice q n c ∧ q.isNone = b := by
      cases d with
      | p u => cases u <;> first | (rename_i q n c; cases q <;> first | (obtain ⟨rfl, _⟩ := vr_p hv; cases h; exact ⟨none, _, _, rfl, rfl⟩) | (cases h; done)) | (cases h; done)
      | sl b' i n x =>
        simp only [isNilD] at h
        split at h
        · rename_i bsz els hb
          split at h
          · rename_i hx
            obtain ⟨rfl, hn⟩ := hx
            cases h
            obtain ⟨_, hcase⟩ := vr_sl hv (Env.key_of hb)
            rcases hcase with ⟨_, h1⟩ | ⟨q, a, cap, _, h1, _⟩
            · obtain ⟨_, _, h2⟩ := vr_sl_n hv
              rw [h1] at h2
              injection h2 with _ h3
              omega
            · exact ⟨_, _, _, h1, rfl⟩
          · cases h
        · cases h
      | sa g z b' i o n c x =>
        simp only [isNilD] at h
        split at h
        · rename_i bsz els hb
          split at h
          · rename_i hx
            subst hx
            cases h
            obtain ⟨_, q, a, _, h1, _⟩ := vr_sa hv (Env.key_of hb)
            exact ⟨_, _, _, h1, rfl⟩
          · cases h
        · cases h
      | fz sz l =>
        simp only [isNilD] at h
        split at h
        · cases h
        · rename_i hl
          cases h
          cases hv with
          | fz0 => simp at hl
          | fz => exact ⟨_, _, _, rfl, rfl⟩
      | _ => cases h
    obtain ⟨q, n, c, rfl, hq⟩ := hva
    refine ⟨_, rfl, fun neg => by cases neg <;> rfl, fun neg x => by cases neg <;> rfl, fun neg x => by cases neg <;> rfl, fun op ho => by rcases ho with rfl | rfl <;> rfl, fun op ho => by rcases ho with rfl | rfl <;> rfl, ?_, ?_⟩
    · rw [equal_run]; unfold Op.equalIn; simp only [Sem.run_bind, run_underlying hu, Result.andThen_ok]
      cases q <;> subst hq <;> rfl
    · rw [equal_run]; unfold Op.equalIn; simp only [Sem.run_bind, run_underlying hu, Result.andThen_ok]
      cases q <;> subst hq <;> rfl
  | map =>
    have hn : y = .const (.map none) := by
      cases y with
      | const u => cases u <;> first | cases hy | (rename_i q; cases q <;> first | rfl | cases hy)
      | _ => cases hy
    subst hn
    have hu : ∃ k el, P.underlying t = some (.map k el) := by
      split at ht <;> first | exact ⟨_, _, ‹_›⟩ | cases ht
    obtain ⟨kt, el, hu⟩ := hu
    have hva : ∃ q : Option Nat, v = .map q ∧ q.isNone = b := by
      cases d with
      | p u => cases u <;> first | (rename_i q; cases q <;> first | (obtain ⟨rfl, _⟩ := vr_p hv; cases h; exact ⟨none, rfl, rfl⟩) | (cases h; done)) | (cases h; done)
      | mp b' =>
        simp only [isNilD] at h
        split at h
        · rename_i es hb
          cases h
          cases hv with
          | mp _ hm _ =>
            obtain ⟨q, _, rfl⟩ := hm (Env.key_of hb)
            exact ⟨_, rfl, rfl⟩
        · cases h
      | fm ks ds =>
        cases h
        cases hv
        exact ⟨_, rfl, rfl⟩
      | _ => cases h
    obtain ⟨q, rfl, hq⟩ := hva
    refine ⟨_, rfl, fun neg => by cases neg <;> rfl, fun neg x => by cases neg <;> rfl, fun neg x => by cases neg <;> rfl, fun op ho => by rcases ho with rfl | rfl <;> rfl, fun op ho => by rcases ho with rfl | rfl <;> rfl, ?_, ?_⟩
    · rw [equal_run]; unfold Op.equalIn; simp only [Sem.run_bind, run_underlying hu, Result.andThen_ok]
      cases q <;> subst hq <;> rfl
    · rw [equal_run]; unfold Op.equalIn; simp only [Sem.run_bind, run_underlying hu, Result.andThen_ok]
      cases q <;> subst hq <;> rfl
  | iface =>
    have hn : y = .const .nilIface := by
      cases y with
      | const u => cases u <;> first | rfl | cases hy
      | _ => cases hy
    subst hn
    have hu : ∃ ms, P.underlying t = some (.interface ms) := by
      split at ht <;> first | exact ⟨_, ‹_›⟩ | cases ht
    obtain ⟨ms, hu⟩ := hu
    have hva : (v = .nilIface ∧ b = true) ∨ ∃ u x, v = .iface u x ∧ b = false := by
      cases d with
      | p u => cases u <;> first | (obtain ⟨rfl, _⟩ := vr_p hv; cases h; exact .inl ⟨rfl, rfl⟩) | (cases h; done)
      | iface t d => cases h; obtain ⟨u, rfl, _⟩ := vr_iface hv; exact .inr ⟨_, _, rfl, rfl⟩
      | _ => cases h
    rcases hva with ⟨rfl, rfl⟩ | ⟨u, x, rfl, rfl⟩
    · refine ⟨_, rfl, fun neg => by cases neg <;> rfl, fun neg x => by cases neg <;> cases x <;> rfl, fun neg x => by cases neg <;> cases x <;> rfl, fun op ho => by rcases ho with rfl | rfl <;> rfl, fun op ho => by rcases ho with rfl | rfl <;> rfl, ?_, ?_⟩ <;>
        (rw [equal_run]; unfold Op.equalIn; simp only [Sem.run_bind, run_underlying hu, Result.andThen_ok]; rfl)
    · refine ⟨_, rfl, fun neg => by cases neg <;> rfl, fun neg x => by cases neg <;> rfl, fun neg x => by cases neg <;> rfl, fun op ho => by rcases ho with rfl | rfl <;> rfl, fun op ho => by rcases ho with rfl | rfl <;> rfl, ?_, ?_⟩ <;>
        (rw [equal_run]; unfold Op.equalIn; simp only [Sem.run_bind, run_underlying hu, Result.andThen_ok]; rfl)
  | fn =>
    have hn : y = .const .nilFunc := by
      cases y with
      | const u => cases u <;> first | rfl | cases hy
      | _ => cases hy
    subst hn
    have hu : ∃ ps rs va, P.underlying t = some (.func ps rs va) := by
      split at ht <;> first | exact ⟨_, _, _, ‹_›⟩ | cases ht
    obtain ⟨ps, rs, va, hu⟩ := hu
    have hva : (v = .nilFunc ∧ b = true) ∨ ∃ u x y, v = .func u x y ∧ b = false := by
      cases d with
      | p u => cases u <;> first | (obtain ⟨rfl, _⟩ := vr_p hv; cases h; exact .inl ⟨rfl, rfl⟩) | (cases h; done)
      | fn f l m => cases h; cases hv; exact .inr ⟨_, _, _, rfl, rfl⟩
      | _ => cases h
    rcases hva with ⟨rfl, rfl⟩ | ⟨u, x, y, rfl, rfl⟩ <;>
    · refine ⟨_, rfl, fun neg => by cases neg <;> rfl, fun neg x => by cases neg <;> rfl, fun neg x => by cases neg <;> rfl, fun op ho => by rcases ho with rfl | rfl <;> rfl, fun op ho => by rcases ho with rfl | rfl <;> rfl, ?_, ?_⟩ <;>
        (rw [equal_run]; unfold Op.equalIn; simp only [Sem.run_bind, run_underlying hu, Result.andThen_ok]; rfl)

end
end Go.Den

namespace Go.Den
open Go

section
variable {P : Program} {G : Nat → DV} {e : Env} {w : World} {K : DV → List Blk → Prop} {t : List DV} {a : Act}

/-- Two addresses in blocks of their own. -/
theorem run_sameAddr {P : Program} {w : World} {r r' o o' : Nat} {c c' : Array Value} {T T' : TypeId} {fr fr' : Nat × Nat} (hne : r ≠ r') (h : w.heap[r]? = some (.cells c T fr)) (h' : w.heap[r']? = some (.cells c' T' fr'))
    (hf : ∀ k, k ≤ c.size → ¬(fr.1 ≤ k ∧ k < fr.2)) (hf' : ∀ k, k ≤ c'.size → ¬(fr'.1 ≤ k ∧ k < fr'.2)) (ho : o ≤ c.size) (ho' : o' ≤ c'.size) : (sameAddr ⟨r, o, none⟩ ⟨r', o', none⟩).run P w = .ok false w := by
  have fz : ∀ k, k ≤ c.size → w.frozen? ⟨r, k, none⟩ = false := fun k hk => by
    have := hf k hk
    obtain ⟨lo, hi⟩ := fr
    simp only [World.frozen?, h, Bool.and_eq_false_iff, decide_eq_false_iff_not]
    simp only at this
    omega
  have fz' : ∀ k, k ≤ c'.size → w.frozen? ⟨r', k, none⟩ = false := fun k hk => by
    have := hf' k hk
    obtain ⟨lo, hi⟩ := fr'
    simp only [World.frozen?, h', Bool.and_eq_false_iff, decide_eq_false_iff_not]
    simp only at this
    omega
  have sh : w.shape? r = some (T, c.size) := by simp [World.shape?, h]
  have sh' : w.shape? r' = some (T', c'.size) := by simp [World.shape?, h']
  have e1 : ∀ a, (frozen a).run P w = .ok (w.frozen? a) w := fun a => rfl
  have e2 : ∀ r, (shape r).run P w = .ok (w.shape? r) w := fun r => rfl
  have e3 : (noView ⟨r, o, none⟩).run P w = .ok () w := by simp [noView, viewAt, e2, sh]
  have e4 : (noView ⟨r', o', none⟩).run P w = .ok () w := by simp [noView, viewAt, e2, sh']
  have e5 : (stringish ⟨r, o, none⟩).run P w = .ok false w := by simp [stringish, e1, e2, sh, fz o ho, fz c.size (Nat.le_refl _)]
  have e6 : (stringish ⟨r', o', none⟩).run P w = .ok false w := by simp [stringish, e1, e2, sh', fz' o' ho', fz' c'.size (Nat.le_refl _)]
  have e7 : (mayBeOne ⟨r, o, none⟩ ⟨r', o', none⟩).run P w = .ok false w := by simp [mayBeOne, e5, e6, e2, sh, sh']
  have hne' : (r == r') = false := by simpa using hne
  simp [sameAddr, hne', e1, fz o ho, e3, e4, e7]
theorem s_cEq {neg : Bool} {ty : TypeId} {x y : Operand} {d : DO} (hc : cEq P neg ty x y = some d) (hg : GR e G) (ht : TR e t a.tmps) (hH : e.H = w.heap) (hr : HR e) (h : vcO P G d (Opd.ev G t) e.h K) :
    Yields P (do pure (.value (← (do eqGuard (negOp neg) ty x y (a.eval x) (a.eval y); binOp (negOp neg) ty (a.eval x) (a.eval y) : Sem Value)))) w (After e w K) := by
  have hx := vr_ev hg ht x
  have hy := vr_ev hg ht y
  unfold cEq at hc
  split at hc
  · -- truths
    rename_i hk
    cases hc
    simp only [vcO] at h
    split at h
    · rename_i p q h1 h2
      rw [h1] at hx
      rw [h2] at hy
      obtain ⟨h3, _⟩ := vr_p hx
      obtain ⟨h4, _⟩ := vr_p hy
      have hu : P.underlying ty = some .bool := by
        unfold kindOf at hk
        split at hk <;> first | assumption | cases hk
      rw [h3, h4]
      exact y_eq (run_guard_bool w) (fun op ho => by rcases ho with rfl | rfl <;> rfl) (run_equal_bool hu p q w) hH hr h
    · exact h.elim
  · -- numbers, texts
    cases hc
    simp only [vcO] at h
    split at h
    · rename_i p q h1 h2
      rw [h1] at hx
      rw [h2] at hy
      obtain ⟨h3, _⟩ := vr_p hx
      obtain ⟨h4, _⟩ := vr_p hy
      rw [h3, h4]
      obtain ⟨v, e1, e2, e3⟩ := run_binK (P := P) (xt := ty) (x := x) (y := y) w h
      refine y_pure ?_ hH hr (.p e2) e3
      have : negOp neg = if neg = true then BinOp.neq else BinOp.eql := rfl
      rw [this, Sem.run_bind, e1]
      rfl
    · exact h.elim
  · split at hc
    · rename_i k hk
      split at hc
      · rename_i hn
        cases hc
        simp only [vcO] at h
        split at h
        · rename_i b hb
          obtain ⟨n, rfl, _, g2, _, g4, _, g6, _⟩ := nil_run hk hx hb hn w
          exact y_eq (g2 neg x) g4 g6 hH hr h
        · exact h.elim
      · split at hc
        · rename_i hn
          cases hc
          simp only [vcO] at h
          split at h
          · rename_i b hb
            obtain ⟨n, rfl, g1, g2, g3, g4, g5, g6, g7⟩ := nil_run hk hy hb hn w
            exact y_eq (g3 neg y) g5 g7 hH hr h
          · exact h.elim
        · split at hc
          · rename_i hki
            subst hki
            cases hc
            have hu : ∃ ms, P.underlying ty = some (.interface ms) := by
              unfold nkOf at hk
              split at hk <;> first | exact ⟨_, ‹_›⟩ | cases hk
            obtain ⟨ms, hu⟩ := hu
            simp only [vcO] at h
            split at h
            · rename_i t1 d1 t2 d2 h1 h2
              rw [h1] at hx
              rw [h2] at hy
              obtain ⟨u1, h3, hx9⟩ := vr_iface hx
              obtain ⟨u2, h4, hy9⟩ := vr_iface hy
              rw [h3, h4]
              have hgd : (eqGuard (negOp neg) ty x y (.iface t1 u1) (.iface t2 u2)).run P w = .ok () w := by cases neg <;> rfl
              split at h
              · rename_i heq
                subst heq
                split at h
                · rename_i ck hck
                  split at h
                  · rename_i r hrr
                    refine y_eq hgd (fun op ho => by rcases ho with rfl | rfl <;> rfl) ?_ hH hr h
                    unfold cmpOf at hck
                    split at hck
                    · rename_i hcmp
                      obtain ⟨i, hi, hic⟩ : ∃ i, P.info? t1 = some i ∧ i.comparable = true := by
                        cases hii : P.info? t1 with
                        | none => rw [hii] at hcmp; cases hcmp
                        | some i => rw [hii] at hcmp; exact ⟨i, rfl, hcmp⟩
                      rw [equal_run]
                      unfold Op.equalIn
                      simp only [Sem.run_bind, run_underlying hu, Result.andThen_ok, ne_eq, not_true_eq_false, if_false]
                      simp only [typeInfo, Sem.run_bind, run_program, Result.andThen_ok, hi, Sem.run_pure, hic, Bool.not_true, Bool.false_eq_true, if_false]
                      exact run_cellEq hck hx9 hy9 hrr 9998 w
                    · cases hck
                  · exact h.elim
                · exact h.elim
              · rename_i hne
                refine y_eq (r := false) hgd (fun op ho => by rcases ho with rfl | rfl <;> rfl) ?_ hH hr (by cases neg <;> exact h)
                rw [equal_run]
                unfold Op.equalIn
                simp only [Sem.run_bind, run_underlying hu, Result.andThen_ok, ne_eq, hne, not_false_eq_true, if_true, Sem.run_pure]
            · rename_i t2 d2 h1 h2
              rw [h1] at hx
              rw [h2] at hy
              obtain ⟨h3, _⟩ := vr_p hx
              obtain ⟨u2, h4, hy⟩ := vr_iface hy
              rw [h3, h4]
              refine y_eq (r := false) (by cases neg <;> rfl) (fun op ho => by rcases ho with rfl | rfl <;> rfl) ?_ hH hr (by cases neg <;> exact h)
              rw [equal_run]
              unfold Op.equalIn
              simp only [Sem.run_bind, run_underlying hu, Result.andThen_ok, Sem.run_pure]
            · rename_i t1 d1 h1 h2
              rw [h1] at hx
              rw [h2] at hy
              obtain ⟨u1, h3, hx⟩ := vr_iface hx
              obtain ⟨h4, _⟩ := vr_p hy
              rw [h3, h4]
              refine y_eq (r := false) (by cases neg <;> rfl) (fun op ho => by rcases ho with rfl | rfl <;> rfl) ?_ hH hr (by cases neg <;> exact h)
              rw [equal_run]
              unfold Op.equalIn
              simp only [Sem.run_bind, run_underlying hu, Result.andThen_ok, Sem.run_pure]
            · exact h.elim
          · split at hc
            · rename_i hbig
              cases hc
              unfold ptrBig at hbig
              split at hbig
              · rename_i el hu
                obtain ⟨i, hi, hne⟩ : ∃ i, P.info? el = some i ∧ i.size ≠ 0 := by
                  cases hii : P.info? el with
                  | none => rw [hii] at hbig; cases hbig
                  | some i => rw [hii] at hbig; exact ⟨i, rfl, by simpa using hbig⟩
                simp only [vcO] at h
                split at h
                · rename_i b1 i1 o1 n1 b2 i2 o2 n2 h1 h2
                  rw [h1] at hx
                  rw [h2] at hy
                  split at h
                  · rename_i s1 l1 hb1
                    split at h
                    · rename_i s2 l2 hb2
                      obtain ⟨⟨rfl, rfl, hbb, rfl, rfl, hz1, hz2⟩, hk2⟩ := h
                      have hkey1 : e.key b1 = some (.c s1 l1.length) := Env.key_of hb1
                      have hkey2 : e.key b2 = some (.c s2 l2.length) := Env.key_of hb2
                      obtain ⟨hi1, q1, hq1, h3⟩ := vr_ptr hx hkey1
                      obtain ⟨hi2, q2, hq2, h4⟩ := vr_ptr hy hkey2
                      have hqq : q1.1 ≠ q2.1 := fun h => hbb (hr.inj b1 b2 q1 q2 (by rw [hkey1]; simp) (by rw [hkey2]; simp) hq1 hq2 h)
                      obtain ⟨c1, T1, fr1, ovs1, hh1, hcs1, hl1, hf1, _⟩ := hr.cells hb1 hq1
                      obtain ⟨c2, T2, fr2, ovs2, hh2, hcs2, hl2, hf2, _⟩ := hr.cells hb2 hq2
                      have hm1 := Nat.mul_le_mul_right s1 (Nat.le_of_lt hi1)
                      have hm2 := Nat.mul_le_mul_right s2 (Nat.le_of_lt hi2)
                      rw [hH] at hh1 hh2
                      have hsa := run_sameAddr (P := P) (o := i1 * s1) (o' := i2 * s2) hqq hh1 hh2 (by rw [hcs1]; exact fun k hk => hf1 k hk (.inl hz1)) (by rw [hcs2]; exact fun k hk => hf2 k hk (.inl hz2)) (by omega) (by omega)
                      have hs : (sizeOf el).run P w = .ok i.size w := by simp [sizeOf, typeInfo, hi]
                      rw [h3, h4]
                      refine y_eq (r := false) (by cases neg <;> rfl) (fun op ho => by rcases ho with rfl | rfl <;> rfl) ?_ hH hr (by cases neg <;> exact hk2)
                      rw [equal_run]
                      unfold Op.equalIn
                      simp only [Sem.run_bind, run_underlying hu, Result.andThen_ok, hs, ne_eq, hne, not_false_eq_true, if_true, Nat.add_zero]
                      exact hsa
                    · exact h.elim
                  · exact h.elim
                · exact h.elim
              · cases hbig
            · cases hc
    · split at hc
      · cases hc
      · rename_i hguard
        cases hal : arrLay P ty with
        | some ks =>
          rw [hal] at hc
          simp only at hc
          by_cases hty : tyI P ty = some (true, ks.length)
          · rw [if_pos hty] at hc
            cases hc
            simp only [vcO] at h
            split at h
            · rename_i xs ys h1 h2
              rw [h1] at hx
              rw [h2] at hy
              obtain ⟨as, h3, hla, _, hxa⟩ := vr_agg hx
              obtain ⟨bs, h4, hlb, _, hyb⟩ := vr_agg hy
              rw [h3, h4]
              split at h
              · rename_i r hrr
                obtain ⟨h5, h6⟩ := cellsEq_len _ _ _ _ hrr
                refine y_eq (run_eqGuard_agg w _ ty x y as bs (by simpa using hguard)) (fun op ho => by rcases ho with rfl | rfl <;> rfl) ?_ hH hr h
                rw [equal_run]
                exact run_arrLay hal (by omega) (by omega) (fun i hi hi' => by simpa using hxa i hi hi') (fun i hi hi' => by simpa using hyb i hi hi') hrr 9998 w
              · exact h.elim
            · exact h.elim
          · rw [if_neg hty] at hc; cases hc
        | none =>
        rw [hal] at hc
        simp only at hc
        cases hl : eqLay P 20 ty with
        | none => rw [hl] at hc; cases hc
        | some ks =>
          rw [hl, Option.bind_some] at hc
          by_cases hty : tyI P ty = some (true, ks.length) ∧ isStruct P ty = true
          · rw [if_pos hty] at hc
            cases hc
            simp only [vcO] at h
            split at h
            · rename_i xs ys h1 h2
              rw [h1] at hx
              rw [h2] at hy
              obtain ⟨as, h3, hla, _, hxa⟩ := vr_agg hx
              obtain ⟨bs, h4, hlb, _, hyb⟩ := vr_agg hy
              rw [h3, h4]
              split at h
              · rename_i r hrr
                obtain ⟨h5, h6⟩ := cellsEq_len _ _ _ _ hrr
                refine y_eq (run_eqGuard_agg w _ ty x y as bs (by simpa using hguard)) (fun op ho => by rcases ho with rfl | rfl <;> rfl) ?_ hH hr h
                rw [equal_run]
                have := run_eqLay 20 ty ks hl true hty.1 hty.2.symm xs ys as bs 0 ⟨by omega, fun i hi => by simpa using hxa i hi (by omega)⟩ ⟨by omega, fun i hi => by simpa using hyb i hi (by omega)⟩ r hrr (9999 + 1) (by omega) w
                have ha : (as.toList.drop 0).take ks.length = as.toList := by rw [List.drop_zero, List.take_of_length_le (by simp; omega)]
                have hb : (bs.toList.drop 0).take ks.length = bs.toList := by rw [List.drop_zero, List.take_of_length_le (by simp; omega)]
                rw [ha, hb] at this
                simpa [ofCells] using this
              · exact h.elim
            · exact h.elim
          · rw [if_neg hty] at hc; cases hc

end
end Go.Den

namespace Go.Den
open Go

section
variable {P : Program} {G : Nat → DV} {e : Env} {w : World} {K : DV → List Blk → Prop} {t : List DV} {a : Act}

theorem bind_some_if {α β : Type} {o : Option α} {c : α → Prop} [∀ x, Decidable (c x)] {f : α → β} {d : β} (h : (o.bind fun g => if c g then some (f g) else none) = some d) : ∃ g, o = some g ∧ c g ∧ f g = d := by
  cases o with
  | none => cases h
  | some g =>
    simp only [Option.bind_some] at h
    by_cases hc : c g
    · rw [if_pos hc] at h; exact ⟨g, rfl, hc, Option.some.inj h⟩
    · rw [if_neg hc] at h; cases h

theorem s_slcs {ty : TypeId} (hu : P.underlying ty = some .string) {x : Operand} {lo hi : Option Operand} (hg : GR e G) (ht : TR e t a.tmps) (hH : e.H = w.heap) (hr : HR e) (h : vcO P G (.slcs (cOpd x) (lo.map cOpd) (hi.map cOpd)) (Opd.ev G t) e.h K) :
    Yields P (do pure (.value (← Instr.sliceAt ty (a.eval x) (lo.map a.eval) (hi.map a.eval) none))) w (After e w K) := by
  have hx := vr_ev hg ht x
  simp only [vcO] at h
  split at h
  · rename_i s hs
    rw [hs] at hx
    obtain ⟨h1, _⟩ := vr_p hx
    rw [h1]
    split at h
    · rename_i kl l kr r h2 h3
      refine y_slc_str hu hH hr _ _ l r (fun v hv => ?_) (fun hv => ?_) (fun v hv => ?_) (fun hv => ?_) h
      · cases lo with
        | none => cases hv
        | some lo => simp only [Option.map_some, Option.some.injEq, Option.elim] at hv h2; have := vr_ev hg ht lo; rw [h2] at this; exact ⟨kl, by rw [← hv]; exact (vr_p this).1⟩
      · cases lo with
        | none => simp only [Option.map_none, Option.elim] at h2; injection h2 with h2; injection h2 with _ h2; exact h2.symm
        | some lo => cases hv
      · cases hi with
        | none => cases hv
        | some hi => simp only [Option.map_some, Option.some.injEq, Option.elim] at hv h3; have := vr_ev hg ht hi; rw [h3] at this; exact ⟨kr, by rw [← hv]; exact (vr_p this).1⟩
      · cases hi with
        | none => simp only [Option.map_none, Option.elim] at h3; injection h3 with h3; injection h3 with _ h3; exact h3.symm
        | some hi => cases hv
    · exact h.elim
  · exact h.elim

theorem s_slcl {ty el : TypeId} {g : Bool} {sz : Nat} (hu : P.underlying ty = some (.slice el)) (hty : Ty P el g sz) {x : Operand} {lo hi : Option Operand} (hg : GR e G) (ht : TR e t a.tmps) (hH : e.H = w.heap) (hr : HR e) (h : vcO P G (.slcl sz (cOpd x) (lo.map cOpd) (hi.map cOpd)) (Opd.ev G t) e.h K) :
    Yields P (do pure (.value (← Instr.sliceAt ty (a.eval x) (lo.map a.eval) (hi.map a.eval) none))) w (After e w K) := by
  have hx := vr_ev hg ht x
  have blo : ∀ {kl : IntKind} {l : Int}, ((lo.map cOpd).elim (DV.p (.int .i64 0)) (Opd.ev G t)) = .p (.int kl l) → (∀ v, lo.map a.eval = some v → ∃ k, v = .int k l) ∧ (lo.map a.eval = none → l = 0) := by
    intro kl l h2
    constructor
    · intro v hv
      cases lo with
      | none => cases hv
      | some lo => simp only [Option.map_some, Option.some.injEq, Option.elim] at hv h2; have := vr_ev hg ht lo; rw [h2] at this; exact ⟨kl, by rw [← hv]; exact (vr_p this).1⟩
    · intro hv
      cases lo with
      | none => simp only [Option.map_none, Option.elim] at h2; injection h2 with h2; injection h2 with _ h2; exact h2.symm
      | some lo => cases hv
  have bhi : ∀ {kl : IntKind} {l : Int} {n : Nat}, ((hi.map cOpd).elim (DV.p (.int .i64 n)) (Opd.ev G t)) = .p (.int kl l) → (∀ v, hi.map a.eval = some v → ∃ k, v = .int k l) ∧ (hi.map a.eval = none → l = n) := by
    intro kl l n h2
    constructor
    · intro v hv
      cases hi with
      | none => cases hv
      | some hi => simp only [Option.map_some, Option.some.injEq, Option.elim] at hv h2; have := vr_ev hg ht hi; rw [h2] at this; exact ⟨kl, by rw [← hv]; exact (vr_p this).1⟩
    · intro hv
      cases hi with
      | none => simp only [Option.map_none, Option.elim] at h2; injection h2 with h2; injection h2 with _ h2; exact h2.symm
      | some hi => cases hv
  simp only [vcO] at h
  split at h
  · rename_i sz' xs hs
    rw [hs] at hx
    split at h
    · rename_i kl l kr r h2 h3
      obtain ⟨A, c, hv, hc⟩ := vr_fz_n hx
      exact y_slc_sl hu hty hH hr hx _ _ xs.length l r ⟨A, c, hv, hc⟩ (blo h2).1 (blo h2).2 (bhi h3).1 (bhi h3).2 ⟨rfl, h⟩
    · exact h.elim
  · rename_i b i n y hs
    rw [hs] at hx
    split at h
    · rename_i kl l kr r h2 h3
      obtain ⟨A, c, hv⟩ := vr_sl_n hx
      have hnc : n ≤ c := by
        have hb := h.1
        split at hb
        · rename_i bsz els hbb
          obtain ⟨rfl, rfl⟩ := hb
          obtain ⟨_, hcase⟩ := vr_sl hx (Env.key_of hbb)
          rcases hcase with ⟨_, h1⟩ | ⟨q, a', cap, _, h1, hc, _⟩
          · rw [hv] at h1; injection h1 with _ h5 h6; omega
          · rw [hv] at h1; injection h1 with _ h5 h6; omega
        · exact hb.elim
      exact y_slc_sl hu hty hH hr hx _ _ n l r ⟨A, c, hv, hnc⟩ (blo h2).1 (blo h2).2 (bhi h3).1 (bhi h3).2 ⟨rfl, h⟩
    · exact h.elim
  · rename_i hs
    rw [hs] at hx
    split at h
    · rename_i kl l kr r h2 h3
      have hv := (vr_p hx).1
      exact y_slc_sl hu hty hH hr hx _ _ 0 l r ⟨none, 0, hv, Nat.le_refl _⟩ (blo h2).1 (blo h2).2 (bhi (n := 0) h3).1 (bhi (n := 0) h3).2 h
    · exact h.elim
  · rename_i g' z b i o n c y hs
    rw [hs] at hx
    split at h
    · rename_i kl l kr r h2 h3
      obtain ⟨A, hv⟩ := vr_sa_n hx
      have hnc : n ≤ c := by
        have hb := h.1
        split at hb
        · rename_i bsz els hbb
          obtain ⟨rfl, rfl⟩ := hb
          obtain ⟨_, q, a', _, h1, hc, _⟩ := vr_sa hx (Env.key_of hbb)
          exact hc
        · exact hb.elim
      exact y_slc_sl hu hty hH hr hx _ _ n l r ⟨A, c, hv, hnc⟩ (blo h2).1 (blo h2).2 (bhi h3).1 (bhi h3).2 ⟨rfl, h⟩
    · exact h.elim
  · exact h.elim

theorem s_slca {ty el : TypeId} {m : Nat} {g : Bool} {z : Nat} (hu : P.underlying ty = some (.array m el) ∨ ∃ arr, P.underlying ty = some (.pointer arr) ∧ P.underlying arr = some (.array m el)) (hty : Ty P el g z) (hgz : g = false → z = 1) {x : Operand} {lo hi : Option Operand} (hg : GR e G) (ht : TR e t a.tmps) (hH : e.H = w.heap) (hr : HR e) (h : vcO P G (.slca m z g (cOpd x) (lo.map cOpd) (hi.map cOpd)) (Opd.ev G t) e.h K) :
    Yields P (do pure (.value (← Instr.sliceAt ty (a.eval x) (lo.map a.eval) (hi.map a.eval) none))) w (After e w K) := by
  have hx := vr_ev hg ht x
  have blo : ∀ {kl : IntKind} {l : Int}, ((lo.map cOpd).elim (DV.p (.int .i64 0)) (Opd.ev G t)) = .p (.int kl l) → (∀ v, lo.map a.eval = some v → ∃ k, v = .int k l) ∧ (lo.map a.eval = none → l = 0) := by
    intro kl l h2
    constructor
    · intro v hv
      cases lo with
      | none => cases hv
      | some lo => simp only [Option.map_some, Option.some.injEq, Option.elim] at hv h2; have := vr_ev hg ht lo; rw [h2] at this; exact ⟨kl, by rw [← hv]; exact (vr_p this).1⟩
    · intro hv
      cases lo with
      | none => simp only [Option.map_none, Option.elim] at h2; injection h2 with h2; injection h2 with _ h2; exact h2.symm
      | some lo => cases hv
  have bhi : ∀ {kl : IntKind} {l : Int} {n : Nat}, ((hi.map cOpd).elim (DV.p (.int .i64 n)) (Opd.ev G t)) = .p (.int kl l) → (∀ v, hi.map a.eval = some v → ∃ k, v = .int k l) ∧ (hi.map a.eval = none → l = n) := by
    intro kl l n h2
    constructor
    · intro v hv
      cases hi with
      | none => cases hv
      | some hi => simp only [Option.map_some, Option.some.injEq, Option.elim] at hv h2; have := vr_ev hg ht hi; rw [h2] at this; exact ⟨kl, by rw [← hv]; exact (vr_p this).1⟩
    · intro hv
      cases hi with
      | none => simp only [Option.map_none, Option.elim] at h2; injection h2 with h2; injection h2 with _ h2; exact h2.symm
      | some hi => cases hv
  simp only [vcO] at h
  split at h
  · rename_i b i o y hs
    rw [hs] at hx
    split at h
    · rename_i kl l kr r h2 h3
      exact y_slca hu hty hgz hH hr hx _ _ l r (blo h2).1 (blo h2).2 (bhi h3).1 (bhi h3).2 h
    · exact h.elim
  · exact h.elim

theorem s_conv {src dst : TypeId} {x : Operand} {d : DO} (hc : cConv P src dst x = some d) (hg : GR e G) (ht : TR e t a.tmps) (hH : e.H = w.heap) (hr : HR e) (h : vcO P G d (Opd.ev G t) e.h K) :
    Yields P (do pure (.value (← convert src dst (a.eval x)))) w (After e w K) := by
  have hx := vr_ev hg ht x
  unfold cConv at hc
  have u8 : ∀ {t}, isU8 P t = true → P.underlying t = some (.int .u8) := by
    intro t h
    unfold isU8 at h
    split at h
    · assumption
    · cases h
  split at hc
  · rename_i ds k hs hd
    cases hc
    simp only [vcO] at h
    split at h
    · rename_i k' n h1
      rw [h1] at hx
      obtain ⟨h2, _⟩ := vr_p hx
      rw [h2]
      refine y_pure ?_ hH hr (.p rfl) h
      rw [Sem.run_bind]
      unfold convert
      simp only [Sem.run_bind, run_underlying hs, run_underlying hd, Result.andThen_ok, Conv.intToInt, Sem.run_pure]
    · exact h.elim
  · rename_i el hs hd
    split at hc
    · rename_i hu
      cases hc
      simp only [vcO] at h
      split at h
      · rename_i s h1
        rw [h1] at hx
        obtain ⟨h2, _⟩ := vr_p hx
        rw [h2]
        exact y_s2b hs hd (u8 hu) hH hr h
      · exact h.elim
    · cases hc
  · rename_i el hs hd
    split at hc
    · rename_i hu
      cases hc
      simp only [vcO] at h
      exact y_b2s hs (u8 hu) hd hH hr hx h
    · cases hc
  · rename_i k hs hd
    cases hc
    simp only [vcO] at h
    split at h
    · rename_i k' n h1
      rw [h1] at hx
      obtain ⟨h2, _⟩ := vr_p hx
      rw [h2]
      refine y_pure ?_ hH hr (.p rfl) h
      rw [Sem.run_bind]
      unfold convert
      simp only [Sem.run_bind, run_underlying hs, run_underlying hd, Result.andThen_ok, Conv.intToString, Sem.run_pure]
    · rename_i s h1
      rw [h1] at hx
      obtain ⟨h2, _⟩ := vr_p hx
      rw [h2]
      refine y_pure ?_ hH hr (.p rfl) h
      rw [Sem.run_bind]
      unfold convert
      simp only [Sem.run_bind, run_underlying hs, run_underlying hd, Result.andThen_ok, Sem.run_pure]
    · exact h.elim
  · rename_i hs hd
    cases hc
    simp only [vcO] at h
    split at h
    · rename_i k' n h1
      rw [h1] at hx
      obtain ⟨h2, _⟩ := vr_p hx
      rw [h2]
      refine y_pure ?_ hH hr (.p rfl) h
      rw [Sem.run_bind]
      unfold convert
      simp only [Sem.run_bind, run_underlying hs, run_underlying hd, Result.andThen_ok, Conv.intToString, Sem.run_pure]
    · rename_i s h1
      rw [h1] at hx
      obtain ⟨h2, _⟩ := vr_p hx
      rw [h2]
      refine y_pure ?_ hH hr (.p rfl) h
      rw [Sem.run_bind]
      unfold convert
      simp only [Sem.run_bind, run_underlying hs, run_underlying hd, Result.andThen_ok, Sem.run_pure]
    · exact h.elim
  · cases hc

theorem s_mm {mx : Bool} {x y : Operand} {ats : Array TypeId} {ty : TypeId} (hg : GR e G) (ht : TR e t a.tmps) (hH : e.H = w.heap) (hr : HR e) (h : vcO P G (.mm mx (cOpd x) (cOpd y)) (Opd.ev G t) e.h K) :
    Yields P (do pure (.value (← (if mx then Builtin.max_ ats ty #[a.eval x, a.eval y] else Builtin.min_ ats ty #[a.eval x, a.eval y])))) w (After e w K) := by
  have hx := vr_ev hg ht x
  have hy := vr_ev hg ht y
  simp only [vcO] at h
  split at h
  · rename_i k p k' q h1 h2
    rw [h1] at hx
    rw [h2] at hy
    rw [(vr_p hx).1, (vr_p hy).1]
    refine y_pure ?_ hH hr (.p rfl) h
    cases mx
    · simp [Builtin.min_, Builtin.min2]
    · simp [Builtin.max_, Builtin.max2]
  · exact h.elim

end
end Go.Den
