/- The library: contracts of functions over denoted values (N). -/
import Derived.Test.YtbbafeocmchlnaaDenNa
set_option linter.unusedVariables false
set_option linter.unusedSimpArgs false
set_option linter.unusedSectionVars false
set_option linter.unnecessarySimpa false
namespace Go.Den
open Go

/-- Keys of this kind, by the type's description. -/
def ckOf : CK → TypeDesc → Bool
  | .int, .int _ => true
  | .bool, .bool => true
  | .str, .string => true
  | _, _ => false

theorem bytes_beq' (a b : ByteArray) : (a == b) = decide (a = b) := by
  by_cases h : a = b
  · rw [decide_eq_true h]; exact (MapKept.bytes_beq a b).2 h
  · rw [decide_eq_false h]
    cases hq : (a == b) with
    | false => rfl
    | true => exact absurd ((MapKept.bytes_beq a b).1 hq) h
theorem keyEq_same {ck : CK} {d : TypeDesc} (hd : ckOf ck d = true) {a b : Value} {r : Bool} (h : keyEq ck a b = some r) : Instr.sameNow d a b = some r := by
  cases ck <;> cases d <;> simp [ckOf] at hd <;> cases a <;> simp [keyEq] at h <;> cases b <;> simp [keyEq] at h <;> simp [Instr.sameNow, h, bytes_beq']
theorem keyEq_true {ck : CK} {a b : Value} (h : keyEq ck a b = some true) : a = b := by
  cases ck <;> cases a <;> simp [keyEq] at h <;> cases b <;> simp [keyEq] at h <;> simp_all
theorem keyEq_left {ck : CK} {d : TypeDesc} (hd : ckOf ck d = true) {a b : Value} {r : Bool} (h : keyEq ck a b = some r) : True := trivial

theorem mfind_now {ck : CK} {d : TypeDesc} (hd : ckOf ck d = true) {kv : Value} : ∀ (es : List (Value × DV)) (res : List MapEntry) (i : Nat) (r : Option Nat), es.length = res.length → (∀ j (hj : j < es.length) (hj' : j < res.length), es[j].1 = res[j].key) → mfind ck kv es i = some r →
    (r = none ∧ Instr.findNow d kv res i = some none) ∨ ∃ j x, r = some (i + j) ∧ res[j]? = some x ∧ keyEq ck kv x.key = some true ∧ Instr.findNow d kv res i = some (some (i + j, x.val))
  | [], [], i, r, _, _, h => by simp [mfind] at h; exact .inl ⟨h.symm, rfl⟩
  | e :: es, x :: res, i, r, hl, hk, h => by
    have hk0 : e.1 = x.key := hk 0 (by simp) (by simp)
    rw [mfind, hk0] at h
    split at h
    · rename_i hq
      simp only [Option.some.injEq] at h
      exact .inr ⟨0, x, by simp [h], rfl, hq, by simp [Instr.findNow, keyEq_same hd hq]⟩
    · rename_i hq
      rcases mfind_now hd es res (i + 1) r (by simpa using hl) (fun j hj hj' => hk (j + 1) (by simpa using hj) (by simpa using hj')) h with ⟨h1, h2⟩ | ⟨j, y, h1, h2, h3, h4⟩
      · exact .inl ⟨h1, by simp [Instr.findNow, keyEq_same hd hq, h2]⟩
      · exact .inr ⟨j + 1, y, by rw [h1]; congr 1; omega, by simpa using h2, h3, by rw [Instr.findNow, keyEq_same hd hq]; simp only [h4]; congr 3; omega⟩
    · cases h
  | [], _ :: _, _, _, hl, _, _ => by simp at hl
  | _ :: _, [], _, _, hl, _, _ => by simp at hl

section
variable {P : Program} {e : Env} {w : World} {K : DV → List Blk → Prop}

theorem run_check {kt : TypeId} {d : TypeDesc} {ck : CK} (hd : P.underlying kt = some d) (hc : ckOf ck d = true) (em : Bool) (n : Nat) (k : Value) : (Instr.checkKey em (n + 1) kt k).run P w = .ok () w := by
  unfold Instr.checkKey
  simp only [Sem.run_bind, run_underlying hd, Result.andThen]
  cases ck <;> cases d <;> simp [ckOf] at hc <;> cases k <;> rfl

theorem sameBits_key {ck : CK} {a b : Value} (h : keyEq ck a b = some true) (n : Nat) : Instr.sameBits n b a = true := by
  have := keyEq_true h
  subst this
  cases ck <;> cases a <;> simp [keyEq] at h <;> cases n <;> simp [Instr.sameBits, bytes_beq']


theorem y_look {mt kt et : TypeId} {d : TypeDesc} {ck : CK} {ok : Bool} {z : Value} {zd : DV} (hu : P.underlying mt = some (.map kt et)) (hd : P.underlying kt = some d) (hc : ckOf ck d = true)
    (hz : ∃ i, P.info? et = some i ∧ i.zero = some z) (hzd : ∀ e, VR e zd z) {b : Nat} {es : List (Value × DV)} {kv v : Value} (hv : VR e (.mp b) v) (hb : e.h[b]? = some (.map es)) {r : Option Nat} (hf : mfind ck kv es 0 = some r) (hH : e.H = w.heap) (hr : HR e)
    (hk : match (generalizing := false) r with | some i => K (mres ok (es.getD i default).2 true) e.h | none => K (mres ok zd false) e.h) :
    Yields P (do pure (.value (← Instr.lookup mt v kv ok))) w (After e w K) := by
  have hkey : e.key b = some .m := by simp [Env.key, hb, Blk.key]
  obtain ⟨q, hq, rfl⟩ := vr_mp hv hkey
  have hB := hr.blk b _ hb
  obtain ⟨iz, hz1, hz2⟩ := hz
  cases hB with
  | map q' res clock hq' hHq hl hk1 hv1 hb1 hd1 =>
    rw [hq] at hq'
    cases hq'
    rw [hH] at hHq
    have mk : ∀ {x : DV} {y : Value} {o : Bool}, VR e x y → VR e (mres ok x o) (if ok = true then .tuple #[y, .bool o] else y) := by
      intro x y o hxy
      unfold mres
      cases ok
      · simpa using hxy
      · simp only [if_true]
        refine .tup rfl fun i hi hi' => ?_
        have : i = 0 ∨ i = 1 := by simp at hi; omega
        rcases this with rfl | rfl
        · exact hxy
        · exact .p rfl
    rcases mfind_now hc es res.toList 0 r (by simpa using hl) (fun j hj hj' => by simpa using hk1 j hj (by simpa using hj')) hf with ⟨h1, h2⟩ | ⟨j, x, h1, h2, h3, h4⟩
    · subst h1
      have hrun : (Instr.lookup mt (.map (some q.1)) kv ok).run P w = .ok (if ok = true then .tuple #[z, .bool false] else z) w := by
        simp [Instr.lookup, run_underlying hu, MapKept.run_getObj_map hHq, run_check hd hc, MapKept.run_findKey hd h2, zeroValue, typeInfo, hz1, hz2]
      unfold Yields
      simp only [Sem.run_bind, hrun, Result.andThen_ok, Sem.run_pure]
      exact ⟨e, _, hH, WS.refl w, hr, Ev.refl e, mk (hzd e), hk⟩
    · subst h1
      have hj : j < res.size := by
        have := (List.getElem?_eq_some_iff.1 h2).1
        simpa using this
      have hxj : x = res[j] := by
        have := (List.getElem?_eq_some_iff.1 h2).2
        rw [← this]; simp
      have hrun : (Instr.lookup mt (.map (some q.1)) kv ok).run P w = .ok (if ok = true then .tuple #[x.val, .bool true] else x.val) w := by
        simp [Instr.lookup, run_underlying hu, MapKept.run_getObj_map hHq, run_check hd hc, MapKept.run_findKey hd h4]
      unfold Yields
      simp only [Sem.run_bind, hrun, Result.andThen_ok, Sem.run_pure]
      have hje : j < es.length := by rw [hl]; exact hj
      simp only [Nat.zero_add] at hk
      rw [show es.getD j default = es[j] by simp [List.getD, hje]] at hk
      refine ⟨e, _, hH, WS.refl w, hr, Ev.refl e, mk (x := es[j].2) ?_, hk⟩
      rw [hxj]
      exact hv1 j hje hj

theorem y_look0 {mt kt et : TypeId} {d : TypeDesc} {ck : CK} {ok : Bool} {z : Value} {zd : DV} (hu : P.underlying mt = some (.map kt et)) (hd : P.underlying kt = some d) (hc : ckOf ck d = true)
    (hz : ∃ i, P.info? et = some i ∧ i.zero = some z) (hzd : ∀ e, VR e zd z) {kv : Value} (hH : e.H = w.heap) (hr : HR e) (hk : K (mres ok zd false) e.h) :
    Yields P (do pure (.value (← Instr.lookup mt (.map none) kv ok))) w (After e w K) := by
  obtain ⟨iz, hz1, hz2⟩ := hz
  have h2 : Instr.findNow d kv [] 0 = some none := rfl
  have hrun : (Instr.lookup mt (.map none) kv ok).run P w = .ok (if ok = true then .tuple #[z, .bool false] else z) w := by
    simp [Instr.lookup, run_underlying hu, run_check hd hc, MapKept.run_findKey hd h2, zeroValue, typeInfo, hz1, hz2]
  unfold Yields
  simp only [Sem.run_bind, hrun, Result.andThen_ok, Sem.run_pure]
  refine ⟨e, _, hH, WS.refl w, hr, Ev.refl e, ?_, hk⟩
  unfold mres
  cases ok
  · simpa using hzd e
  · simp only [if_true]
    refine .tup rfl fun i hi hi' => ?_
    have : i = 0 ∨ i = 1 := by simp at hi; omega
    rcases this with rfl | rfl
    · exact hzd e
    · exact .p rfl


theorem y_mupd {mt kt et : TypeId} {d : TypeDesc} {ck : CK} (hu : P.underlying mt = some (.map kt et)) (hd : P.underlying kt = some d) (hc : ckOf ck d = true)
    {b : Nat} {es : List (Value × DV)} {kv v xv : Value} {xd : DV} (hv : VR e (.mp b) v) (hx : VR e xd xv) (hb : e.h[b]? = some (.map es)) {r : Option Nat} (hf : mfind ck kv es 0 = some r) (hni : noIter e.h b) (hH : e.H = w.heap) (hr : HR e)
    (hk : K .any (e.h.set b (.map (mput es kv xd r)))) :
    Yields P (do Instr.mapUpdate mt v kv xv; pure .skip) w (After e w K) := by
  have hkey : e.key b = some .m := by simp [Env.key, hb, Blk.key]
  obtain ⟨q, hq, rfl⟩ := vr_mp hv hkey
  have hB := hr.blk b _ hb
  cases hB with
  | map q' res clock hq' hHq hl hk1 hv1 hb1 hd1 =>
    rw [hq] at hq'
    cases hq'
    rw [hH] at hHq
    rcases mfind_now hc es res.toList 0 r (by simpa using hl) (fun j hj hj' => by simpa using hk1 j hj (by simpa using hj')) hf with ⟨h1, h2⟩ | ⟨j, x, h1, h2, h3, h4⟩
    · subst h1
      have hrun : (Instr.mapUpdate mt (.map (some q.1)) kv xv).run P w = .ok () { w with heap := w.heap.setIfInBounds q.1 (.map (res.push { key := kv, val := xv, born := clock }) (clock + 1)) } := by
        simp [Instr.mapUpdate, run_underlying hu, MapKept.run_getObj_map hHq, run_check hd hc, MapKept.run_findKey hd h2, MapKept.run_setObj_map _ hHq]
      obtain ⟨e', g1, g2, g3, g4, g5⟩ := env_put (w := w) (blk' := .map (es ++ [(kv, xd)])) (o := .map (res.push { key := kv, val := xv, born := clock }) (clock + 1)) hr hH hb (k := .m) rfl rfl hq (fun _ => hni) (fun e' a1 a2 a3 a4 => by
        refine .map q (res.push { key := kv, val := xv, born := clock }) (clock + 1) a2 (by rw [a3]; simp [lt_of_some hHq]) (by simp [hl]) (fun i hi hi' => ?_) (fun i hi hi' => ?_) (fun i hi => ?_) (fun i i' hi hi' hbb => ?_)
        · rcases Nat.lt_or_ge i res.size with h | h
          · rw [Array.getElem_push_lt h, List.getElem_append_left (by omega)]
            exact hk1 i (by omega) h
          · have : i = res.size := by simp at hi'; omega
            subst this
            simp [List.getElem_append_right, hl]
        · rcases Nat.lt_or_ge i res.size with h | h
          · rw [Array.getElem_push_lt h, List.getElem_append_left (by omega)]
            exact (hv1 i (by omega) h).mono a4
          · have : i = res.size := by simp at hi'; omega
            subst this
            simp only [Array.getElem_push_eq]
            have : (es ++ [(kv, xd)])[res.size] = (kv, xd) := by simp [List.getElem_append_right, hl]
            rw [this]
            exact hx.mono a4
        · rcases Nat.lt_or_ge i res.size with h | h
          · rw [Array.getElem_push_lt h]
            have := hb1 i h
            omega
          · have : i = res.size := by simp at hi; omega
            subst this
            simp
        · have hsz : i < res.size + 1 ∧ i' < res.size + 1 := by simp at hi hi'; omega
          rcases Nat.lt_or_ge i res.size with h | h <;> rcases Nat.lt_or_ge i' res.size with h' | h'
          · rw [Array.getElem_push_lt h, Array.getElem_push_lt h'] at hbb
            exact hd1 i i' h h' hbb
          · have : i' = res.size := by omega
            subst this
            rw [Array.getElem_push_lt h, Array.getElem_push_eq] at hbb
            have := hb1 i h
            simp at hbb
            omega
          · have : i = res.size := by omega
            subst this
            rw [Array.getElem_push_lt h', Array.getElem_push_eq] at hbb
            have := hb1 i' h'
            simp at hbb
            omega
          · omega)
      unfold Yields
      simp only [Sem.run_bind, hrun, Result.andThen_ok, Sem.run_pure]
      exact ⟨e', .any, g1, ⟨rfl, rfl, rfl⟩, g4, g3, .any, by rw [g2]; exact hk⟩
    · subst h1
      rw [Nat.zero_add] at hk
      have hj : j < res.size := by
        have := (List.getElem?_eq_some_iff.1 h2).1
        simpa using this
      have hxj : res[j] = x := by
        have := (List.getElem?_eq_some_iff.1 h2).2
        rw [← this]; simp
      have hkx : x.key = kv := (keyEq_true h3).symm
      have hold : (res[j]?.map (·.key)).getD kv = kv := by simp [hj, hxj, hkx]
      have hsb : Instr.sameBits 10000 kv kv = true := by
        rw [hkx] at h3
        exact sameBits_key h3 10000
      have hrun : (Instr.mapUpdate mt (.map (some q.1)) kv xv).run P w = .ok () { w with heap := w.heap.setIfInBounds q.1 (.map (res.modify j fun e => { e with key := kv, val := xv }) clock) } := by
        simp [Instr.mapUpdate, run_underlying hu, MapKept.run_getObj_map hHq, run_check hd hc, MapKept.run_findKey hd h4, MapKept.run_setObj_map _ hHq, Instr.keyThatStays, hj, hxj, hkx, hsb]
      have hje : j < es.length := by rw [hl]; exact hj
      have born : ∀ i (hi : i < (res.modify j fun e => { e with key := kv, val := xv }).size) (hi' : i < res.size), (res.modify j fun e => { e with key := kv, val := xv })[i].born = res[i].born := fun i hi hi' => by
        rw [Array.getElem_modify]
        split <;> rfl
      obtain ⟨e', g1, g2, g3, g4, g5⟩ := env_put (w := w) (blk' := .map (es.set j (kv, xd))) (o := .map (res.modify j fun e => { e with key := kv, val := xv }) clock) hr hH hb (k := .m) rfl rfl hq (fun _ => hni) (fun e' a1 a2 a3 a4 => by
        refine .map q (res.modify j fun e => { e with key := kv, val := xv }) clock a2 (by rw [a3]; simp [lt_of_some hHq]) (by simp [hl]) (fun i hi hi' => ?_) (fun i hi hi' => ?_) (fun i hi => ?_) (fun i i' hi hi' hbb => ?_)
        · have hi2 : i < res.size := by simpa using hi'
          rw [Array.getElem_modify, List.getElem_set]
          by_cases h : j = i
          · rw [if_pos h, if_pos h]
          · rw [if_neg h, if_neg h]
            exact hk1 i (by omega) hi2
        · have hi2 : i < res.size := by simpa using hi'
          rw [Array.getElem_modify, List.getElem_set]
          by_cases h : j = i
          · rw [if_pos h, if_pos h]
            exact hx.mono a4
          · rw [if_neg h, if_neg h]
            exact (hv1 i (by omega) hi2).mono a4
        · have hi2 : i < res.size := by simpa using hi
          rw [born i hi hi2]
          exact hb1 i hi2
        · have hi2 : i < res.size := by simpa using hi
          have hi2' : i' < res.size := by simpa using hi'
          rw [born i hi hi2, born i' hi' hi2'] at hbb
          exact hd1 i i' hi2 hi2' hbb)
      unfold Yields
      simp only [Sem.run_bind, hrun, Result.andThen_ok, Sem.run_pure]
      exact ⟨e', .any, g1, ⟨rfl, rfl, rfl⟩, g4, g3, .any, by rw [g2]; exact hk⟩

end
end Go.Den
