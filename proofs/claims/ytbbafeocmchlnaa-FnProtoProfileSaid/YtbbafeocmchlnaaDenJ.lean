/- The library: contracts of functions over denoted values (J). -/
import Derived.Test.YtbbafeocmchlnaaDenI
import Derived.Laws.BytesArg
set_option linter.unusedVariables false
set_option linter.unusedSimpArgs false
set_option linter.unusedSectionVars false
set_option linter.unnecessarySimpa false
namespace Go.Den
open Go

/-- A slice's or a text's elements, where they lie. -/
inductive Reads (e : Env) (sz : Nat) : Value → List DV → Prop
  | nil {a : Option Addr} {c : Nat} : Reads e sz (.slice a 0 c) []
  | str {s : ByteArray} (h : sz = 1) : Reads e sz (.string s) (bytesD s)
  | row {l : List DV} {r o c : Nat} (vs : Nat → Value) (hc : l.length ≤ c) (hv : ∀ j (hj : j < l.length), VR e l[j] (vs j)) (hsz : ∀ j, j < l.length → (vs j).cells.size = sz) (h1 : ∀ j, j < l.length → Cells1 (vs j))
      (hcell : ∀ j, j < l.length → ∀ k, k < sz → cellAt e.H r (o + j * sz + k) = (vs j).cells[k]?) : Reads e sz (.slice (some ⟨r, o, none⟩) l.length c) l

theorem elems_sound {e : Env} (hr : HR e) {sz : Nat} {d : DV} {v : Value} {l : List DV} (hv : VR e d v) (h : elemsOf e.h sz d = some l) : Reads e sz v l := by
  unfold elemsOf at h
  split at h
  · obtain ⟨rfl, _⟩ := vr_p hv
    cases h
    exact .nil
  · obtain ⟨rfl, _⟩ := vr_p hv
    split at h
    · cases h; exact .str ‹_›
    · cases h
  · split at h
    · cases h
      rename_i hsz
      subst hsz
      cases hv with
      | fz0 => exact .nil
      | fz vs hs hc hro hvv hsz h1 hcell =>
        rename_i a cap
        obtain ⟨r, o, sp⟩ := a
        obtain rfl : sp = none := hs
        exact .row vs hc hvv hsz h1 hcell
    · cases h
  · rename_i b i n x
    split at h
    · rename_i bsz els hb
      split at h
      · rename_i hc
        obtain ⟨rfl, rfl⟩ := hc
        cases h
        have hkey : e.key b = some (.c bsz els.length) := Env.key_of hb
        obtain ⟨hi, hcase⟩ := vr_sl hv hkey
        rcases hcase with ⟨hq, rfl⟩ | ⟨q, a, cap, hq, rfl, hc, hC, ha⟩
        · obtain ⟨_, _, h2⟩ := vr_sl_n hv
          injection h2 with _ h3
          subst h3
          simp
          exact .nil
        · obtain ⟨c, T, fr, vs, hh, hcs, hl, hf, hvs, hvsz, h1, hcell⟩ := hr.cells hb hq
          by_cases hn : n = 0
          · subst hn; simp; exact .nil
          · obtain rfl := ha (by omega)
            have hlen : ((els.drop i).take n).length = n := by simp; omega
            have := Reads.row (e := e) (sz := bsz) (l := (els.drop i).take n) (r := q.1) (o := i * bsz) (c := cap) (fun j => vs (i + j)) (by omega)
              (fun j hj => by
                simp at hj
                simp only [List.getElem_take, List.getElem_drop]
                exact hvs _ _)
              (fun j hj => hvsz _ (by simp at hj; omega)) (fun j hj => h1 _ (by simp at hj; omega)) (fun j hj k hk => by
                simp at hj
                rw [show i * bsz + j * bsz = (i + j) * bsz by rw [Nat.add_mul]]
                simp only [cellAt, hh]
                exact hcell _ (by omega) k hk)
            rw [hlen] at this
            exact this
      · cases h
    · cases h
  · split at h
    · rename_i g z b i o n cp x _ bsz els hb
      split at h
      · rename_i hc
        obtain ⟨rfl, rfl⟩ := hc
        cases h
        have hkey : e.key b = some (.c bsz els.length) := Env.key_of hb
        obtain ⟨hi, q, a, hq, rfl, hc, hC, ha⟩ := vr_sa hv hkey
        obtain ⟨c, T, fr, vs, hh, hcs, hl, hf, hvs, hvsz, h1, hcell⟩ := hr.cells hb hq
        by_cases hn : n = 0
        · subst hn; simp; exact .nil
        · obtain rfl := ha (by omega)
          have hel : els.getD i .any = els[i] := by simp [List.getD, hi]
          have hbnd : ∀ j, j < n → o + j * z + z ≤ bsz := fun j hj => by
            have := Nat.mul_le_mul_right z (Nat.succ_le_of_lt (Nat.lt_of_lt_of_le hj hc))
            rw [Nat.succ_mul] at this
            omega
          have hg := vr_sa_g hv
          have hsub := fun j (hj : j < n) => vr_sub (hvs i hi) (o + j * z) z g hg (by rw [hvsz i hi]; exact hbnd j hj)
          have hcl : ∀ j, j < n → ∀ k, (ofCells g (((vs i).cells.toList.drop (o + j * z)).take z)).cells[k]? = if k < z then (vs i).cells[o + j * z + k]? else none := fun j hj k => by
            have hz := hbnd j hj
            have hsz := hvsz i hi
            cases g with
            | true =>
              simp only [ofCells, if_true, Value.cells, List.getElem?_toArray, List.getElem?_take, List.getElem?_drop, Array.getElem?_toList]
            | false =>
              obtain rfl := hg rfl
              have hlt : o + j * 1 < (vs i).cells.size := by omega
              have hlt' : o + j < (vs i).cells.size := by omega
              have e1 : ofCells false (((vs i).cells.toList.drop (o + j * 1)).take 1) = (vs i).cells[o + j * 1] := by simp [ofCells, List.getD, hlt']
              rw [e1, one_cells (h1 i hi _ hlt)]
              by_cases hk : k < 1
              · obtain rfl : k = 0 := by omega
                simp [hlt]
              · rw [if_neg hk]
                simp; omega
          have hsz2 : ∀ j, j < n → (ofCells g (((vs i).cells.toList.drop (o + j * z)).take z)).cells.size = z := fun j hj => by
            have hz := hbnd j hj
            have hsz := hvsz i hi
            cases g with
            | true =>
              show ((((vs i).cells.toList.drop (o + j * z)).take z).toArray).size = z
              rw [List.size_toArray, List.length_take, List.length_drop, Array.length_toList, hsz]
              omega
            | false =>
              obtain rfl := hg rfl
              have hlt : o + j * 1 < (vs i).cells.size := by omega
              have hlt' : o + j < (vs i).cells.size := by omega
              have e1 : ofCells false (((vs i).cells.toList.drop (o + j * 1)).take 1) = (vs i).cells[o + j * 1] := by simp [ofCells, List.getD, hlt']
              rw [e1, one_cells (h1 i hi _ hlt)]
              rfl
          have := Reads.row (e := e) (sz := z) (l := (List.range n).map fun j => sub (els.getD i .any) (o + j * z) z g) (r := q.1) (o := i * bsz + o) (c := cp) (fun j => ofCells g (((vs i).cells.toList.drop (o + j * z)).take z)) (by simp; exact hc)
            (fun j hj => by
              simp at hj
              simp only [List.getElem_map, List.getElem_range, hel]
              exact hsub j hj)
            (fun j hj => hsz2 j (by simpa using hj)) (fun j hj => by
              simp at hj
              have hz := hbnd j hj
              have hsz := hvsz i hi
              intro k hk
              have h2 := hcl j hj k
              rw [Array.getElem?_eq_getElem hk, if_pos (by rw [hsz2 j hj] at hk; exact hk), Array.getElem?_eq_getElem (by rw [hsz2 j hj] at hk; omega)] at h2
              rw [Option.some.inj h2]
              exact h1 i hi _ _) (fun j hj k hk => by
              simp at hj
              have hz := hbnd j hj
              rw [hcl j hj k, if_pos hk]
              simp only [cellAt, hh]
              rw [← hcell i hi _ (by omega)]
              congr 1
              omega)
          simpa using this
      · cases h
    · cases h
  · cases h

/-- The cells themselves, as a list. -/
theorem Reads.cells {P : Program} {e : Env} {sz : Nat} {v : Value} {l : List DV} (h : Reads e sz v l) (w : World) (hH : e.H = w.heap) :
    ∃ (cs : List Value) (vs : Nat → Value), (Builtin.firstCells sz l.length v).run P w = .ok cs.toArray w ∧ cs.length = l.length * sz ∧ (∀ j (hj : j < l.length), VR e l[j] (vs j)) ∧ (∀ j, j < l.length → (vs j).cells.size = sz) ∧
      (∀ j, j < l.length → Cells1 (vs j)) ∧ (∀ j, j < l.length → ∀ k, k < sz → cs[j * sz + k]? = (vs j).cells[k]?) := by
  cases h with
  | nil => rename_i a c; exact ⟨[], fun _ => undef, by cases a <;> simp [Builtin.firstCells, loadCells, loadCellsFrom], by simp, fun j hj => absurd hj (by simp), fun j hj => absurd hj (by simp), fun j hj => absurd hj (by simp), fun j hj => absurd hj (by simp)⟩
  | str h =>
    subst h
    rename_i s
    refine ⟨s.data.toList.map fun b => .int .u8 b.toNat, fun j => .int .u8 (s.data.toList.getD j 0).toNat, ?_, by simp [bytesD], fun j hj => ?_, fun j hj => rfl, fun j hj i hi => ?_, fun j hj k hk => ?_⟩
    · simp [Builtin.firstCells, bytesD]
      apply Array.ext'
      simp
    · simp only [bytesD, List.getElem_map, byteD]
      simp only [bytesD, List.length_map] at hj
      simp only [List.getD, List.getElem?_eq_getElem hj, Option.getD_some]
      exact .p rfl
    · have : i = 0 := by simp only [Value.cells] at hi; simpa using hi
      subst this
      rfl
    · obtain rfl : k = 0 := by omega
      simp only [bytesD, List.length_map] at hj
      simp [Value.cells, List.getD, List.getElem?_eq_getElem hj]
  | row vs hc hv hsz h1 hcell =>
    rename_i r o c
    have hget : ∀ m, m < l.length * sz → ∃ u, cellAt w.heap r (o + m) = some u := fun m hm => by
      have hs0 : 0 < sz := by
        rcases Nat.eq_zero_or_pos sz with h | h
        · subst h; simp at hm
        · exact h
      have h2 := Nat.div_add_mod m sz
      have h3 : m / sz < l.length := (Nat.div_lt_iff_lt_mul hs0).2 hm
      have h4 : m % sz < sz := Nat.mod_lt _ hs0
      have := hcell (m / sz) h3 (m % sz) h4
      rw [Nat.add_assoc, Nat.mul_comm (m / sz) sz, h2, hH] at this
      rw [this, Array.getElem?_eq_getElem (by rw [hsz _ h3]; exact h4)]
      exact ⟨_, rfl⟩
    refine ⟨(List.range (l.length * sz)).map fun m => (cellAt w.heap r (o + m)).getD undef, vs, ?_, by simp, hv, hsz, h1, fun j hj k hk => ?_⟩
    · simp only [Builtin.firstCells]
      have := run_cells (P := P) w r o ((List.range (l.length * sz)).map fun m => (cellAt w.heap r (o + m)).getD undef) (fun k hk => by
        simp at hk
        obtain ⟨u, hu⟩ := hget k hk
        simp [hu])
      simpa using this
    · have hjn : (j + 1) * sz ≤ l.length * sz := Nat.mul_le_mul_right _ hj
      rw [Nat.succ_mul] at hjn
      have hm : j * sz + k < l.length * sz := by omega
      obtain ⟨u, hu⟩ := hget _ hm
      rw [List.getElem?_map, List.getElem?_range hm]
      simp only [Option.map_some, hu, Option.getD_some]
      rw [← hu, ← hH, ← hcell j hj k hk, Nat.add_assoc]

theorem Reads.len {P : Program} {e : Env} {sz : Nat} {v : Value} {l : List DV} (h : Reads e sz v l) (w : World) : (Builtin.lenOf v).run P w = .ok l.length w := by
  cases h with
  | nil => rfl
  | str => simp [Builtin.lenOf, bytesD]
  | row => rfl

section
variable {P : Program} {e : Env} {w : World} {K : DV → List Blk → Prop}

theorem isByte_spec {d : DV} (h : isByte d = true) {e : Env} {v : Value} (hv : VR e d v) : ∃ n : Int, v = .int .u8 n ∧ toByte d = UInt8.ofNat n.toNat := by
  unfold isByte at h
  split at h
  · rename_i n
    obtain ⟨rfl, _⟩ := vr_p hv
    exact ⟨n, rfl, rfl⟩
  · cases h

theorem y_b2s {src dst el : TypeId} (hs : P.underlying src = some (.slice el)) (he : P.underlying el = some (.int .u8)) (hd : P.underlying dst = some .string) (hH : e.H = w.heap) (hr : HR e) {d : DV} {v : Value} (hv : VR e d v)
    (h : match (generalizing := false) sliceOf e.h 1 d with
      | some l => (∀ d, d ∈ l → isByte d = true) ∧ K (.p (.string (strOf l))) e.h
      | none => False) : Yields P (do pure (.value (← convert src dst v))) w (After e w K) := by
  cases hel' : sliceOf e.h 1 d with
  | none => rw [hel'] at h; exact h.elim
  | some l =>
    rw [hel'] at h
    have hel : elemsOf e.h 1 d = some l := by
      unfold sliceOf at hel'
      split at hel'
      · cases hel'
      · exact hel'
    obtain ⟨hb, hk⟩ := h
    have hrd := elems_sound hr hv hel
    have hsl : ∃ a n c, v = .slice a n c := by
      cases hrd with
      | nil => exact ⟨_, _, _, rfl⟩
      | row => exact ⟨_, _, _, rfl⟩
      | str =>
        rename_i s hs1
        cases d with
        | p u => obtain ⟨h9, _⟩ := vr_p hv; subst h9; simp [sliceOf] at hel'
        | fz => obtain ⟨_, _, h9, _⟩ := vr_fz_n hv; cases h9
        | sl => obtain ⟨_, _, h9⟩ := vr_sl_n hv; cases h9
        | sa => obtain ⟨_, h9⟩ := vr_sa_n hv; cases h9
        | _ => simp [elemsOf] at hel
    obtain ⟨a, n, c, rfl⟩ := hsl
    obtain ⟨cs, vs, h1, h2, h3, h4, h5, h6⟩ := hrd.cells (P := P) w hH
    have hlen : n = l.length := by cases hrd <;> rfl
    subst hlen
    refine y_pure ?_ hH hr (.p rfl) hk
    simp only [Sem.run_bind]
    rw [run_convert_bytes_string w src dst el _ _ _ hs he hd]
    cases a with
    | none =>
      have hl : l = [] := by
        generalize hn : l.length = n at hrd
        cases hrd with
        | nil => rfl
      subst hl
      simp [Conv.bytesToString, strOf, ByteArray.empty, ByteArray.emptyWithCapacity]
      rfl
    | some a =>
      simp only [Nat.mul_one] at h2
      have hcs : cs = (l.map fun d => match d with | .p (.int _ n) => n | _ => 0).map (Value.int .u8) := by
        apply List.ext_getElem (by simp [h2])
        intro j hj hj'
        simp at hj'
        have e1 := h6 j hj' 0 (by omega)
        simp only [Nat.mul_one, Nat.add_zero] at e1
        obtain ⟨n, e2, e3⟩ := isByte_spec (hb _ (List.getElem_mem hj')) (h3 j hj')
        rw [e2, List.getElem?_eq_getElem hj] at e1
        simp [Value.cells] at e1
        rw [e1]
        have hp := h3 j hj'
        have hbj := hb _ (List.getElem_mem hj')
        simp only [List.map_map, List.getElem_map, Function.comp]
        rw [e2] at hp
        revert hp hbj
        generalize l[j] = d
        intro hp hbj
        unfold isByte at hbj
        split at hbj
        · obtain ⟨h7, _⟩ := vr_p hp
          injection h7 with _ h8
          rw [h8]
        · cases hbj
      simp only [Builtin.firstCells, Nat.mul_one] at h1
      rw [run_bytesToString w a _ c _ (by rw [h1, hcs]), foldl_push_bytes]
      simp only [Result.andThen_ok, Sem.run_pure, strOf]
      congr 3
      simp only [ByteArray.empty, ByteArray.emptyWithCapacity, List.map_map]
      refine congrArg ByteArray.mk (Array.ext' ?_)
      rw [Array.toList_append]
      show ([] : List UInt8) ++ (List.map _ l) = List.map toByte l
      rw [List.nil_append]
      refine List.map_congr_left fun d hd => ?_
      have := hb d hd
      unfold isByte at this
      split at this
      · rfl
      · cases this

end
end Go.Den
