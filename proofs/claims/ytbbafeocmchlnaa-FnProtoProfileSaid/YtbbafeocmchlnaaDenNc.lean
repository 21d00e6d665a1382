/- The library: contracts of functions over denoted values (N). -/
import Derived.Test.YtbbafeocmchlnaaDenN
set_option linter.unusedVariables false
set_option linter.unusedSimpArgs false
set_option linter.unusedSectionVars false
set_option linter.unnecessarySimpa false
namespace Go.Den
open Go

/-- A slice of a row that nobody speaks of any longer is as its elements. -/
theorem freeze {e : Env} (hr : HR e) {b i n sz : Nat} {els : List DV} {v : Value} (hb : e.h[b]? = some (.cells sz els)) (hv : VR e (.sl b i n els.length) v) (h' : List Blk)
    (hd : ∀ (c : Nat) (k : Blk), h'[c]? = some k → (e.h[c]? = some k ∧ c ≠ b) ∨ k = Blk.dead) (hw : ∀ (c : Nat) (k : Blk), h'[c]? = some k → k.wf (· < h'.length)) (hwe : ∀ d, d ∈ els → WF (· < h'.length) d) :
    let e' : Env := ⟨e.ρ, h', e.H⟩
    HR e' ∧ EvB (· < h'.length) e e' ∧ VR e' (.fz sz ((els.drop i).take n)) v := by
  intro e'
  obtain ⟨ev, hh⟩ := env_drop hr h' (fun c k hc => (hd c k hc).imp And.left id)
  refine ⟨hh hw, ev, ?_⟩
  have hkey : e.key b = some (.c sz els.length) := Env.key_of hb
  obtain ⟨h1, h2⟩ := vr_sl hv hkey
  obtain ⟨a0, c0, hva⟩ := vr_sl_n hv
  by_cases hn : n = 0
  · subst hn
    rw [List.take_zero, hva]
    exact .fz0
  rcases h2 with ⟨h2, h3⟩ | ⟨q, a, cap, h2, h3, h4, h5, h6⟩
  · rw [hva] at h3
    simp only [Value.slice.injEq] at h3
    exact absurd h3.2.1 hn
  · subst h3
    have ha := h6 (by omega)
    subst ha
    have hB := hr.blk b _ hb
    cases hB with
    | nil h => rw [h] at h2; cases h2
    | cells q' c T fr vs hq hH hc hl hf hv1 hsz h1c hcell =>
      rw [h2] at hq
      cases hq
      have hlen : ((els.drop i).take n).length = n := by simp; omega
      have hro : RO e' q.1 := by
        refine ⟨(Array.getElem?_eq_some_iff.1 hH).1, fun c q0 hk hq0 he => ?_⟩
        obtain ⟨k, hk1⟩ := Option.ne_none_iff_exists'.1 hk
        obtain ⟨x, hx1, hx2⟩ := Env.key_some hk1
        rcases hd c x hx1 with ⟨h7, h8⟩ | rfl
        · exact h8 (hr.inj c b q0 q (by rw [Env.key_of h7, hx2]; simp) (by rw [hkey]; simp) hq0 h2 he)
        · cases hx2
      have key := VR.fz (e := e') (sz := sz) (l := (els.drop i).take n) (a := ⟨q.1, i * sz, none⟩) (cap := cap) (fun j => vs (i + j)) rfl (by rw [hlen]; exact h4) hro
        (fun j hj => by
          rw [hlen] at hj
          have : ((els.drop i).take n)[j]'(by rw [hlen]; exact hj) = els[i + j]'(by omega) := by simp
          rw [this]
          exact (hv1 (i + j) (by omega)).gen ev (hwe _ (List.getElem_mem _)))
        (fun j hj => hsz (i + j) (by rw [hlen] at hj; omega)) (fun j hj => h1c (i + j) (by rw [hlen] at hj; omega))
        (fun j hj k hk => by
          rw [hlen] at hj
          have := hcell (i + j) (by omega) k hk
          show cellAt e.H q.1 (i * sz + j * sz + k) = _
          rw [cellAt, hH, ← this]
          congr 1
          rw [Nat.add_mul])
      rw [hlen] at key
      exact key


theorem Yields.imp {P : Program} {x : Sem Next} {w : World} {R R' : Value → World → Prop} (h : Yields P x w R) (hi : ∀ v w', R v w' → R' v w') : Yields P x w R' := by
  unfold Yields at h ⊢
  generalize x.run P w = r at h ⊢
  cases r with
  | ok n w' =>
    cases n with
    | value v => exact hi _ _ h
    | skip => exact hi _ _ h
    | enter f args => exact Calls.mono h fun en w'' ⟨v, h1, h2⟩ => ⟨v, h1, hi _ _ h2⟩
    | _ => exact h.elim
  | halt _ _ => exact h.elim

section
variable {P : Program} {e : Env} {w : World} {K : DV → List Blk → Prop}
/-- A literal slice that nobody writes: as its elements. -/
theorem y_litz {t el : TypeId} {sz : Nat} (hu : P.underlying t = some (.slice el)) (hi : ∃ i, P.info? el = some i ∧ i.size = sz ∧ i.zero.isSome = true) {n : Nat} (hn : n * sz ≤ 16777216) {ev : Opd → DV} {re : Operand → Value} (hev : ∀ x, VR e (ev (cOpd x)) (re x))
    (parts : Array (Nat × Operand)) (hp : consec 0 parts.toList = true) (hpn : parts.size = n) (hH : e.H = w.heap) (hr : HR e)
    (h : (∀ x, x ∈ parts.toList.map (fun p => cOpd p.2) → (ev x).size = sz ∧ (ev x).storable = true) ∧ K (.fz sz ((parts.toList.map (fun p => cOpd p.2)).map ev)) e.h) :
    Yields P (do pure (.value (← Instr.buildSlice t n (parts.map fun (i, x) => (i, re x))))) w (After e w K) := by
  refine (y_lit (K := fun d h1 => d = .sl e.h.length 0 n n ∧ h1 = e.h ++ [.cells sz ((parts.toList.map (fun p => cOpd p.2)).map ev)]) hu hi hn hev parts hp hpn hH hr ⟨h.1, rfl, rfl⟩).imp ?_
  rintro v w' ⟨e', d, g1, g2, g3, g4, g5, rfl, g6⟩
  have hlen : ((parts.toList.map (fun p => cOpd p.2)).map ev).length = n := by simp [hpn]
  obtain ⟨f1, f2, f3⟩ := freeze g3 (b := e.h.length) (i := 0) (n := n) (sz := sz) (els := (parts.toList.map (fun p => cOpd p.2)).map ev) (by rw [g6]; simp) (by rw [hlen]; exact g5) e.h (fun c k hc => by
      have hlt : c < e.h.length := (List.getElem?_eq_some_iff.1 hc).1
      exact .inl ⟨by rw [g6, List.getElem?_append_left hlt]; exact hc, by omega⟩) (fun b k h => (hr.blk b k h).wf) (fun d hd => by
      simp only [List.mem_map] at hd
      obtain ⟨x, ⟨p, hp1, rfl⟩, rfl⟩ := hd
      exact (hev p.2).wf)
  refine ⟨⟨e'.ρ, e.h, e'.H⟩, _, g1, g2, f1, g4.trans (c := ⟨e'.ρ, e.h, e'.H⟩) ⟨Nat.le_refl _, Nat.le_refl _, f2.ro, f2.key⟩ (Nat.le_refl _), f3, ?_⟩
  have e1 : (((parts.toList.map (fun p => cOpd p.2)).map ev).drop 0).take n = (parts.toList.map (fun p => cOpd p.2)).map ev := by
    rw [List.drop_zero, List.take_of_length_le (by rw [hlen]; exact Nat.le_refl _)]
  rw [e1]
  exact h.2
end

end Go.Den
