/- The library: contracts of functions over denoted values (X). -/
import Derived.Test.YtbbafeocmchlnaaDenX
import Derived.Test.YtbbafeocmchlnaaDenNc
set_option linter.unusedVariables false
set_option linter.unusedSimpArgs false
set_option linter.unusedSectionVars false
set_option linter.unnecessarySimpa false
namespace Go.Den
open Go

def omap {α β : Type} (f : α → Option β) : List α → Option (List β)
  | [] => some []
  | a :: l => (f a).bind fun b => (omap f l).map fun l' => b :: l'
theorem omap_spec {α β : Type} {f : α → Option β} : ∀ {l : List α} {l' : List β}, omap f l = some l' → l'.length = l.length ∧ ∀ i (hi : i < l.length) (hi' : i < l'.length), f l[i] = some l'[i]
  | [], l', h => by cases h; exact ⟨rfl, fun i hi => absurd hi (by simp)⟩
  | a :: l, l', h => by
    simp only [omap, Option.bind_eq_some_iff, Option.map_eq_some_iff] at h
    obtain ⟨b, h1, l1, h2, rfl⟩ := h
    obtain ⟨h3, h4⟩ := omap_spec h2
    refine ⟨by simp [h3], fun i hi hi' => ?_⟩
    cases i with
    | zero => simpa using h1
    | succ i => simpa using h4 i (by simpa using hi) (by simpa using hi')
theorem omap_self {α : Type} {f : α → Option α} : ∀ {l : List α}, (∀ a, a ∈ l → f a = some a) → omap f l = some l
  | [], _ => rfl
  | a :: l, h => by
    simp only [omap, h a (by simp), Option.bind_some, omap_self (l := l) fun a ha => h a (by simp [ha]), Option.map_some]

/-- A value holds no address at all. -/
def pureV : DV → Bool
  | .p _ => true
  | .agg l => pureL l
  | .tup l => pureL l
  | .iface _ d => pureV d
  | _ => false
where pureL : List DV → Bool
  | [] => true
  | d :: l => pureV d && pureL l
theorem pureL_get : ∀ {l : List DV}, pureV.pureL l = true → ∀ i (hi : i < l.length), pureV l[i] = true
  | [], _, i, hi => absurd hi (by simp)
  | d :: l, h, 0, hi => by simp [pureV.pureL] at h; exact h.1
  | d :: l, h, i + 1, hi => by simp [pureV.pureL] at h; simpa using pureL_get h.2 i (by simpa using hi)
theorem VR.pure {e e2 : Env} {d : DV} {v : Value} (h : VR e d v) (hd : pureV d = true) : VR e2 d v := by
  induction h with
  | p h1 => exact .p h1
  | agg hl h1 h ih => exact .agg hl h1 fun i hi hi' => ih i hi hi' (pureL_get (by simpa [pureV] using hd) i hi)
  | tup hl h ih => exact .tup hl fun i hi hi' => ih i hi hi' (pureL_get (by simpa [pureV] using hd) i hi)
  | iface _ ih => exact .iface (ih (by simpa [pureV] using hd))
  | _ => simp [pureV] at hd

/-- A value, told without the blocks from n0 on: what stands there nobody writes any more. -/
def frz (h : List Blk) (n0 : Nat) : Nat → DV → Option DV
  | 0, d => if pureV d = true then some d else none
  | k + 1, d => if pureV d = true then some d else match d with
    | .any => some .any
    | .ptr b i o x => if b < n0 then some (.ptr b i o x) else match h[b]? with
      | some (.cells sz els) => if x = els.length ∧ o = 0 then (frz h n0 k (els.getD i .any)).map .fp else none
      | _ => none
    | .sl b i n x => if b < n0 then some (.sl b i n x) else match h[b]? with
      | some (.cells sz els) => if x = els.length then (omap (frz h n0 k) (if i = 0 ∧ n = x then els else (els.drop i).take n)).map (.fz sz) else none
      | _ => none
    | .sa g z b i o n c x => if b < n0 then some (.sa g z b i o n c x) else none
    | .fz sz l => (omap (frz h n0 k) l).map (.fz sz)
    | .fp d => (frz h n0 k d).map .fp
    | .agg l => (omap (frz h n0 k) l).map .agg
    | .tup l => (omap (frz h n0 k) l).map .tup
    | .mp b => if b < n0 then some (.mp b) else none
    | .it b => if b < n0 then some (.it b) else none
    | .iface t d => (frz h n0 k d).map (.iface t)
    | .fn f l m => (omap (frz h n0 k) l).bind fun l' => (omap (frz h n0 k) m).map fun m' => .fn f l' m'
    | .p v => some (.p v)

theorem frz_sound {e : Env} (hr : HR e) {n0 : Nat} {h0 : List Blk} (hn : h0.length = n0) (hd : ∀ (b : Nat) (k : Blk), h0[b]? = some k → e.h[b]? = some k ∨ k = .dead) (hw : HWF h0) : ∀ (k : Nat) (d d' : DV) (v : Value), frz e.h n0 k d = some d' → VR e d v → VR ⟨e.ρ, h0, e.H⟩ d' v := by
  obtain ⟨ev, hh⟩ := env_drop hr h0 hd
  have hlow : ∀ b, b < n0 → b < h0.length := fun b hb => by omega
  have hro : ∀ b q, n0 ≤ b → e.key b ≠ none → e.ρ b = some q → q.1 < e.H.size → RO ⟨e.ρ, h0, e.H⟩ q.1 := by
    intro b q hb hk hq hlt
    refine ⟨hlt, fun c q0 hkc hq0 he => ?_⟩
    obtain ⟨k, hk1⟩ := Option.ne_none_iff_exists'.1 hkc
    obtain ⟨x, hx1, hx2⟩ := Env.key_some hk1
    have hclt : c < n0 := by
      have := (List.getElem?_eq_some_iff.1 hx1).1
      simp only at this
      omega
    rcases hd c x hx1 with h7 | rfl
    · have := hr.inj c b q0 q (by rw [Env.key_of h7, hx2]; simp) hk hq0 hq he
      omega
    · cases hx2
  have lst : ∀ (k : Nat), (∀ (d d' : DV) (v : Value), frz e.h n0 k d = some d' → VR e d v → VR ⟨e.ρ, h0, e.H⟩ d' v) → ∀ (l l' : List DV) (vs : Nat → Value), omap (frz e.h n0 k) l = some l' → (∀ i (hi : i < l.length), VR e l[i] (vs i)) → l'.length = l.length ∧ ∀ i (hi : i < l'.length), VR ⟨e.ρ, h0, e.H⟩ l'[i] (vs i) := by
    intro k ih l l' vs hl hv
    obtain ⟨h1, h2⟩ := omap_spec hl
    exact ⟨h1, fun i hi => ih _ _ _ (h2 i (by omega) hi) (hv i (by omega))⟩
  intro k
  induction k with
  | zero =>
    intro d d' v h hv
    simp only [frz] at h
    split at h
    · rename_i hp
      cases h
      exact hv.pure hp
    · cases h
  | succ k ih =>
    intro d d' v h hv
    by_cases hp : pureV d = true
    · unfold frz at h
      rw [if_pos hp] at h
      cases h
      exact hv.pure hp
    unfold frz at h
    rw [if_neg hp] at h
    cases d with
    | p u => exact absurd rfl hp
    | any => cases h; exact .any
    | ptr b i o x =>
      simp only at h
      by_cases hb : b < n0
      · rw [if_pos hb] at h; cases h; exact hv.gen ev (.ptr (hlow b hb))
      · rw [if_neg hb] at h
        split at h
        · rename_i sz els hbk
          split at h
          · rename_i hx
            obtain ⟨rfl, rfl⟩ := hx
            obtain ⟨d1, h1, rfl⟩ := Option.map_eq_some_iff.1 h
            have hkey : e.key b = some (.c sz els.length) := Env.key_of hbk
            obtain ⟨hi, q, hq, rfl⟩ := vr_ptr hv hkey
            obtain ⟨c, T, fr, ovs, hH, hcs, hl, hf, hvs, hvsz, h1c, hcell⟩ := hr.cells hbk hq
            have hel : els.getD i .any = els[i] := by simp [List.getD, hi]
            rw [hel] at h1
            refine .fp (ovs i) rfl (hro b q (by omega) (by rw [hkey]; simp) hq (Array.getElem?_eq_some_iff.1 hH).1) (ih _ _ _ h1 (hvs i hi)) fun j hj => ?_
            rw [hvsz i hi] at hj
            have := hcell i hi j hj
            show cellAt e.H q.1 (i * sz + 0 + j) = _
            rw [cellAt, hH, ← this, Nat.add_zero]
          · cases h
        · cases h
    | sl b i n x =>
      simp only at h
      by_cases hb : b < n0
      · rw [if_pos hb] at h; cases h; exact hv.gen ev (.sl (hlow b hb))
      · rw [if_neg hb] at h
        split at h
        · rename_i sz els hbk
          split at h
          · rename_i hx
            subst hx
            have hkey : e.key b = some (.c sz els.length) := Env.key_of hbk
            obtain ⟨hin, hcase⟩ := vr_sl hv hkey
            rw [show (if i = 0 ∧ n = els.length then els else (els.drop i).take n) = (els.drop i).take n by split <;> simp [*]] at h
            obtain ⟨l', h1, rfl⟩ := Option.map_eq_some_iff.1 h
            obtain ⟨a0, c0, hva⟩ := vr_sl_n hv
            have hlen : ((els.drop i).take n).length = n := by simp; omega
            rcases hcase with ⟨hq, hvn⟩ | ⟨q, a, cap, hq, hvs, hc, hC, ha⟩
            · rw [hva] at hvn
              simp only [Value.slice.injEq] at hvn
              obtain ⟨_, rfl, _⟩ := hvn
              have : l' = [] := by
                have := (omap_spec h1).1
                rw [hlen] at this
                exact List.eq_nil_of_length_eq_zero this
              subst this
              rw [hva]
              exact .fz0
            · obtain ⟨c, T, fr, ovs, hH, hcs, hl, hf, hvs', hvsz, h1c, hcell⟩ := hr.cells hbk hq
              obtain ⟨g1, g2⟩ := lst k ih _ l' (fun j => ovs (i + j)) h1 (fun j hj => by
                rw [hlen] at hj
                have : ((els.drop i).take n)[j]'(by rw [hlen]; exact hj) = els[i + j]'(by omega) := by simp
                rw [this]
                exact hvs' (i + j) (by omega))
              rw [hlen] at g1
              by_cases hn0 : n = 0
              · subst hn0
                have : l' = [] := List.eq_nil_of_length_eq_zero g1
                subst this
                rw [hvs]
                exact .fz0
              · have ha' := ha (by omega)
                subst ha'
                have key := VR.fz (e := ⟨e.ρ, h0, e.H⟩) (sz := sz) (l := l') (a := ⟨q.1, i * sz, none⟩) (cap := cap) (fun j => ovs (i + j)) rfl (by rw [g1]; exact hc)
                  (hro b q (by omega) (by rw [hkey]; simp) hq (Array.getElem?_eq_some_iff.1 hH).1) g2 (fun j hj => hvsz (i + j) (by omega)) (fun j hj => h1c (i + j) (by omega))
                  (fun j hj m hm => by
                    have := hcell (i + j) (by omega) m hm
                    show cellAt e.H q.1 (i * sz + j * sz + m) = _
                    rw [cellAt, hH, ← this]
                    simp only [Nat.add_mul])
                rw [g1] at key
                rw [hvs]
                exact key
          · cases h
        · cases h
    | fz sz l =>
      simp only at h
      obtain ⟨l', h1, rfl⟩ := Option.map_eq_some_iff.1 h
      have hlen := (omap_spec h1).1
      cases hv with
      | fz0 => cases h1; exact .fz0
      | fz vs hs hc hr' hv' hsz h1c hcell =>
        obtain ⟨g1, g2⟩ := lst k ih _ l' vs h1 (fun j hj => hv' j hj)
        have key := VR.fz (e := ⟨e.ρ, h0, e.H⟩) (sz := sz) (l := l') vs hs (by rw [hlen]; exact hc) (ev.ro _ hr').1 g2 (fun j hj => hsz j (by omega)) (fun j hj => h1c j (by omega)) (fun j hj m hm => hcell j (by omega) m hm)
        rw [hlen] at key
        exact key
    | fp d =>
      simp only at h
      obtain ⟨d1, h1, rfl⟩ := Option.map_eq_some_iff.1 h
      cases hv with
      | fp v0 hs hr' hv' hcell => exact .fp v0 hs (ev.ro _ hr').1 (ih _ _ _ h1 hv') hcell
    | agg l =>
      simp only at h
      obtain ⟨l', h1, rfl⟩ := Option.map_eq_some_iff.1 h
      obtain ⟨vs, rfl, h2, h3, h4⟩ := vr_agg hv
      obtain ⟨g1, g2⟩ := lst k ih _ l' (fun j => vs.getD j undef) h1 (fun j hj => by simpa [Array.getD, show j < vs.size by omega] using h4 j hj (by omega))
      exact .agg (by omega) h3 fun i hi hi' => by simpa [Array.getD, hi'] using g2 i hi
    | tup l =>
      simp only at h
      obtain ⟨l', h1, rfl⟩ := Option.map_eq_some_iff.1 h
      obtain ⟨vs, rfl, h2, h4⟩ := vr_tup hv
      obtain ⟨g1, g2⟩ := lst k ih _ l' (fun j => vs.getD j undef) h1 (fun j hj => by simpa [Array.getD, show j < vs.size by omega] using h4 j hj (by omega))
      exact .tup (by omega) fun i hi hi' => by simpa [Array.getD, hi'] using g2 i hi
    | sa g z b i o n c x =>
      simp only at h
      split at h
      · cases h; exact hv.gen ev (.sa (hlow b ‹_›))
      · cases h
    | mp b =>
      simp only at h
      split at h
      · cases h; exact hv.gen ev (.mp (hlow b ‹_›))
      · cases h
    | it b =>
      simp only at h
      split at h
      · cases h; exact hv.gen ev (.it (hlow b ‹_›))
      · cases h
    | iface t d =>
      simp only at h
      obtain ⟨d1, h1, rfl⟩ := Option.map_eq_some_iff.1 h
      obtain ⟨u, rfl, h2⟩ := vr_iface hv
      exact .iface (ih _ _ _ h1 h2)
    | fn f l m =>
      simp only [Option.bind_eq_some_iff] at h
      obtain ⟨l', h1, h⟩ := h
      obtain ⟨m', h2, rfl⟩ := Option.map_eq_some_iff.1 h
      cases hv with
      | fn hl hv1 hl' hv2 =>
        rename_i vs us
        obtain ⟨g1, g2⟩ := lst k ih _ l' (fun j => vs.getD j undef) h1 (fun j hj => by simpa [Array.getD, show j < vs.size by omega] using hv1 j hj (by omega))
        obtain ⟨g3, g4⟩ := lst k ih _ m' (fun j => us.getD j undef) h2 (fun j hj => by simpa [Array.getD, show j < us.size by omega] using hv2 j hj (by omega))
        exact .fn (by omega) (fun i hi hi' => by simpa [Array.getD, hi'] using g2 i hi) (by omega) (fun i hi hi' => by simpa [Array.getD, hi'] using g4 i hi)

/-- At a return: what the call made for itself and returns is from now on as it is. -/
theorem WkV.frzg {h0 h h' : List Blk} {d d' : DV} (k : Nat) (hn : h0.length ≤ h'.length) (hd : ∀ (b : Nat) (x : Blk), h'[b]? = some x → h[b]? = some x ∨ x = .dead) (hw : HWF h0 → HWF h') (hf : frz h h'.length k d = some d') : WkV h0 d h d' h' := by
  intro h0w e v he hr hv hl
  subst he
  obtain ⟨ev, hh⟩ := env_drop hr h' hd
  exact ⟨⟨e.ρ, h', e.H⟩, rfl, rfl, hh (hw h0w), frz_sound hr rfl hd (hw h0w) k d d' v hf hv, ⟨hn, Nat.le_refl _, ev.ro, fun b hb k' hk => ev.key b (Nat.lt_of_lt_of_le hb hn) k' hk⟩⟩

theorem WkV.frz {h0 h : List Blk} {d d' : DV} (k : Nat) (hp : HPre h0 h) (hf : Den.frz h h0.length k d = some d') : WkV h0 d h d' h0 :=
  WkV.frzg k (Nat.le_refl _) (fun b x hb => .inl (hp b x hb)) id hf

theorem frz_pure {h : List Blk} {n0 k : Nat} {d : DV} (hp : pureV d = true) : frz h n0 k d = some d := by cases k <;> simp [frz, hp]
theorem frz_p {h : List Blk} {n0 k : Nat} {v : Value} : frz h n0 k (.p v) = some (.p v) := frz_pure rfl
/-- Values that hold no address. -/
def plainL (l : List DV) : Prop := ∀ d, d ∈ l → pureV d = true
theorem plainL.frz {h : List Blk} {n0 k : Nat} {l : List DV} (hl : plainL l) : omap (Den.frz h n0 k) l = some l := omap_self fun d hd => frz_pure (hl d hd)
theorem plainL.map {α : Type} {f : α → Value} {l : List α} : plainL (l.map fun x => .p (f x)) := fun d hd => by
  obtain ⟨x, _, rfl⟩ := List.mem_map.1 hd
  rfl
theorem plainL.mapP {α : Type} {f : α → DV} {l : List α} (hf : ∀ x, pureV (f x) = true) : plainL (l.map f) := fun d hd => by
  obtain ⟨x, _, rfl⟩ := List.mem_map.1 hd
  exact hf x

theorem frz_sl {h : List Blk} {n0 k b i n x sz : Nat} {els : List DV} (hl : plainL els) (hb : h[b]? = some (.cells sz els)) (hn : n0 ≤ b) (hx : x = els.length) : frz h n0 (k + 1) (.sl b i n x) = some (.fz sz ((els.drop i).take n)) := by
  subst hx
  have hl' : plainL ((els.drop i).take n) := fun d hd => hl d (List.mem_of_mem_drop (List.mem_of_mem_take hd))
  have h2 : (if i = 0 ∧ n = els.length then els else (els.drop i).take n) = (els.drop i).take n := by split <;> simp [*]
  simp only [frz, pureV, Bool.false_eq_true, if_false, if_neg (Nat.not_lt.2 hn), hb, if_true, h2, hl'.frz, Option.map_some]
theorem frz_fz {h : List Blk} {n0 k sz : Nat} {l : List DV} (hl : plainL l) : frz h n0 (k + 1) (.fz sz l) = some (.fz sz l) := by
  simp only [frz, pureV, Bool.false_eq_true, if_false, hl.frz, Option.map_some]
theorem HPre.length {h h' : List Blk} (hp : HPre h h') : h.length ≤ h'.length := by
  rcases Nat.lt_or_ge h'.length h.length with hl | hl
  · have := hp h'.length h[h'.length] (List.getElem?_eq_getElem hl)
    rw [List.getElem?_eq_none (Nat.le_refl _)] at this
    cases this
  · exact hl

/-- A slice that the call made for itself (or nil), behind the blocks h1: its elements. -/
def Own (h1 : List Blk) (sz : Nat) (h : List Blk) (d : DV) (els : List DV) : Prop :=
  HPre h1 h ∧ ((d = .p (.slice none 0 0) ∧ els = []) ∨ (∃ b, d = .sl b 0 els.length els.length ∧ h1.length ≤ b ∧ h[b]? = some (.cells sz els)))
theorem Own.nil {h : List Blk} {sz : Nat} : Own h sz h (.p (.slice none 0 0)) [] := ⟨HPre.refl h, .inl ⟨rfl, rfl⟩⟩
theorem Own.nil' {h1 h : List Blk} {sz : Nat} (hp : HPre h1 h) : Own h1 sz h (.p (.slice none 0 0)) [] := ⟨hp, .inl ⟨rfl, rfl⟩⟩
theorem Own.pre {h1 h : List Blk} {sz : Nat} {d : DV} {els : List DV} (ho : Own h1 sz h d els) : HPre h1 h := ho.1
theorem Own.mono {h1 h h' : List Blk} {sz : Nat} {d : DV} {els : List DV} (ho : Own h1 sz h d els) (hp : HPre h h') : Own h1 sz h' d els := by
  refine ⟨ho.1.trans hp, ?_⟩
  rcases ho.2 with h1 | ⟨b, h1, h2, h3⟩
  · exact .inl h1
  · exact .inr ⟨b, h1, h2, hp _ _ h3⟩
theorem Own.push {h1 h x : List Blk} {sz : Nat} {d : DV} {els : List DV} (ho : Own h1 sz h d els) : Own h1 sz (h ++ x) d els := ho.mono (HPre.append h x)
theorem Own.base {h0 h1 h : List Blk} {sz : Nat} {d : DV} {els : List DV} (ho : Own h1 sz h d els) (hp : HPre h0 h1) : Own h0 sz h d els := by
  refine ⟨hp.trans ho.1, ?_⟩
  rcases ho.2 with h1 | ⟨b, h1, h2, h3⟩
  · exact .inl h1
  · exact .inr ⟨b, h1, Nat.le_trans hp.length h2, h3⟩
theorem Own.elems {h1 h : List Blk} {sz : Nat} {d : DV} {els : List DV} (ho : Own h1 sz h d els) : elemsOf h sz d = some els := by
  rcases ho.2 with ⟨rfl, rfl⟩ | ⟨b, rfl, h2, h3⟩
  · rfl
  · simp [elemsOf, h3]
theorem Own.slice {h1 h : List Blk} {sz : Nat} {d : DV} {els : List DV} (ho : Own h1 sz h d els) : sliceOf h sz d = some els := by
  rcases ho.2 with ⟨rfl, rfl⟩ | ⟨b, rfl, h2, h3⟩
  · rfl
  · simp [sliceOf, elemsOf, h3]
theorem WkV.nilfz {h0 h : List Blk} {sz : Nat} (hp : HPre h0 h) : WkV h0 (.p (.slice none 0 0)) h (.fz sz []) h0 := by
  intro h0w e v he hr hv hl'
  obtain ⟨e', g1, g2, g3, g4, g5⟩ := WkV.frz (h0 := h0) (h := h) (d := .p (.slice none 0 0)) 1 hp frz_p h0w e v he hr hv hl'
  refine ⟨e', g1, g2, g3, ?_, g5⟩
  obtain ⟨rfl, _⟩ := vr_p g4
  exact .fz0
theorem Own.wk {h0 h : List Blk} {sz : Nat} {d : DV} {els : List DV} (ho : Own h0 sz h d els) (hl : plainL els) : WkV h0 d h (.fz sz els) h0 := by
  rcases ho.2 with ⟨rfl, rfl⟩ | ⟨b, rfl, h2, h3⟩
  · exact WkV.nilfz ho.1
  · refine WkV.frz 1 ho.1 ?_
    rw [frz_sl hl h3 h2 rfl]
    simp

/-- Two slices of different rows. -/
def apart (d d2 : DV) : Prop := ∀ b i n x b' i' n' x', d = .sl b i n x → d2 = .sl b' i' n' x' → b ≠ b'
theorem apart.symm {d d2 : DV} (h : apart d d2) : apart d2 d := fun b i n x b' i' n' x' h1 h2 => (h b' i' n' x' b i n x h2 h1).symm
theorem apart.nil {d : DV} {v : Value} : apart (.p v) d := fun b i n x b' i' n' x' h1 => by cases h1
theorem apart.nil' {d : DV} {v : Value} : apart d (.p v) := apart.nil.symm

/-- Append to a slice that the call made for itself. -/
theorem vc_own {P : Program} {G : Nat → DV} {h1 : List Blk} {sz bytes : Nat} {dx dy : DV} {h : List Blk} {els ys : List DV} {K : DV → List Blk → Prop} (ho : Own h1 sz h dx els) (hy : elemsOf h sz dy = some ys) (hb : (els.length + ys.length) * bytes ≤ 140737488355328)
    (hK : ∀ d' h', Own h1 sz h' d' (els ++ ys) → h.length ≤ h'.length → (∀ d2 sz2 els2, Own h1 sz2 h d2 els2 → apart dx d2 → Own h1 sz2 h' d2 els2 ∧ apart d' d2) → K d' h') : vcO P G (.app sz bytes (.c dx) (.c dy)) (Opd.ev G []) h K := by
  simp only [vcO, ev_c, hy]
  rcases ho.2 with ⟨rfl, rfl⟩ | ⟨b, rfl, h2, h3⟩
  · refine ⟨by simpa using hb, fun h5 => ?_, fun h5 => ?_⟩
    · subst h5
      exact hK _ _ (.nil' ho.1) (Nat.le_refl _) (fun d2 sz2 els2 h ha => ⟨h, ha⟩)
    · refine hK _ _ ⟨ho.1.trans (HPre.append _ _), .inr ⟨h.length, by simp, ho.1.length, by simp⟩⟩ (by simp) (fun d2 sz2 els2 hd ha => ⟨hd.mono (HPre.append h _), fun b i n x b' i' n' x' e1 e2 => ?_⟩)
      cases e1
      rcases hd.2 with ⟨rfl, _⟩ | ⟨b2, rfl, _, g3⟩
      · cases e2
      · cases e2
        have := (List.getElem?_eq_some_iff.1 g3).1
        omega
  · simp only [h3, if_true]
    have hlt : b < h.length := (List.getElem?_eq_some_iff.1 h3).1
    refine ⟨trivial, trivial, hb, trivial, Nat.le_refl _, .inl trivial, ?_⟩
    have hpre : HPre h1 (h.set b (.cells sz (els ++ ys))) := fun c k hk => by
      have hc : c < h1.length := (List.getElem?_eq_some_iff.1 hk).1
      rw [List.getElem?_set_ne (by omega)]
      exact ho.1 _ _ hk
    refine hK _ _ ⟨hpre, .inr ⟨b, by simp, h2, by simp [hlt]⟩⟩ (by simp) (fun d2 sz2 els2 hd ha => ⟨⟨hpre, ?_⟩, fun b1 i n x b' i' n' x' e1 e2 => ?_⟩)
    · rcases hd.2 with hd | ⟨b2, rfl, g2, g3⟩
      · exact .inl hd
      · refine .inr ⟨b2, rfl, g2, ?_⟩
        rw [List.getElem?_set_ne (ha _ _ _ _ _ _ _ _ rfl rfl)]
        exact g3
    · cases e1
      exact ha _ _ _ _ _ _ _ _ rfl e2
theorem AA_own {P : Program} {G : Nat → DV} {n h1 : List Blk} {sz bytes : Nat} {dx dy : DV} {dst : Option Nat} {l : List DOper} {t : List DV} {h : List Blk} {st : List Fr} {Q : DX → St → Prop} {els ys : List DV} (ho : Own h1 sz h dx els) (hy : elemsOf h sz dy = some ys) (hb : (els.length + ys.length) * bytes ≤ 140737488355328)
    (hK : ∀ d' h', Own h1 sz h' d' (els ++ ys) → h.length ≤ h'.length → (∀ d2 sz2 els2, Own h1 sz2 h d2 els2 → apart dx d2 → Own h1 sz2 h' d2 els2 ∧ apart d' d2) → KK P G n dst l t st Q d' h') : AA P G n sz bytes dx dy dst l t h st Q := ⟨vc_own ho hy hb hK⟩
theorem DA_own {P : Program} {G : Nat → DV} {n h1 : List Blk} {sz bytes : Nat} {dx dy : DV} {dst : Option Nat} {fr : List Nat} {l : List DDOp} {t : List DV} {Hs : List (List Blk)} {h : List Blk} {st : List Fr} {Q : DX → St → Prop} {els ys : List DV} (ho : Own h1 sz h dx els) (hy : elemsOf h sz dy = some ys) (hb : (els.length + ys.length) * bytes ≤ 140737488355328)
    (hK : ∀ d' h', Own h1 sz h' d' (els ++ ys) → h.length ≤ h'.length → (∀ d2 sz2 els2, Own h1 sz2 h d2 els2 → apart dx d2 → Own h1 sz2 h' d2 els2 ∧ apart d' d2) → DH P G n dst fr l t Hs h st Q d' h') : DA P G n sz bytes dx dy dst fr l t Hs h st Q := ⟨vc_own ho hy hb hK⟩
theorem AA_at {P : Program} {G : Nat → DV} {n : List Blk} {sz bytes : Nat} {dx dy : DV} {dst : Option Nat} {l : List DOper} {t : List DV} {h : List Blk} {st : List Fr} {Q : DX → St → Prop}
    (hv : vcO P G (.app sz bytes (.c dx) (.c dy)) (Opd.ev G []) h (KK P G n dst l t st Q)) : AA P G n sz bytes dx dy dst l t h st Q := ⟨hv⟩

/-- d, read while the blocks of h0 alone are alive: as d'. -/
def FrzR (h h0 : List Blk) (d d' : DV) : Prop := ∀ e v, e.h = h → HR e → VR e d v → VR ⟨e.ρ, h0, e.H⟩ d' v
theorem FrzR.p {h h0 : List Blk} {v : Value} : FrzR h h0 (.p v) (.p v) := fun e u he hr hv => hv.pure rfl
theorem FrzR.any {h h0 : List Blk} {d : DV} : FrzR h h0 d .any := fun e u he hr hv => .any
theorem FrzR.nil {h h0 : List Blk} {sz : Nat} : FrzR h h0 (.p (.slice none 0 0)) (.fz sz []) := fun e u he hr hv => by
  obtain ⟨rfl, _⟩ := vr_p hv
  exact .fz0
theorem FrzR.of {h h0 : List Blk} {d d' : DV} (k : Nat) (hd : ∀ (b : Nat) (k : Blk), h0[b]? = some k → h[b]? = some k ∨ k = .dead) (hw : HWF h0) (hf : Den.frz h h0.length k d = some d') : FrzR h h0 d d' := fun e v he hr hv => by
  subst he
  exact frz_sound hr rfl hd hw k d d' v hf hv
theorem FrzR.of0 {h : List Blk} {d d' : DV} (k : Nat) (hf : Den.frz h 0 k d = some d') : FrzR h [] d d' :=
  FrzR.of k (fun b k hb => by simp at hb) (fun b k hb => by simp at hb) hf
theorem Own.frzR {h1 h : List Blk} {sz : Nat} {d : DV} {els : List DV} (ho : Own h1 sz h d els) (hl : plainL els) : FrzR h [] d (.fz sz els) := by
  rcases ho.2 with ⟨rfl, rfl⟩ | ⟨b, rfl, h2, h3⟩
  · exact .nil
  · exact FrzR.of0 1 (by rw [frz_sl hl h3 (Nat.zero_le _) rfl]; simp)
theorem FrzR.fz {h : List Blk} {sz : Nat} {l : List DV} (hl : plainL l) : FrzR h [] (.fz sz l) (.fz sz l) := FrzR.of0 1 (frz_fz hl)
theorem FrzR.sl {h : List Blk} {b i n x sz : Nat} {els : List DV} (hb : h[b]? = some (.cells sz els)) (hx : x = els.length) (hl : plainL els) : FrzR h [] (.sl b i n x) (.fz sz ((els.drop i).take n)) := by
  exact FrzR.of0 1 (frz_sl hl hb (Nat.zero_le _) hx)

inductive FrzL (h h0 : List Blk) : List DV → List DV → Prop
  | nil : FrzL h h0 [] []
  | cons {d d' : DV} {l l' : List DV} (h1 : FrzR h h0 d d') (h2 : FrzL h h0 l l') : FrzL h h0 (d :: l) (d' :: l')
theorem FrzL.tr {h h0 : List Blk} {l l' : List DV} (hl : FrzL h h0 l l') : l'.length = l.length ∧ ∀ i (hi : i < l.length) (hi' : i < l'.length), FrzR h h0 l[i] l'[i] := by
  induction hl with
  | nil => exact ⟨rfl, fun i hi => absurd hi (by simp)⟩
  | cons h1 h2 ih =>
    refine ⟨by simp [ih.1], fun i hi hi' => ?_⟩
    cases i with
    | zero => simpa using h1
    | succ i => simpa using ih.2 i (by simpa using hi) (by simpa using hi')

/-- A call that only reads: while it runs, nobody writes what stands there. -/
theorem Ok.borrow {P : Program} {G : Nat → DV} {f : FuncId} {args args' : List DV} {h : List Blk} {v : DV} (hf : Ok P G f args' [] v []) (hv : pureV v = true) (ha : FrzL h [] args args') (hG : ∀ g, FrzR h [] (G g) (G g)) : Ok P G f args h v h := by
  intro e w vs he hH hr hg ht
  have hd0 := env_drop hr [] (fun b k hb => by simp at hb)
  have hr0 : HR ⟨e.ρ, [], e.H⟩ := hd0.2 (fun b k hb => by simp at hb)
  obtain ⟨h1, h2⟩ := ha.tr
  refine (hf ⟨e.ρ, [], e.H⟩ w vs rfl hH hr0 (fun g => hG g e _ he hr (hg g)) ⟨h1.trans ht.1, fun i hi hi' => h2 i (by omega) hi e _ he hr (ht.2 i (by omega) hi')⟩).mono ?_
  rintro en w' ⟨v', e', g1, g2, g3, g4, g5, g6, g7⟩
  have hro0 : ∀ r, r < e.H.size → RO ⟨e.ρ, [], e.H⟩ r := fun r hr => ⟨hr, fun b q hk => absurd rfl hk⟩
  have hmem : ∀ r, r < e.H.size → e'.H[r]? = e.H[r]? := fun r hr => (g7.ro r (hro0 r hr)).2
  have ev : Ev e.h.length e ⟨e.ρ, e.h, e'.H⟩ := ⟨Nat.le_refl _, g7.size, fun r hr' => ⟨⟨Nat.lt_of_lt_of_le hr'.1 g7.size, hr'.2⟩, hmem r hr'.1⟩, fun b hb k' hk => ⟨k', hk, Key.le_refl _, fun _ => rfl⟩⟩
  refine ⟨v', ⟨e.ρ, e.h, e'.H⟩, g1, g2, he, g4, ⟨hr.inj, fun b k hb => ?_⟩, g6.pure hv, ev⟩
  exact (hr.blk b k hb).keep (fun hk => by rw [Env.key_of (e := e) hb]; exact hk) (fun _ _ _ _ => rfl) (Env.key_of hb) (Nat.le_refl _) (fun m l _ _ h => h) (fun c q _ hk hq => hmem _ (hr.lt hk hq)) (fun d v h => h.mono ev)
theorem FrzR.wf {h h1 : List Blk} {d : DV} (hd : ∀ (b : Nat) (k : Blk), h1[b]? = some k → h[b]? = some k ∨ k = .dead) (hw : WF (· < h1.length) d) : FrzR h h1 d d := fun e v he hr hv => by
  subst he
  exact hv.gen (env_drop hr h1 hd).1 hw
/-- The globals hold nothing that is alive. -/
def GZ (G : Nat → DV) : Prop := ∀ g, WF (fun _ => False) (G g)
theorem GZ.any : GZ fun _ => .any := fun g => .any
theorem GZ.frz {G : Nat → DV} (hG : GZ G) {h h1 : List Blk} (hd : ∀ (b : Nat) (k : Blk), h1[b]? = some k → h[b]? = some k ∨ k = .dead) (g : Nat) : FrzR h h1 (G g) (G g) := FrzR.wf hd ((hG g).mono fun b h => h.elim)
theorem Ok.lend {P : Program} {G : Nat → DV} (hG : GZ G) {f : FuncId} {args args' : List DV} {h : List Blk} {v : DV} (hf : Ok P G f args' [] v []) (ha : FrzL h [] args args') (hv : pureV v = true) : Ok P G f args h v h := hf.borrow hv ha (hG.frz fun b k hb => by simp at hb)
theorem Ok.borrow0 {P : Program} {f : FuncId} {args args' : List DV} {h : List Blk} {v : DV} (hf : Ok P (fun _ => .any) f args' [] v []) (hv : pureV v = true) (ha : FrzL h [] args args') : Ok P (fun _ => .any) f args h v h := hf.borrow hv ha fun _ => .any

/-- At a loop's head: of what was made since, some is from now on as it is. -/
def fitsF (h h1 : List Blk) : List DV → List DV → Prop
  | [], [] => True
  | d :: l, d' :: l' => (d' = .any ∨ FrzR h h1 d d') ∧ fitsF h h1 l l'
  | _, _ => False
theorem fitsF_spec {h h1 : List Blk} : ∀ {l l' : List DV}, fitsF h h1 l l' → l'.length = l.length ∧ ∀ i (hi : i < l'.length) (hi' : i < l.length), l'[i] = .any ∨ FrzR h h1 l[i] l'[i]
  | [], [], _ => ⟨rfl, fun i hi => absurd hi (by simp)⟩
  | d :: l, d' :: l', hh => by
    obtain ⟨h1, h2⟩ := fitsF_spec hh.2
    refine ⟨by simp [h1], fun i hi hi' => ?_⟩
    cases i with
    | zero => simpa using hh.1
    | succ i => simpa using h2 i (by simpa using hi) (by simpa using hi')
  | [], _ :: _, hh => hh.elim
  | _ :: _, [], hh => hh.elim
theorem Wk.fitsF {G : Nat → DV} {h0 h h1 : List Blk} {t t' : List DV} (hp : h0.length ≤ h1.length) (hd : ∀ (b : Nat) (k : Blk), h1[b]? = some k → h[b]? = some k ∨ k = .dead) (hw : HWF h0 → HWF h1) (hf : Den.fitsF h h1 t t') (hG : ∀ g, FrzR h h1 (G g) (G g)) : Wk G h0 ⟨t, h⟩ ⟨t', h1⟩ := by
  intro h0w D e a w hr hl
  have hhr := hr.hr
  have he : e.h = h := hr.h
  subst he
  obtain ⟨ev, hh⟩ := env_drop hr.hr h1 hd
  obtain ⟨h2, h3⟩ := fitsF_spec hf
  refine ⟨⟨e.ρ, h1, e.H⟩, ⟨rfl, hr.H, hh (hw h0w), fun g => hG g e _ rfl hr.hr (hr.gr g), ⟨by rw [h2]; exact hr.tr.1, fun i hi hi' => ?_⟩, hr.df⟩, ⟨hp, Nat.le_refl _, ev.ro, fun b hb k' hk => ev.key b (Nat.lt_of_lt_of_le hb hp) k' hk⟩⟩
  have hi1 : i < t'.length := hi
  have hi2 : i < t.length := by omega
  rcases h3 i hi1 hi2 with h4 | h4
  · simp only at h4 ⊢
    rw [h4]; exact .any
  · exact h4 e _ rfl hr.hr (hr.tr.2 i hi2 hi')

/-- At a loop's head: what was made since is no longer spoken of. -/
def fitsT (n : Nat) : List DV → List DV → Prop
  | [], [] => True
  | d :: l, d' :: l' => (d' = .any ∨ (d' = d ∧ WF (· < n) d)) ∧ fitsT n l l'
  | _, _ => False
theorem fitsT.toF {h h1 : List Blk} (hd : ∀ (b : Nat) (k : Blk), h1[b]? = some k → h[b]? = some k ∨ k = .dead) : ∀ {l l' : List DV}, fitsT h1.length l l' → Den.fitsF h h1 l l'
  | [], [], _ => trivial
  | d :: l, d' :: l', hh => ⟨hh.1.imp id fun hx => by rw [hx.1]; exact FrzR.wf hd hx.2, fitsT.toF hd hh.2⟩
  | [], _ :: _, hh => hh.elim
  | _ :: _, [], hh => hh.elim
theorem Wk.trunc {G : Nat → DV} {h0 h1 x : List Blk} {t t' : List DV} (hG : GZ G) (hp : h0.length ≤ h1.length) (hw : HWF h0 → HWF h1) (hf : fitsT h1.length t t') : Wk G h0 ⟨t, h1 ++ x⟩ ⟨t', h1⟩ :=
  have hd : ∀ (b : Nat) (k : Blk), h1[b]? = some k → (h1 ++ x)[b]? = some k ∨ k = .dead := fun b k hb => .inl (HPre.append _ _ _ _ hb)
  Wk.fitsF hp hd hw (fitsT.toF hd hf) (hG.frz hd)
attribute [simp] fitsT
section
variable {B : Nat → Prop}
@[simp] theorem WF_p {v : Value} : WF B (.p v) = True := eq_true .p
@[simp] theorem WF_any : WF B .any = True := eq_true .any
@[simp] theorem WF_ptr {b i o x : Nat} : WF B (.ptr b i o x) = B b := propext ⟨fun h => by cases h with | ptr h => exact h, .ptr⟩
@[simp] theorem WF_sl {b i n x : Nat} : WF B (.sl b i n x) = B b := propext ⟨fun h => by cases h with | sl h => exact h, .sl⟩
@[simp] theorem WF_sa {g : Bool} {z b i o n c x : Nat} : WF B (.sa g z b i o n c x) = B b := propext ⟨fun h => by cases h with | sa h => exact h, .sa⟩
@[simp] theorem WF_mp {b : Nat} : WF B (.mp b) = B b := propext ⟨fun h => by cases h with | mp h => exact h, .mp⟩
@[simp] theorem WF_it {b : Nat} : WF B (.it b) = B b := propext ⟨fun h => by cases h with | it h => exact h, .it⟩
theorem WF_pure {B B' : Nat → Prop} {d : DV} (h : WF B' d) (hd : pureV d = true) : WF B d := by
  induction h with
  | p => exact .p
  | agg _ ih => exact .agg fun j hj => ih j hj (pureL_get (by simpa [pureV] using hd) j hj)
  | tup _ ih => exact .tup fun j hj => ih j hj (pureL_get (by simpa [pureV] using hd) j hj)
  | iface _ ih => exact .iface (ih (by simpa [pureV] using hd))
  | _ => simp [pureV] at hd
theorem WF_all : ∀ n d, SizeOf.sizeOf d < n → WF (fun _ => True) d
  | 0, d, h => absurd h (by omega)
  | n + 1, d, h => by
    have lst : ∀ (l : List DV), SizeOf.sizeOf l < n → ∀ j (hj : j < l.length), WF (fun _ => True) l[j] := fun l hl j hj => WF_all n _ (by have := List.sizeOf_lt_of_mem (List.getElem_mem hj); omega)
    cases d with
    | p => exact .p
    | any => exact .any
    | ptr => exact .ptr trivial
    | sl => exact .sl trivial
    | sa => exact .sa trivial
    | fz sz l => exact .fz (lst l (by simp at h; omega))
    | fp d => exact .fp (WF_all n d (by simp at h; omega))
    | agg l => exact .agg (lst l (by simp at h; omega))
    | tup l => exact .tup (lst l (by simp at h; omega))
    | mp => exact .mp trivial
    | it => exact .it trivial
    | iface t d => exact .iface (WF_all n d (by simp at h; omega))
    | fn f l m => exact .fn (lst l (by simp at h; omega)) (lst m (by simp at h; omega))
theorem WF_plain {sz : Nat} {l : List DV} (hl : plainL l) : WF B (.fz sz l) := .fz fun j hj => WF_pure (WF_all _ _ (Nat.lt_succ_self _)) (hl _ (List.getElem_mem hj))
theorem WF_list {l : List DV} : (∀ j (hj : j < l.length), WF B l[j]) ↔ ∀ d, d ∈ l → WF B d := ⟨fun h d hd => by obtain ⟨j, hj, rfl⟩ := List.getElem_of_mem hd; exact h j hj, fun h j hj => h _ (List.getElem_mem hj)⟩
@[simp] theorem WF_agg {l : List DV} : WF B (.agg l) = ∀ d, d ∈ l → WF B d := propext ⟨fun h => by cases h with | agg h => exact WF_list.1 h, fun h => .agg (WF_list.2 h)⟩
@[simp] theorem WF_tup {l : List DV} : WF B (.tup l) = ∀ d, d ∈ l → WF B d := propext ⟨fun h => by cases h with | tup h => exact WF_list.1 h, fun h => .tup (WF_list.2 h)⟩
@[simp] theorem WF_iface {t : TypeId} {d : DV} : WF B (.iface t d) = WF B d := propext ⟨fun h => by cases h with | iface h => exact h, .iface⟩
end
theorem HWF.push {h : List Blk} {x : List Blk} (hh : HWF h) (hx : ∀ k, k ∈ x → k.wf (· < (h ++ x).length)) : HWF (h ++ x) := by
  intro b k hb
  rcases Nat.lt_or_ge b h.length with hl | hl
  · rw [List.getElem?_append_left hl] at hb
    exact Blk.wf_mono (fun c hc => by simp; omega) (hh b k hb)
  · rw [List.getElem?_append_right hl] at hb
    exact hx k (List.mem_of_getElem? hb)
theorem HWF.noIter {h : List Blk} (hh : HWF h) {b : Nat} (hb : h.length ≤ b) : noIter h b := fun c l hc => by
  have := hh c _ hc
  simp only [Blk.wf] at this
  omega
theorem noIter_push {h x : List Blk} {b : Nat} (hh : noIter h b) (hx : ∀ l, Blk.mit (some b) l ∉ x) : noIter (h ++ x) b := fun c l hc => by
  rcases Nat.lt_or_ge c h.length with hl | hl
  · rw [List.getElem?_append_left hl] at hc
    exact hh c l hc
  · rw [List.getElem?_append_right hl] at hc
    exact hx l (List.mem_of_getElem? hc)

theorem HPre_set {h1 h : List Blk} {b : Nat} {k : Blk} (hp : HPre h1 h) (hb : h1.length ≤ b) : HPre h1 (h.set b k) := fun c x hc => by
  have : c < h1.length := (List.getElem?_eq_some_iff.1 hc).1
  rw [List.getElem?_set_ne (by omega)]
  exact hp c x hc
@[simp] theorem HPre_nil {l : List Blk} : HPre [] l = True := eq_true fun b k hb => by simp at hb
@[simp] theorem HPre_cons {x : Blk} {l l' : List Blk} : HPre (x :: l) (x :: l') = HPre l l' := propext ⟨fun h b k hb => by simpa using h (b + 1) k (by simpa using hb), fun h b k hb => by
  cases b with
  | zero => simpa using hb
  | succ b => simpa using h b k (by simpa using hb)⟩
@[simp] theorem HPre_left {h l l' : List Blk} : HPre (h ++ l) (h ++ l') = HPre l l' := by
  induction h with
  | nil => rfl
  | cons x h ih => rw [List.cons_append, List.cons_append, HPre_cons, ih]
theorem Wk.cut {G : Nat → DV} {h0 h h1 : List Blk} {t t' : List DV} (hG : GZ G) (hd : HPre h1 h) (hp : h0.length ≤ h1.length) (hw : HWF h0 → HWF h1) (hf : fitsT h1.length t t') : Wk G h0 ⟨t, h⟩ ⟨t', h1⟩ :=
  have hd : ∀ (b : Nat) (k : Blk), h1[b]? = some k → h[b]? = some k ∨ k = .dead := fun b k hb => .inl (hd _ _ hb)
  Wk.fitsF hp hd hw (fitsT.toF hd hf) (hG.frz hd)
theorem WkV.cut {h0 h h' : List Blk} {d : DV} (hd : HPre h' h) (hn : h0.length ≤ h'.length) (hw : HWF h0 → HWF h') (hwd : WF (· < h'.length) d) : WkV h0 d h d h' := WkV.trunc hn (fun b k hb => .inl (hd _ _ hb)) hw hwd

theorem WkV.ofPure {h0 h : List Blk} {d : DV} (hp : HPre h0 h) (hd : pureV d = true) : WkV h0 d h d h0 := WkV.frz 0 hp (frz_pure hd)
@[simp] theorem WkV_p {h0 h : List Blk} {v : Value} (hp : HPre h0 h) : WkV h0 (.p v) h (.p v) h0 = True := eq_true (WkV.ofPure hp rfl)

end Go.Den
