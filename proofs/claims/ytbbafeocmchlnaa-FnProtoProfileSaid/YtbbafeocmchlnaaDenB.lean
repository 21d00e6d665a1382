/- The library: contracts of functions over denoted values (B). -/
import Derived.Test.YtbbafeocmchlnaaDenA
set_option linter.unusedVariables false
set_option linter.unusedSimpArgs false
set_option linter.unusedSectionVars false
set_option linter.unnecessarySimpa false
namespace Go.Den
open Go

def upd {α : Type} (f : Nat → α) (b : Nat) (x : α) : Nat → α := fun i => if i = b then x else f i
theorem upd_same {α : Type} (f : Nat → α) (b : Nat) (x : α) : upd f b x b = x := by simp [upd]
theorem upd_ne {α : Type} (f : Nat → α) {b i : Nat} (x : α) (h : i ≠ b) : upd f b x i = f i := by simp [upd, h]

theorem Env.key_some {e : Env} {b : Nat} {k : Key} (h : e.key b = some k) : ∃ x, e.h[b]? = some x ∧ x.key = some k := by
  simp only [Env.key] at h
  cases hx : e.h[b]? with
  | none => simp [hx] at h
  | some x => exact ⟨x, rfl, by simpa [hx] using h⟩
theorem Env.key_lt {e : Env} {b : Nat} (h : e.key b ≠ none) : b < e.h.length := by
  rcases Nat.lt_or_ge b e.h.length with h1 | h1
  · exact h1
  · simp [Env.key, List.getElem?_eq_none h1] at h
theorem Env.key_of {e : Env} {b : Nat} {x : Blk} (h : e.h[b]? = some x) : e.key b = x.key := by simp [Env.key, h]

/-- Another block's reading, once the values read as before and its own memory is as it was. -/
theorem BR.keep {e e' : Env} {b : Nat} {k : Blk} (h : BR e b k) (hk : k.key ≠ none → e.key b ≠ none) (hρ : ∀ c, c = b ∨ e.key c = some .m → e'.key c ≠ none → e.key c ≠ none → e'.ρ c = e.ρ c)
    (hb : e'.key b = k.key) (hlen : e.h.length ≤ e'.h.length) (hkm : ∀ m l, k = .mit (some m) l → m < e.h.length → e'.key m = some .m → e.key m = some .m)
    (hH : ∀ c q, c = b ∨ (e.key c = some .m ∧ ∃ l, k = .mit (some c) l) → e.key c ≠ none → e.ρ c = some q → e'.H[q.1]? = e.H[q.1]?)
    (hv : ∀ d v, VR e d v → VR e' d v) : BR e' b k := by
  have hself : k.key ≠ none → e'.ρ b = e.ρ b := fun h1 => hρ b (.inl rfl) (by rw [hb]; exact h1) (hk h1)
  have hown : ∀ q, k.key ≠ none → e.ρ b = some q → e'.H[q.1]? = e.H[q.1]? := fun q h1 h2 => hH b q (.inl rfl) (hk h1) h2
  cases h with
  | dead => exact .dead
  | nil h => exact .nil (by rw [hself (by simp [Blk.key])]; exact h)
  | cells q c T fr vs hq hh hc hl hf hvs hsz h1 hcell =>
    exact .cells q c T fr vs (by rw [hself (by simp [Blk.key])]; exact hq) (by rw [hown q (by simp [Blk.key]) hq]; exact hh) hc hl hf (fun j hj => hv _ _ (hvs j hj)) hsz h1 hcell
  | map q res clock hq hh hl hkk hvs hb9 hd =>
    exact .map q res clock (by rw [hself (by simp [Blk.key])]; exact hq) (by rw [hown q (by simp [Blk.key]) hq]; exact hh) hl hkk (fun j hj hj' => hv _ _ (hvs j hj hj')) hb9 hd
  | sit q hq hh => exact .sit q (by rw [hself (by simp [Blk.key])]; exact hq) (by rw [hown q (by simp [Blk.key]) hq]; exact hh)
  | mit0 q since seen last hq hh => exact .mit0 q since seen last (by rw [hself (by simp [Blk.key])]; exact hq) (by rw [hown q (by simp [Blk.key]) hq]; exact hh)
  | mit q rm since seen last hml hq hh hm =>
    refine .mit q rm since seen last (by omega) (by rw [hself (by simp [Blk.key])]; exact hq) (by rw [hown q (by simp [Blk.key]) hq]; exact hh) fun h1 => ?_
    have h2 := hkm _ _ rfl hml h1
    obtain ⟨qm, res, clock, h3, rfl, h4, h5⟩ := hm h2
    exact ⟨qm, res, clock, by rw [hρ _ (.inr h2) (by rw [h1]; simp) (by rw [h2]; simp)]; exact h3, rfl, by rw [hH _ qm (.inr ⟨h2, _, rfl⟩) (by rw [h2]; simp) h3]; exact h4, h5⟩

theorem BR.lt {e : Env} {b : Nat} {k : Blk} (h : BR e b k) {q : Nat × Nat} (hk : k.key ≠ none) (hq : e.ρ b = some q) : q.1 < e.H.size := by
  have key : ∀ (o : Obj) (r : Nat), e.H[r]? = some o → r < e.H.size := fun o r h => (Array.getElem?_eq_some_iff.1 h).1
  cases h with
  | dead => simp [Blk.key] at hk
  | nil h => rw [h] at hq; cases hq
  | cells q' c T fr vs hq' hh => rw [hq'] at hq; cases hq; exact key _ _ hh
  | map q' res clock hq' hh => rw [hq'] at hq; cases hq; exact key _ _ hh
  | sit q' hq' hh => rw [hq'] at hq; cases hq; exact key _ _ hh
  | mit0 q' _ _ _ hq' hh => rw [hq'] at hq; cases hq; exact key _ _ hh
  | mit q' _ _ _ _ _ hq' hh => rw [hq'] at hq; cases hq; exact key _ _ hh

theorem HR.lt {e : Env} (hr : HR e) {c : Nat} {q : Nat × Nat} (hk : e.key c ≠ none) (hq : e.ρ c = some q) : q.1 < e.H.size := by
  obtain ⟨k, h3⟩ := Option.ne_none_iff_exists'.1 hk
  obtain ⟨x, h4, h5⟩ := Env.key_some h3
  exact (hr.blk c x h4).lt (by rw [h5]; simp) hq

/-- A new block at the end. -/
theorem env_push {e : Env} (hr : HR e) (x : Blk) (q : Option (Nat × Nat)) (H' : Array Obj) (hs : e.H.size ≤ H'.size) (hsame : ∀ r, r < e.H.size → H'[r]? = e.H[r]?)
    (hq : ∀ q0, q = some q0 → e.H.size ≤ q0.1) :
    let e' : Env := ⟨upd e.ρ e.h.length q, e.h ++ [x], H'⟩
    Ev e.h.length e e' ∧ (BR e' e.h.length x → HR e') := by
  intro e'
  have hkey : ∀ b, b < e.h.length → e'.key b = e.key b := fun b hb => by simp [Env.key, e', List.getElem?_append_left hb]
  have hρ : ∀ b, b < e.h.length → e'.ρ b = e.ρ b := fun b hb => upd_ne _ _ (by omega)
  have ev : Ev e.h.length e e' := by
    refine ⟨by simp [e'], hs, fun r h => ⟨⟨Nat.lt_of_lt_of_le h.1 hs, fun b q0 hk hb => ?_⟩, hsame r h.1⟩, fun b hb k' hk' => ⟨k', by rw [← hkey b hb]; exact hk', Key.le_refl _, fun _ => hρ b hb⟩⟩
    by_cases hb' : b < e.h.length
    · exact h.2 b q0 (by rw [← hkey b hb']; exact hk) (by rw [← hρ b hb']; exact hb)
    · have hlt : b < e'.h.length := Env.key_lt hk
      have : b = e.h.length := by simp [e'] at hlt; omega
      subst this
      have h1 := hq q0 (by rw [← hb]; exact (upd_same _ _ _).symm)
      have := h.1
      omega
  refine ⟨ev, fun hx => ⟨fun b b' q1 q2 hk hk' h1 h2 he => ?_, fun b k hb => ?_⟩⟩
  · have old : ∀ b q, b < e.h.length → e'.key b ≠ none → e'.ρ b = some q → q.1 < e.H.size := fun b q hb hk hq => by
      rw [hkey b hb] at hk
      rw [hρ b hb] at hq
      exact hr.lt hk hq
    have hlt : ∀ b, e'.key b ≠ none → b < e.h.length ∨ b = e.h.length := fun b hk => by
      have := Env.key_lt hk
      simp [e'] at this
      omega
    have new : ∀ q, e'.ρ e.h.length = some q → e.H.size ≤ q.1 := fun q0 h => hq q0 (by rw [← h]; exact (upd_same _ _ _).symm)
    rcases hlt b hk with hb | rfl <;> rcases hlt b' hk' with hb' | rfl
    · exact hr.inj b b' q1 q2 (by rw [← hkey b hb]; exact hk) (by rw [← hkey b' hb']; exact hk') (by rw [← hρ b hb]; exact h1) (by rw [← hρ b' hb']; exact h2) he
    · have := old b q1 hb hk h1; have := new q2 h2; omega
    · have := old b' q2 hb' hk' h2; have := new q1 h1; omega
    · rfl
  · by_cases hb' : b < e.h.length
    · have hb0 : e.h[b]? = some k := by simpa [e', List.getElem?_append_left hb'] using hb
      exact (hr.blk b k hb0).keep (fun h => by rw [Env.key_of hb0]; exact h) (fun c _ _ h => hρ c (Env.key_lt h)) (by rw [hkey b hb']; exact Env.key_of hb0) ev.len
        (fun m l hm h1 h => by rw [← hkey m h1]; exact h)
        (fun c q _ hk hq => hsame _ (hr.lt hk hq)) (fun d v h => h.mono ev)
    · have hlt : b < e'.h.length := by
        rcases Nat.lt_or_ge b e'.h.length with h1 | h1
        · exact h1
        · rw [List.getElem?_eq_none h1] at hb; cases hb
      have : b = e.h.length := by simp [e'] at hlt; omega
      subst this
      have : k = x := by simpa [e'] using hb.symm
      subst this
      exact hx

/-- A living block is written, or moves. -/
theorem env_set {e : Env} (hr : HR e) (b : Nat) (k k' : Key) (hb : e.key b = some k) (x : Blk) (hx : x.key = some k') (hle : Key.le k k') (q : Option (Nat × Nat)) (hkq : k = k' → q = e.ρ b)
    (H' : Array Obj) (hs : e.H.size ≤ H'.size) (hsame : ∀ r, r < e.H.size → (∀ q0, e.ρ b = some q0 → q0.1 ≠ r) → H'[r]? = e.H[r]?)
    (hq : ∀ q0, q = some q0 → (∃ q1, e.ρ b = some q1 ∧ q1.1 = q0.1) ∨ e.H.size ≤ q0.1)
    (hmit : ∀ (c : Nat) (l : Lf), e.h[c]? = some (Blk.mit (some b) l) → e.key b = some .m → False) :
    let e' : Env := ⟨upd e.ρ b q, e.h.set b x, H'⟩
    Ev e.h.length e e' ∧ (BR e' b x → HR e') := by
  intro e'
  have hlt : b < e.h.length := Env.key_lt (by rw [hb]; simp)
  have hkey : ∀ c, c ≠ b → e'.key c = e.key c := fun c hc => by simp [Env.key, e', List.getElem?_set_ne (Ne.symm hc)]
  have hkb : e'.key b = some k' := by simp [Env.key, e', hlt, hx]
  have hρ : ∀ c, c ≠ b → e'.ρ c = e.ρ c := fun c hc => upd_ne _ _ hc
  have hρb : e'.ρ b = q := upd_same _ _ _
  have old : ∀ c q, e.key c ≠ none → e.ρ c = some q → q.1 < e.H.size := fun c q hk hq => by
    exact hr.lt hk hq
  have ev : Ev e.h.length e e' := by
    refine ⟨by simp [e'], hs, fun r h => ⟨⟨Nat.lt_of_lt_of_le h.1 hs, fun c q0 hk hc => ?_⟩, hsame r h.1 fun q0 h1 => h.2 b q0 (by rw [hb]; simp) h1⟩, fun c hc k1 hk1 => ?_⟩
    · by_cases hcb : c = b
      · subst hcb
        rw [hρb] at hc
        rcases hq q0 hc with ⟨q1, h1, h2⟩ | h1
        · rw [← h2]; exact h.2 c q1 (by rw [hb]; simp) h1
        · have := h.1; omega
      · exact h.2 c q0 (by rw [← hkey c hcb]; exact hk) (by rw [← hρ c hcb]; exact hc)
    · by_cases hcb : c = b
      · subst hcb
        rw [hkb] at hk1
        cases hk1
        exact ⟨k, hb, hle, fun h => by rw [hρb]; exact hkq h⟩
      · exact ⟨k1, by rw [← hkey c hcb]; exact hk1, Key.le_refl _, fun _ => hρ c hcb⟩
  refine ⟨ev, fun hbr => ⟨fun c c' q1 q2 hk hk' h1 h2 he => ?_, fun c y hc => ?_⟩⟩
  · have cross : ∀ c q1 q2, c ≠ b → e'.key c ≠ none → e'.ρ c = some q1 → q = some q2 → q1.1 ≠ q2.1 := fun c q1 q2 hcb hk h1 h2 he => by
      rw [hkey c hcb] at hk
      rw [hρ c hcb] at h1
      rcases hq q2 h2 with ⟨q3, h3, h4⟩ | h3
      · exact hcb (hr.inj c b q1 q3 hk (by rw [hb]; simp) h1 h3 (by rw [h4]; exact he))
      · have := old c q1 hk h1; omega
    by_cases hcb : c = b <;> by_cases hcb' : c' = b
    · rw [hcb, hcb']
    · subst hcb; rw [hρb] at h1; exact absurd he.symm (cross c' q2 q1 hcb' hk' h2 h1)
    · subst hcb'; rw [hρb] at h2; exact absurd he (cross c q1 q2 hcb hk h1 h2)
    · exact hr.inj c c' q1 q2 (by rw [← hkey c hcb]; exact hk) (by rw [← hkey c' hcb']; exact hk') (by rw [← hρ c hcb]; exact h1) (by rw [← hρ c' hcb']; exact h2) he
  · by_cases hcb : c = b
    · subst hcb
      have : y = x := by simpa [e', hlt] using hc.symm
      subst this
      exact hbr
    · have hc0 : e.h[c]? = some y := by simpa [e', List.getElem?_set_ne (Ne.symm hcb)] using hc
      refine (hr.blk c y hc0).keep (fun h => by rw [Env.key_of hc0]; exact h) (fun d h1 h2 h3 => ?_) (by rw [hkey c hcb]; exact Env.key_of hc0) ev.len (fun m l hm h1 h => ?_) (fun d q0 h1 h2 h3 => hsame _ (hr.lt h2 h3) fun q1 h4 he => ?_) (fun d v h => h.mono ev)
      · by_cases hd : d = b
        · subst hd
          rcases h1 with h1 | h1
          · exact absurd h1.symm hcb
          · rw [hb] at h1
            cases h1
            rw [hρb]
            refine hkq ?_
            cases k' <;> simp_all [Key.le]
        · exact hρ d hd
      · by_cases hd : m = b
        · subst hd
          rw [hkb] at h
          cases h
          rw [hb]
          cases k <;> simp_all [Key.le]
        · rw [← hkey m hd]; exact h
      · have hdb : d = b := hr.inj d b q0 q1 h2 (by rw [hb]; simp) h3 h4 he.symm
        subst hdb
        rcases h1 with h1 | ⟨h5, l, h1⟩
        · exact hcb h1.symm
        · exact hmit c l (by subst h1; exact hc0) h5

/-- What a block speaks of. -/
def Blk.wf (B : Nat → Prop) : Blk → Prop
  | .cells _ els => ∀ j (hj : j < els.length), WF B els[j]
  | .map es => ∀ j (hj : j < es.length), WF B es[j].2
  | .mit (some m) _ => B m
  | _ => True

theorem BR.wf {e : Env} {b : Nat} {k : Blk} (h : BR e b k) : k.wf (· < e.h.length) := by
  cases h with
  | dead => trivial
  | nil h => exact fun j hj => absurd hj (by simp)
  | cells q c T fr vs hq hh hc hl hf hvs hsz h1 hcell => exact fun j hj => (hvs j hj).wf
  | map q res clock hq hh hl hk hvs hb' hd' => exact fun j hj => (hvs j hj (hl ▸ hj)).wf
  | sit q hq hh => trivial
  | mit0 => trivial
  | mit _ _ _ _ _ hml => exact hml

theorem Blk.wf_mono {B B' : Nat → Prop} (hB : ∀ b, B b → B' b) {k : Blk} (h : k.wf B) : k.wf B' := by
  cases k with
  | dead => trivial
  | cells sz els => exact fun j hj => (h j hj).mono hB
  | map es => exact fun j hj => (h j hj).mono hB
  | sit => trivial
  | mit m l => cases m with
    | none => trivial
    | some m => exact hB _ h

/-- Some blocks are no longer spoken of. -/
theorem env_drop {e : Env} (hr : HR e) (h' : List Blk) (hd : ∀ (b : Nat) (k : Blk), h'[b]? = some k → e.h[b]? = some k ∨ k = Blk.dead) :
    let e' : Env := ⟨e.ρ, h', e.H⟩
    EvB (· < h'.length) e e' ∧ ((∀ (b : Nat) (k : Blk), h'[b]? = some k → k.wf (· < h'.length)) → HR e') := by
  intro e'
  have hkey : ∀ b k', e'.key b = some k' → e.key b = some k' := fun b k' h => by
    obtain ⟨x, h1, h2⟩ := Env.key_some h
    rcases hd b x h1 with h3 | rfl
    · rw [Env.key_of h3]; exact h2
    · cases h2
  have ev : EvB (· < h'.length) e e' := ⟨fun b hb => hb, fun r h => ⟨⟨h.1, fun b q hk hq => h.2 b q (by
      obtain ⟨k, h3⟩ := Option.ne_none_iff_exists'.1 hk
      rw [hkey b k h3]; simp) hq⟩, rfl⟩, fun b hb k' h => ⟨k', hkey b k' h, Key.le_refl _, fun _ => rfl⟩⟩
  refine ⟨ev, fun hw => ⟨fun b b' q q' hk hk' => ?_, fun b k hb => ?_⟩⟩
  · obtain ⟨k1, h3⟩ := Option.ne_none_iff_exists'.1 hk
    obtain ⟨k2, h4⟩ := Option.ne_none_iff_exists'.1 hk'
    exact hr.inj b b' q q' (by rw [hkey b k1 h3]; simp) (by rw [hkey b' k2 h4]; simp)
  · by_cases hkd : k = .dead
    · subst hkd; exact .dead
    · have hb0 := (hd b k hb).resolve_right hkd
      have hw' := hw b k hb
      have h := hr.blk b k hb0
      cases h with
      | dead => exact .dead
      | nil h => exact .nil h
      | cells q c T fr vs hq hh hc hl hf hvs hsz h1 hcell =>
        exact .cells q c T fr vs hq hh hc hl hf (fun j hj => (hvs j hj).gen ev (hw' j hj)) hsz h1 hcell
      | map q res clock hq hh hl hk hvs hb' hd' =>
        exact .map q res clock hq hh hl hk (fun j hj hj' => (hvs j hj hj').gen ev (hw' j hj)) hb' hd'
      | sit q hq hh => exact .sit q hq hh
      | mit0 q since seen last hq hh => exact .mit0 q since seen last hq hh
      | mit q rm since seen last hml hq hh hm => exact .mit q rm since seen last hw' hq hh fun h => hm (hkey _ _ h)

end Go.Den
