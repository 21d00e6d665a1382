/- Domains: whether a text has one of some signs. -/
import Derived.Test.YtbbafeocmchlnaaDoorDmA
set_option linter.unusedVariables false
set_option linter.unusedSimpArgs false
set_option maxRecDepth 100000
namespace Go.Proofs.YtbbafeocmchlnaaDoor
open Go Go.Den Go.Proofs

theorem get_txt {s : List UInt8} {i : Nat} (h : i < s.length) : (txt s).get! i = s[i] := by
  show (txt s).data[i]! = s[i]
  simp [txt, h]
theorem dec_ascii {s : List UInt8} {i : Nat} (h : i < s.length) (ha : s[i].toNat < 128) : Utf8.decode (txt s) i = (s[i].toNat, 1) := by
  unfold Utf8.decode
  simp only [Nat.add_zero, get_txt h]
  rw [if_pos ha]
theorem dec_pos (s : ByteArray) (i : Nat) : 1 ≤ (Utf8.decode s i).2 := by
  unfold Utf8.decode
  dsimp only
  repeat' split
  all_goals simp
theorem dec_one {s : List UInt8} {i : Nat} (h : i < s.length) : (Utf8.decode (txt s) i).1 < 128 → (Utf8.decode (txt s) i).1 = s[i].toNat := by
  unfold Utf8.decode
  dsimp only
  simp only [Nat.add_zero, get_txt h]
  repeat' split
  all_goals simp_all [Utf8.runeError]
  all_goals intros
  all_goals omega

/-- Where a text has one of some signs: what is told of it. -/
def IxR (s cs : List UInt8) (h : List Blk) (v : DV) (h' : List Blk) : Prop :=
  HPre h h' ∧ ∃ r : Int, v = .p (.int .i64 r) ∧ (∀ a c b, s = a ++ c :: b → (∀ x ∈ a, x.toNat < 128) → c ∈ cs → 0 ≤ r) ∧ ((∀ x ∈ s, x.toNat < 128 ∧ x ∉ cs) → r = -1)

theorem ok22 {G : Nat → DV} (h : List Blk) (s cs : List UInt8) (hl : s.length ≤ 2147483647) (hcl : cs.length ≤ 2147483647) (hcs : ∀ x ∈ cs, x.toNat < 128) : OkR Tryd.prog G 22 [.p (.string (txt s)), .p (.string (txt cs))] h (IxR s cs h) := by
  refine OkR_by Tryd.func22 c22_ok r22_ok 22 rfl ?_
  simp [c22, r22]
  refine VV_fam (fun x : Nat × List Blk => ⟨fr 24 [(0, .p (.string (txt s))), (1, .p (.string (txt cs))), (10, .it h.length)], h ++ .sit (txt s) x.1 :: x.2⟩)
    (fun x => ∀ a c b, s = a ++ c :: b → (∀ x ∈ a, x.toNat < 128) → c ∈ cs → x.1 ≤ a.length) (fun x => s.length - x.1) (0, []) (by intros; simp) (Wk.fitsE (by simp) (by simp)) ?_
  rintro ⟨pos, jk⟩ hinv B hb he hr
  simp only at hinv
  simp
  refine ⟨fun hlt => ?_, fun hge => ?_⟩
  · generalize hdec : Utf8.decode (txt s) pos = dc
    obtain ⟨rv, rn⟩ := dc
    have hrn : 1 ≤ rn := by have := dec_pos (txt s) pos; rw [hdec] at this; exact this
    simp
    refine VV_fam (fun k : Nat => ⟨fr 24 [(0, .p (.string (txt s))), (1, .p (.string (txt cs))), (5, .p (.int .i64 pos)), (6, .p (.int .i32 rv)), (10, .it h.length), (16, .it (h.length + (jk.length + 1)))], h ++ .sit (txt s) (pos + rn) :: (jk ++ [.sit (txt cs) k])⟩)
      (fun k => ∀ j (hj : j < cs.length), j < k → cs[j].toNat ≠ rv) (fun k => cs.length - k) 0 (by intros; omega) (Wk.fitsE (by simp) (by simp)) ?_
    intro k hk B2 hb2 he2 hr2
    simp
    refine ⟨fun hlt2 => ?_, fun hge2 => ?_⟩
    · have hk8 := hcs cs[k] (List.getElem_mem _)
      have hd2 := dec_ascii hlt2 hk8
      simp [hd2]
      refine CC_by (fun h3 => ?_) (fun h3 => ?_)
      · have h3 : rv = cs[k].toNat := by
          have : (rv : Int) = (cs[k].toNat : Int) := by simpa using h3
          omega
        simp
        refine hr2 _ ?_
        simp
        refine hr _ ?_
        simp
        refine REr_by _ _ .refl ?_
        refine ⟨by simp, _, rfl, fun _ _ _ _ _ _ => by omega, fun hall => ?_⟩
        have h4 : (Utf8.decode (txt s) pos).1 < 128 := by rw [hdec]; simp only; omega
        have h5 := dec_one hlt h4
        rw [hdec] at h5
        simp only at h5
        have h6 : s[pos] = cs[k] := UInt8.toNat_inj.1 (by omega)
        exact absurd (h6 ▸ List.getElem_mem hlt2) (hall _ (List.getElem_mem _)).2
      · have h3 : rv ≠ cs[k].toNat := by
          intro e
          simp [e] at h3
        simp
        refine hb2 _ (k + 1) (Wk.fitsE (by simp) (by simp)) (fun j hj hjk => ?_) (by omega)
        rcases Nat.lt_or_ge j k with h | h
        · exact hk j hj h
        · obtain rfl : j = k := by omega
          exact fun e => h3 e.symm
    · refine he2 _ _ ?_
      simp
      refine hb _ (pos + rn, jk ++ [.sit (txt cs) k]) (Wk.fitsE (by simp) (by simp)) (fun a c b hs ha hc => ?_) (by omega)
      have h1 := hinv a c b hs ha hc
      have hsp : s.length = a.length + (b.length + 1) := by rw [hs]; simp
      have hc8 := hcs c hc
      have hp8 : s[pos].toNat < 128 := by
        rcases Nat.lt_or_ge pos a.length with h | h
        · have : s[pos] = a[pos] := by simp only [hs, List.getElem_append_left h]
          rw [this]
          exact ha _ (List.getElem_mem _)
        · obtain rfl : pos = a.length := by omega
          have : s[a.length] = c := by simp only [hs]; simp
          rw [this]; exact hc8
      have hd := dec_ascii hlt hp8
      rw [hdec] at hd
      cases hd
      rcases Nat.lt_or_ge pos a.length with h | h
      · exact h
      · obtain rfl : pos = a.length := by omega
        have h7 : s[a.length] = c := by simp only [hs]; simp
        obtain ⟨j, hj, e⟩ := List.getElem_of_mem hc
        exact absurd (by rw [e, h7]) (hk j hj (by omega))
  · refine he _ _ ?_
    simp
    refine REr_by _ _ .refl ?_
    refine ⟨by simp, _, rfl, fun a c b hs ha hc => ?_, fun _ => rfl⟩
    have h1 := hinv a c b hs ha hc
    have hsp : s.length = a.length + (b.length + 1) := by rw [hs]; simp
    omega

/-- Whether a text has one of some signs: what is told of it. -/
def HasR (s cs : List UInt8) (h : List Blk) (v : DV) (h' : List Blk) : Prop := HPre h h' ∧ ∃ b : Bool, v = .p (.bool b) ∧ (∀ a c t, s = a ++ c :: t → (∀ x ∈ a, x.toNat < 128) → c ∈ cs → b = true) ∧ ((∀ x ∈ s, x.toNat < 128 ∧ x ∉ cs) → b = false)
theorem ok16 {G : Nat → DV} (h : List Blk) (s cs : List UInt8) (hl : s.length ≤ 2147483647) (hcl : cs.length ≤ 2147483647) (hcs : ∀ x ∈ cs, x.toNat < 128) :
    OkR Tryd.prog G 16 [.p (.string (txt s)), .p (.string (txt cs))] h (HasR s cs h) := by
  refine OkR_by Tryd.func16 c16_ok r16_ok 7 rfl ?_
  simp [c16, r16]
  refine FF_byR (ok22 h s cs hl hcl hcs) ?_
  rintro v h' ⟨hp, r, rfl, h1, h2⟩
  simp
  refine REr_by _ _ .refl ⟨hp, _, rfl, fun a c t hs ha hc => ?_, fun hall => ?_⟩
  · have := h1 a c t hs ha hc
    simpa using this
  · have := h2 hall
    subst this
    rfl
end Go.Proofs.YtbbafeocmchlnaaDoor
