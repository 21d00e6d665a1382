/- Domains: what the code and the reference say of a host. -/
import Derived.Test.YtbbafeocmchlnaaDoorDmE
import Derived.Test.YtbbafeocmchlnaaDoorDmF
set_option linter.unusedVariables false
set_option linter.unusedSimpArgs false
set_option maxRecDepth 100000
namespace Go.Proofs.YtbbafeocmchlnaaDoor
open Go Go.Den Go.Proofs

/-- A sign of a plain host; a sign that no host has. -/
def okc (c : UInt8) : Bool := small c || (c == 45 || c == 46)
def badc (c : UInt8) : Bool := decide (33 ≤ c.toNat) && (decide (c.toNat < 127) && (!small c && (c != 45 && (c != 46 && (c != 95 && (c != 44 && (decide (c.toNat < 65) || decide (90 < c.toNat))))))))
def badL : List UInt8 := [96, 126, 33, 64, 35, 36, 37, 94, 38, 42, 40, 41, 43, 61, 123, 125, 91, 93, 124, 92, 34, 39, 59, 58, 62, 60, 63, 47]
theorem bad_in : ∀ n : Fin 256, badc (UInt8.ofNat n.val) = true → UInt8.ofNat n.val ∈ badL := by decide +kernel
theorem badc_in (c : UInt8) (h : badc c = true) : c ∈ badL := by
  have := bad_in ⟨c.toNat, c.toNat_lt⟩
  simpa using this (by simpa using h)
theorem ok_out : ∀ n : Fin 256, okc (UInt8.ofNat n.val) = true → UInt8.ofNat n.val ∉ badL ∧ UInt8.ofNat n.val ≠ 95 ∧ 33 ≤ n.val ∧ n.val < 128 := by decide +kernel
theorem okc_out (c : UInt8) (h : okc c = true) : c ∉ badL ∧ c ≠ 95 ∧ 33 ≤ c.toNat ∧ c.toNat < 128 := by
  have := ok_out ⟨c.toNat, c.toNat_lt⟩
  simpa using this (by simpa using h)
theorem badL_ascii : ∀ x ∈ badL, x.toNat < 128 := by decide
theorem okc_bh {c : UInt8} (h : okc c = true) : ¬ bh c := by
  obtain ⟨_, _, h1, h2⟩ := okc_out c h
  rintro (h3 | h3) <;> omega
theorem badc_bh {c : UInt8} (h : badc c = true) : ¬ bh c := by
  simp only [badc, Bool.and_eq_true, decide_eq_true_eq] at h
  rintro (h3 | h3) <;> omega

/-- No domain, by the reference; a domain, by it. -/
def NoD (s : List UInt8) : Prop := s = [] ∨ s.head? = some 45 ∨ s.head? = some 46 ∨ s.getLast? = some 45 ∨ ∃ a c b, s = a ++ c :: b ∧ (∀ x ∈ a, okc x = true) ∧ badc c = true
def YesD (s : List UInt8) : Prop := s ≠ [] ∧ s.head? ≠ some 45 ∧ s.head? ≠ some 46 ∧ s.getLast? ≠ some 45 ∧ (∀ x ∈ s, okc x = true) ∧ s.length ≤ 253

theorem yes_trim {s p m q : List UInt8} (hs : s = p ++ (m ++ q)) (hp : ∀ x ∈ p, bh x) (hq : ∀ x ∈ q, bh x) (h : YesD s) : s = m := by
  obtain ⟨_, _, _, _, h5, _⟩ := h
  have hp0 : p = [] := List.eq_nil_iff_forall_not_mem.2 fun x hx => okc_bh (h5 x (by rw [hs]; simp [hx])) (hp x hx)
  have hq0 : q = [] := List.eq_nil_iff_forall_not_mem.2 fun x hx => okc_bh (h5 x (by rw [hs]; simp [hx])) (hq x hx)
  rw [hs, hp0, hq0]
  simp
theorem no_trim {s p m q : List UInt8} (hs : s = p ++ (m ++ q)) (hp : ∀ x ∈ p, bh x) (hq : ∀ x ∈ q, bh x) (h : NoD s) : NoD m := by
  rcases List.eq_nil_or_concat m with hm | ⟨m0, l, hm⟩
  · exact .inl hm
  have hmne : m ≠ [] := by rw [hm]; simp
  have b45 : ¬ bh 45 := by rintro (h | h) <;> simp at h
  have b46 : ¬ bh 46 := by rintro (h | h) <;> simp at h
  have head : ∀ c, s.head? = some c → ¬ bh c → m.head? = some c := by
    intro c hc hb
    rcases p with _ | ⟨x, p⟩
    · rcases m with _ | ⟨y, m⟩
      · exact absurd rfl hmne
      · rw [hs] at hc
        simpa using hc
    · rw [hs] at hc
      have : x = c := by simpa using hc
      exact absurd (hp x (by simp)) (this ▸ hb)
  rcases h with h | h | h | h | ⟨a, c, b, h1, h2, h3⟩
  · rw [h] at hs
    have := congrArg List.length hs
    rw [hm] at this
    simp at this
  · exact .inr (.inl (head _ h b45))
  · exact .inr (.inr (.inl (head _ h b46)))
  · refine .inr (.inr (.inr (.inl ?_)))
    rcases List.eq_nil_or_concat q with hq0 | ⟨q0, x, hq0⟩
    · rw [hs, hq0, List.append_nil, hm] at h
      rw [hm]
      simpa using h
    · rw [hs, hq0] at h
      have : x = 45 := by simpa [← List.append_assoc] using h
      exact absurd (hq x (by rw [hq0]; simp)) (this ▸ b45)
  · refine .inr (.inr (.inr (.inr ?_)))
    have hp0 : p = [] := by
      rcases p with _ | ⟨x, p⟩
      · rfl
      · exfalso
        rw [h1] at hs
        rcases a with _ | ⟨y, a⟩
        · have : c = x := by simpa using (congrArg List.head? hs)
          exact badc_bh h3 (this ▸ hp x (by simp))
        · have : y = x := by simpa using (congrArg List.head? hs)
          exact okc_bh (h2 y (by simp)) (this ▸ hp x (by simp))
    rw [hp0, List.nil_append, h1] at hs
    rcases List.append_eq_append_iff.1 hs with ⟨x, e1, e2⟩ | ⟨x, e1, e2⟩
    · rcases x with _ | ⟨y, x⟩
      · simp at e2
        exact absurd (hq c (by rw [← e2]; simp)) (badc_bh h3)
      · simp at e2
        obtain ⟨rfl, e2⟩ := e2
        exact ⟨a, c, x, e1, h2, h3⟩
    · rcases q with _ | ⟨y, q⟩
      · simp at e2
      · cases x with
        | nil =>
          simp at e2
          exact absurd (hq c (by rw [e2.1]; simp)) (badc_bh h3)
        | cons z x =>
          simp at e2
          exact absurd (hq c (by rw [e2.2]; simp)) (badc_bh h3)

/-- A list of texts: what is told of it. -/
def PaR (s : List UInt8) (h : List Blk) (v : DV) (h' : List Blk) : Prop := h' = h ∧ ∃ l : List ByteArray, v = .fz 1 (strs l) ∧ l.length ≤ s.length + 1
theorem ok10 {G : Nat → DV} (h : List Blk) (s : List UInt8) (hl : s.length ≤ 2147483647) :
    OkR Tryd.prog G 10 [.p (.string (txt s)), .p (.int .u8 46)] h (PaR s h) := by
  refine OkR_by Tryd.func10 c10_ok r10_ok 32 rfl ?_
  simp [c10, r10]
  refine VV_fam (fun x : Nat × Nat × DV × List Blk × List ByteArray => ⟨fr 34 [(0, .p (.string (txt s))), (1, .p (.int .u8 46)), (5, x.2.2.1), (6, .p (.int .i64 x.2.1)), (9, .p (.int .i64 s.length)), (10, .p (.int .i64 x.1))], x.2.2.2.1⟩)
    (fun x => x.1 ≤ s.length ∧ x.2.1 ≤ x.1 ∧ x.2.2.2.2.length ≤ x.1 ∧ Own h 1 x.2.2.2.1 x.2.2.1 (strs x.2.2.2.2)) (fun x => s.length - x.1) (0, 0, .p (.slice none 0 0), h, []) ⟨by simp, by simp, by simp, by simpa using Own.nil⟩ (Wk.fits (by simp)) ?_
  rintro ⟨i, fm, d, h1, out⟩ ⟨hi, hf, ho1, ho⟩ B hb he hr
  simp only at hi hf ho1 ho
  rcases Nat.lt_or_ge i s.length with hi' | hi'
  · have hadd : IntKind.i64.wrap ((i : Int) + 1) = ((i + 1 : Nat) : Int) := wrap_succ hi' (by omega)
    have hg : s[i]? = some s[i] := List.getElem?_eq_getElem hi'
    have hfi : (fm : Int) ≤ (i : Int) := by omega
    have hil : (i : Int) ≤ (s.length : Int) := by omega
    have hil' : i ≤ s.length := by omega
    simp [hi', hg, byteD]
    refine CC_by (fun h3 => ?_) (fun h3 => ?_)
    · simp [hf, hil, hil', hfi]
      refine AA_lit1 ho (by simp; omega) ?_
      intro d2 h2 ho2 _ _
      simp [hadd]
      exact hb _ (i + 1, i + 1, d2, h2, out ++ [txt ((s.take i).drop fm)]) (Wk.fits (by simp)) ⟨by simp; omega, by simp, by simp; omega, by simpa [strs] using ho2⟩ (by simp; omega)
    · simp [hadd]
      exact hb _ (i + 1, fm, d, h1, out) (Wk.fits (by simp)) ⟨by omega, by simp; omega, by simp; omega, ho⟩ (by simp; omega)
  · obtain rfl : i = s.length := by omega
    simp
    refine he _ _ ?_
    simp [hf]
    refine AA_lit1 ho (by simp; omega) ?_
    intro d2 h2 ho2 _ _
    simp
    refine REr_by _ _ (ho2.wk (by rw [show strs out ++ [DV.p (.string (txt (s.drop fm)))] = strs (out ++ [txt (s.drop fm)]) by simp [strs]]; exact strs_plain)) ⟨rfl, out ++ [txt (s.drop fm)], by simp [strs], by simp; omega⟩
end Go.Proofs.YtbbafeocmchlnaaDoor
