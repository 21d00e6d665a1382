/- The reader: numbers (turned from another seat by mkpe.py) -/
import Derived.Test.YtdgnjngbheecnaaDoorRdB
import Derived.Test.YtdgnjngbheecnaaDoorUvA
set_option linter.unusedVariables false
set_option linter.unusedSimpArgs false
set_option maxRecDepth 100000
namespace Go.Proofs.YtdgnjngbheecnaaDoor
open Go Go.Den Go.Proofs



theorem rdU_uv : ∀ (k : Nat) (a n i : Nat) (rest : List UInt8), i + k = 9 → n < 2 ^ (64 - 7 * i) → rdU (k + 1) a (uv n ++ rest) = some (a + n * 2 ^ (7 * i), rest) := by
  intro k
  induction k with
  | zero =>
    intro a n i rest hi hn
    have : i = 9 := by omega
    subst this
    have hn2 : n < 2 := by simpa using hn
    rw [uv_lt (by omega)]
    have ht : (UInt8.ofNat n).toNat = n := by simp; omega
    simp only [List.cons_append, List.nil_append, rdU, ht]
    rw [if_pos (by omega), if_neg (by omega)]
  | succ k ih =>
    intro a n i rest hi hn
    have hki : 9 - (k + 1) = i := by omega
    by_cases h1 : n < 128
    · rw [uv_lt h1]
      have ht : (UInt8.ofNat n).toNat = n := by simp; omega
      simp only [List.cons_append, List.nil_append, rdU, ht]
      rw [if_pos h1, if_neg (by omega), hki]
    · rw [uv_ge (by omega)]
      have ht : (UInt8.ofNat (n % 128 + 128)).toNat = n % 128 + 128 := by simp; omega
      simp only [List.cons_append, rdU, ht]
      rw [if_neg (by omega), hki, show n % 128 + 128 - 128 = n % 128 by omega]
      have hp : 2 ^ (64 - 7 * i) = 2 ^ (64 - 7 * (i + 1)) * 128 := by
        have : 64 - 7 * i = (64 - 7 * (i + 1)) + 7 := by omega
        rw [this, Nat.pow_add]
      rw [ih _ (n / 128) (i + 1) rest (by omega) (by rw [hp] at hn; omega)]
      congr 2
      have e : 2 ^ (7 * (i + 1)) = 128 * 2 ^ (7 * i) := by rw [show 7 * (i + 1) = 7 * i + 7 by omega, Nat.pow_add, Nat.mul_comm]
      rw [e, Nat.add_assoc, ← Nat.mul_assoc, ← Nat.add_mul]
      congr 2
      omega
theorem rdU_cut : ∀ (k : Nat) (a n : Nat) (p : List UInt8), p <+: uv n → p.length < (uv n).length → rdU k a p = none := by
  intro k
  induction k with
  | zero => intro a n p _ _; rfl
  | succ k ih =>
    intro a n p hp hl
    cases p with
    | nil => rfl
    | cons c p =>
      by_cases h1 : n < 128
      · rw [uv_lt h1] at hl; simp at hl
      · rw [uv_ge (by omega)] at hp hl
        obtain ⟨rfl, hp2⟩ := List.cons_prefix_cons.1 hp
        have ht : (UInt8.ofNat (n % 128 + 128)).toNat = n % 128 + 128 := by simp; omega
        simp only [rdU, ht]
        rw [if_neg (by omega)]
        exact ih _ _ p hp2 (by simpa using hl)
theorem rdU_len : ∀ (k : Nat) (a : Nat) (r : List UInt8) (x : Nat × List UInt8), rdU k a r = some x → x.2.length ≤ r.length := by
  intro k
  induction k with
  | zero => intro a r x h; cases h
  | succ k ih =>
    intro a r x h
    cases r with
    | nil => cases h
    | cons c r =>
      simp only [rdU] at h
      split at h
      · split at h
        · cases h
        · cases h; simp
      · have := ih _ _ _ h
        simp; omega

def dU : Dec := fun r => (rdU 10 0 r).map fun x => (.int .u64 x.1, x.2)
def dB : Dec := fun r => match r with
  | [] => none
  | c :: r => if c.toNat = 1 then some (.bool true, r) else if c.toNat = 0 then some (.bool false, r) else none
theorem dU_len {r : List UInt8} {x : Value} {r' : List UInt8} (h : dU r = some (x, r')) : r'.length ≤ r.length := by
  unfold dU at h
  obtain ⟨y, h1, h2⟩ := Option.map_eq_some_iff.1 h
  have := rdU_len _ _ _ _ h1
  cases h2
  exact this
theorem dB_len {r : List UInt8} {x : Value} {r' : List UInt8} (h : dB r = some (x, r')) : r'.length ≤ r.length := by
  unfold dB at h
  split at h
  · cases h
  · split at h
    · cases h; simp
    · split at h
      · cases h; simp
      · cases h
theorem ex_dU (n : Nat) (hn : n < B64) : Ex dU (uv n) (.int .u64 n) :=
  ⟨fun rest => by unfold dU; rw [rdU_uv 9 0 n 0 rest (by omega) (by simpa [B64] using hn)]; simp, fun p hp hl => by unfold dU; rw [rdU_cut _ _ _ _ hp hl]; rfl⟩
def yn (b : Bool) : List UInt8 := [if b = true then 1 else 0]
theorem ex_dB (b : Bool) : Ex dB (yn b) (.bool b) := by
  refine ⟨fun rest => by cases b <;> simp [yn, dB], fun p hp hl => ?_⟩
  have : p = [] := List.eq_nil_of_length_eq_zero (by simp [yn] at hl; exact hl ▸ rfl)
  subst this
  rfl

/-- A value is read, or an error is told. -/
def RdOutV (h : List Blk) (R : Rd) (z : Value) (o : Option (Value × List UInt8)) (v : DV) (h' : List Blk) : Prop :=
  match o with
  | some (d, r) => v = .tup [.p d, .p .nilIface] ∧ ∃ R' l', RdS h' R' r l' ∧ RdK h h' R R'
  | none => (∃ x, v = .tup [.p z, .iface 170 x]) ∧ ∃ R' r' l', RdS h' R' r' l' ∧ RdK h h' R R'

theorem ok119' {G : Nat → DV} (h : List Blk) (R : Rd) (r l : List UInt8) (rb : Nat) (hrb : R.rb = rb) (hr : r.length < 140737488355328) (s : RdS h R r l) : OkR Tryd.prog G 119 [.ptr rb 0 0 1] h (RdOutV h R (.int .u64 0) (dU r)) := by
  subst hrb
  refine (ok119 h R r l hr s).mono fun v h' ho => ?_
  unfold dU
  cases hU : rdU 10 0 r with
  | none => rw [hU] at ho; exact ho
  | some x => rw [hU] at ho; exact ho

theorem ok62' {G : Nat → DV} (h : List Blk) (R : Rd) (r l : List UInt8) (rb : Nat) (hrb : R.rb = rb) (hr : r.length < 140737488355328) (s : RdS h R r l) : OkR Tryd.prog G 62 [.ptr rb 0 0 1] h (RdOutV h R (.bool false) (dB r)) := by
  subst hrb
  refine OkR_by Tryd.func62 c62_ok r62_ok 23 rfl ?_
  simp [c62, r62]
  cases r with
  | nil =>
    refine FF_byR (ok142e h R l s) ?_
    rintro v h1 ⟨⟨x, rfl⟩, R1, r1, l1, s1, k1⟩
    simp
    refine FF_by (ok84 _ _ _ _) ?_
    simp
    exact REr_by _ _ .refl ⟨⟨_, rfl⟩, R1, r1, l1, s1.push, k1.trans .push⟩
  | cons c r =>
    refine FF_byR (ok89 h R c r l (by simp at hr; omega) s) ?_
    rintro v h1 ⟨rfl, R1, s1, k1⟩
    simp [byteD]
    refine CC_by (fun hc => ?_) (fun hc => ?_)
    · have hc : c.toNat = 1 := by simp at hc; omega
      simp
      refine REr_by _ _ .refl ?_
      simp only [dB, hc, if_true]
      exact ⟨rfl, R1, [c], s1, k1⟩
    · have hc : ¬ c.toNat = 1 := by simp at hc; omega
      simp
      refine CC_by (fun hc2 => ?_) (fun hc2 => ?_)
      · have hc2 : c.toNat = 0 := by simp at hc2; simp [hc2]
        simp
        refine REr_by _ _ .refl ?_
        simp only [dB, hc2, if_true]
        exact ⟨rfl, R1, [c], s1, k1⟩
      · have hc2 : ¬ c.toNat = 0 := by simp at hc2; exact hc2
        simp
        refine FF_by (ok90 _ _ _) ?_
        simp
        refine REr_by _ _ .refl ?_
        simp only [dB, hc, hc2, if_false]
        exact ⟨⟨_, rfl⟩, R1, r, [c], s1.push, k1.trans .push⟩

theorem ok27 {G : Nat → DV} (h : List Blk) (R : Rd) (r l : List UInt8) (s : RdS h R r l) : Ok Tryd.prog G 27 [.ptr R.rb 0 0 1] h (.p (.int .i64 r.length)) h := by
  refine Ok_by Tryd.func27 c27_ok r27_ok 7 rfl ?_
  rcases s.d with ⟨hd, rfl⟩ | ⟨db, i, D, hd, hdb, hD⟩ <;> simp [c27, r27, s.rb, hd]

/-- A new reader's blocks. -/
def rdBs (n : Nat) (D : List UInt8) : List Blk := [.cells 1 (bts D), .cells 1 [.agg [.p (.slice none 0 0)]], .cells 2 [.agg [.sl n 0 D.length D.length, .ptr (n + 1) 0 0 1]]]
def rdNew (n : Nat) (D : List UInt8) : Rd := ⟨n + 2, n + 1, .sl n 0 D.length D.length, .p (.slice none 0 0)⟩
theorem rdNew_s (h : List Blk) (D : List UInt8) : RdS (h ++ rdBs h.length D) (rdNew h.length D) D [] := by
  refine ⟨?_, ?_, .inr ⟨h.length, 0, D, rfl, ?_, rfl⟩, .inl ⟨rfl, rfl⟩, ?_, fun h => h, fun h => h, ?_⟩
  · simp [rdBs, rdNew]
  · simp [rdBs, rdNew]
  · simp [rdBs]
  · simp [rdNew]
  · intro i hi
    simp only [rdNew, inBlk] at hi
    subst hi
    simp [Rd.own, rdNew, inSa]
theorem ok44 {G : Nat → DV} (h : List Blk) (b i n x : Nat) : Ok Tryd.prog G 44 [.sl b i n x] h (.ptr (h.length + 1) 0 0 1) (h ++ [.cells 1 [.agg [.p (.slice none 0 0)]], .cells 2 [.agg [.sl b i n x, .ptr h.length 0 0 1]]]) := by
  refine Ok_by Tryd.func44 c44_ok r44_ok 7 rfl ?_
  simp [c44, r44]
  exact .refl
theorem ok24 {G : Nat → DV} (h : List Blk) (D : List UInt8) : Ok Tryd.prog G 24 [.p (.string (txt D))] h (.ptr (h.length + 2) 0 0 1) (h ++ rdBs h.length D) := by
  refine Ok_by Tryd.func24 c24_ok r24_ok 5 rfl ?_
  simp [c24, r24]
  refine FF_by (ok44 _ h.length 0 D.length D.length) ?_
  simp [rdBs]
  exact .refl

end Go.Proofs.YtdgnjngbheecnaaDoor
