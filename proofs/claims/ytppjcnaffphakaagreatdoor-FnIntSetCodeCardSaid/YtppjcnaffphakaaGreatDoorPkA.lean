/- MessagePack: the ways of numbers and heads, and how they are read. -/
import Derived.Test.YtppjcnaffphakaaGreatDoorLibE
set_option linter.unusedVariables false
set_option linter.unusedSimpArgs false
set_option maxRecDepth 100000
namespace Go.Proofs.YtppjcnaffphakaaGreatDoor
open Go Go.Den

/-- A number of bytes, the highest first. -/
def be (l : List UInt8) : Nat := l.foldl (fun n c => n * 256 + c.toNat) 0
/-- The lowest k bytes of a number, the highest first. -/
def beB : Nat → Nat → List UInt8
  | 0, _ => []
  | k + 1, n => beB k (n / 256) ++ [UInt8.ofNat n]
theorem be_push (l : List UInt8) (c : UInt8) : be (l ++ [c]) = be l * 256 + c.toNat := by simp [be]
@[simp] theorem beB_length : ∀ (k n : Nat), (beB k n).length = k
  | 0, _ => rfl
  | k + 1, n => by simp [beB, beB_length k]
theorem be_beB : ∀ (k n : Nat), be (beB k n) = n % 256 ^ k
  | 0, n => by simp [beB, be, Nat.mod_one]
  | k + 1, n => by
    rw [beB, be_push, be_beB k]
    have e : (UInt8.ofNat n).toNat = n % 256 := by simp
    rw [e, Nat.pow_succ, Nat.mul_comm (256 ^ k) 256, Nat.mod_mul, Nat.mul_comm, Nat.add_comm]
theorem be_lt : ∀ (l : List UInt8), be l < 256 ^ l.length := by
  intro l
  suffices h : ∀ (l : List UInt8) (a : Nat), l.foldl (fun n c => n * 256 + c.toNat) a < (a + 1) * 256 ^ l.length by
    have := h l 0
    simpa [be] using this
  intro l
  induction l with
  | nil => intro a; simp
  | cons c l ih =>
    intro a
    have h1 := ih (a * 256 + c.toNat)
    have h2 := c.toNat_lt
    simp only [List.foldl_cons, List.length_cons, Nat.pow_succ]
    refine Nat.lt_of_lt_of_le h1 ?_
    rw [Nat.mul_comm (256 ^ l.length) 256, ← Nat.mul_assoc]
    exact Nat.mul_le_mul_right _ (by omega)

theorem pow_lits : (256 : Nat) ^ 1 = 256 ∧ (256 : Nat) ^ 2 = 65536 ∧ (256 : Nat) ^ 4 = 4294967296 ∧ (256 : Nat) ^ 8 = 18446744073709551616 := by decide
/-- A number of k bytes is read. -/
def numD (k : Nat) (r : List UInt8) : Option (Nat × List UInt8) := if r.length < k then none else some (be (r.take k), r.drop k)
theorem numD_lt {k : Nat} {r : List UInt8} {n : Nat} {r' : List UInt8} (h : numD k r = some (n, r')) : n < 256 ^ k ∧ r'.length + k = r.length := by
  unfold numD at h
  split at h
  · cases h
  · cases h
    have := be_lt (r.take k)
    rw [List.length_take, Nat.min_eq_left (by omega)] at this
    exact ⟨this, by simp; omega⟩
theorem Ex_num (k n : Nat) : Ex (numD k) (beB k n) (n % 256 ^ k) := by
  refine ⟨fun rest => ?_, fun p hp hl => ?_⟩
  · unfold numD
    rw [if_neg (by simp)]
    rw [List.take_append_of_le_length (by simp), List.take_of_length_le (by simp), be_beB, List.drop_append_of_le_length (by simp), List.drop_of_length_le (by simp)]
    rfl
  · unfold numD
    rw [if_pos (by simpa using hl)]
theorem Ex_map {α β : Type} {d : List UInt8 → Option (α × List UInt8)} {w : List UInt8} {v : α} (h : Ex d w v) (f : α → β) : Ex (fun r => (d r).map fun x => (f x.1, x.2)) w (f v) :=
  ⟨fun rest => by simp [h.out], fun p hp hl => by simp [h.cut p hp hl]⟩
/-- One byte ahead. -/
theorem Ex_byte {α : Type} {d : List UInt8 → Option (α × List UInt8)} {d1 : List UInt8 → Option (α × List UInt8)} {w : List UInt8} {v : α} {c : UInt8} (h : Ex d1 w v) (h0 : d [] = none) (hc : ∀ r, d (c :: r) = d1 r) : Ex d (c :: w) v := by
  refine ⟨fun rest => by rw [List.cons_append, hc, h.out], fun p hp hl => ?_⟩
  cases p with
  | nil => exact h0
  | cons x p =>
    obtain ⟨t, ht⟩ := hp
    simp only [List.cons_append, List.cons.injEq] at ht
    obtain ⟨rfl, ht⟩ := ht
    rw [hc]
    exact h.cut p ⟨t, ht⟩ (by simpa using hl)
theorem Ex_done {α : Type} {v : α} : Ex (fun r => some (v, r)) [] v := ⟨fun _ => rfl, fun p _ h => absurd h (by simp)⟩

/-- One part, then what follows from it. -/
def bindD {α β : Type} (d : List UInt8 → Option (α × List UInt8)) (d2 : α → List UInt8 → Option (β × List UInt8)) (r : List UInt8) : Option (β × List UInt8) :=
  match d r with
  | some x => d2 x.1 x.2
  | none => none
theorem Ex_bind {α β : Type} {d : List UInt8 → Option (α × List UInt8)} {d2 : α → List UInt8 → Option (β × List UInt8)} {w W : List UInt8} {v : α} {u : β} (h : Ex d w v) (h' : Ex (d2 v) W u) : Ex (bindD d d2) (w ++ W) u := by
  refine ⟨fun rest => ?_, fun p hp hl => ?_⟩
  · simp only [bindD, List.append_assoc, h.out, h'.out]
  · rcases Nat.lt_or_ge p.length w.length with h1 | h1
    · have : p <+: w := List.prefix_of_prefix_length_le hp (List.prefix_append _ _) (Nat.le_of_lt h1)
      simp only [bindD, h.cut p this h1]
    · have hw : w <+: p := List.prefix_of_prefix_length_le (List.prefix_append _ _) hp h1
      obtain ⟨q, rfl⟩ := hw
      simp only [bindD, h.out]
      have hq : q <+: W := by
        obtain ⟨t, ht⟩ := hp
        rw [List.append_assoc] at ht
        exact ⟨t, List.append_cancel_left ht⟩
      exact h'.cut q hq (by simp at hl; omega)

/-- The head of a list. -/
def readArr : List UInt8 → Option (Nat × List UInt8)
  | [] => none
  | c :: r => if c.toNat / 16 = 9 then some (c.toNat % 16, r) else if c.toNat = 220 then numD 2 r else if c.toNat = 221 then numD 4 r else none
/-- A number with a sign, of so many bits. -/
def sext (k n : Nat) : Int := if n < 2 ^ (k - 1) then n else (n : Int) - (2 ^ k : Nat)
def readInt : List UInt8 → Option (Int × List UInt8)
  | [] => none
  | c :: r => if c.toNat < 128 then some ((c.toNat : Int), r) else if 224 ≤ c.toNat then some ((c.toNat : Int) - 256, r)
    else if 204 ≤ c.toNat ∧ c.toNat ≤ 207 then bindD (numD (2 ^ (c.toNat - 204))) (fun n r => if n < 9223372036854775808 then some ((n : Int), r) else none) r
    else if 208 ≤ c.toNat ∧ c.toNat ≤ 211 then (numD (2 ^ (c.toNat - 208)) r).map fun x => (sext (8 * 2 ^ (c.toNat - 208)) x.1, x.2)
    else none
/-- A text's bytes. -/
def takeD (n : Nat) (r : List UInt8) : Option (List UInt8 × List UInt8) := if r.length < n then none else some (r.take n, r.drop n)
def readStr : List UInt8 → Option (List UInt8 × List UInt8)
  | [] => none
  | c :: r => if c.toNat / 32 = 5 then takeD (c.toNat % 32) r
    else if 217 ≤ c.toNat ∧ c.toNat ≤ 219 then bindD (numD (2 ^ (c.toNat - 217))) takeD r
    else none
/-- So many, one behind the other. -/
def readN {α : Type} (d : List UInt8 → Option (α × List UInt8)) : Nat → List UInt8 → Option (List α × List UInt8)
  | 0, r => some ([], r)
  | n + 1, r => bindD d (fun x r => (readN d n r).map fun y => (x :: y.1, y.2)) r
def readMsg {α : Type} (d : List UInt8 → Option (α × List UInt8)) (b : List UInt8) : Option (List α × List UInt8) := bindD readArr (readN d) b

theorem Ex_take (l : List UInt8) : Ex (takeD l.length) l l := by
  refine ⟨fun rest => ?_, fun p hp hl => ?_⟩
  · simp [takeD]
  · simp [takeD, hl]
theorem Ex_readN {α : Type} {d : List UInt8 → Option (α × List UInt8)} : ∀ (l : List (List UInt8 × α)), (∀ x, x ∈ l → Ex d x.1 x.2) → Ex (readN d l.length) (l.map (·.1)).flatten (l.map (·.2))
  | [], _ => ⟨fun rest => rfl, fun p _ h => absurd h (by simp)⟩
  | x :: l, h => by
    have h1 := h x (by simp)
    have h2 := Ex_readN l fun y hy => h y (by simp [hy])
    have h3 : Ex (fun r => (readN d l.length r).map fun y => (x.2 :: y.1, y.2)) (l.map (·.1)).flatten (x.2 :: l.map (·.2)) := Ex_map h2 (x.2 :: ·)
    exact Ex_bind (d2 := fun v r => (readN d l.length r).map fun y => (v :: y.1, y.2)) h1 h3
theorem Ex_readMsg {α : Type} {d : List UInt8 → Option (α × List UInt8)} {hd : List UInt8} (l : List (List UInt8 × α)) (hh : Ex readArr hd l.length) (h : ∀ x, x ∈ l → Ex d x.1 x.2) : Ex (readMsg d) (hd ++ (l.map (·.1)).flatten) (l.map (·.2)) :=
  Ex_bind hh (Ex_readN l h)

/-- The ways of a head. -/
def heads (n few most : Nat) (wide : List (UInt8 × Nat)) : List (List UInt8) :=
  (if n ≤ most then [[UInt8.ofNat (few + n)]] else []) ++ wide.filterMap fun x => if 4 ≤ x.2 ∨ n < 256 ^ x.2 then some (x.1 :: beB x.2 n) else none
def nthWay (l : List (List UInt8)) (way : Nat) : List UInt8 := l[way % l.length]?.getD []
theorem nthWay_mem {l : List (List UInt8)} (h : l ≠ []) (way : Nat) : nthWay l way ∈ l := by
  have : way % l.length < l.length := Nat.mod_lt _ (List.length_pos_iff.2 h)
  unfold nthWay
  rw [List.getElem?_eq_getElem this]
  exact List.getElem_mem _
def headsL (n : Nat) : List (List UInt8) := heads n 144 15 [(220, 2), (221, 4)]
def headsT (n : Nat) : List (List UInt8) := heads n 160 31 [(217, 1), (218, 2), (219, 4)]
theorem headsL_ne (n : Nat) : headsL n ≠ [] := by simp [headsL, heads]
theorem headsT_ne (n : Nat) : headsT n ≠ [] := by simp [headsT, heads]
theorem Ex_headsL {n : Nat} (hn : n < 256) {w : List UInt8} (h : w ∈ headsL n) : Ex readArr w n := by
  simp only [headsL, heads, List.mem_append, List.mem_filterMap, List.mem_cons, List.not_mem_nil, or_false] at h
  rcases h with h | ⟨x, h1 | h1, h2⟩
  · split at h
    · rename_i hn
      have h := List.mem_singleton.1 h
      subst h
      refine Ex_byte (d1 := fun r => some (n, r)) Ex_done rfl fun r => ?_
      have e : (UInt8.ofNat (144 + n)).toNat = 144 + n := by rw [UInt8.toNat_ofNat']; omega
      simp only [readArr, e]
      rw [if_pos (by omega)]
      congr 2
      omega
    · simp at h
  · subst h1
    simp at h2
    obtain ⟨_, rfl⟩ := h2
    have := Ex_num 2 n
    rw [Nat.mod_eq_of_lt (by rw [pow_lits.2.1]; omega)] at this
    exact Ex_byte this rfl fun r => rfl
  · subst h1
    simp at h2
    subst h2
    have := Ex_num 4 n
    rw [Nat.mod_eq_of_lt (by rw [pow_lits.2.2.1]; omega)] at this
    exact Ex_byte this rfl fun r => rfl
theorem Ex_headsT {l : List UInt8} (hn : l.length < 256) {w : List UInt8} (h : w ∈ headsT l.length) : Ex readStr (w ++ l) l := by
  simp only [headsT, heads, List.mem_append, List.mem_filterMap, List.mem_cons, List.not_mem_nil, or_false] at h
  have key : ∀ k, l.length < 256 ^ k → Ex (bindD (numD k) takeD) (beB k l.length ++ l) l := fun k hk => by
    have := Ex_num k l.length
    rw [Nat.mod_eq_of_lt hk] at this
    exact Ex_bind this (Ex_take l)
  rcases h with h | ⟨x, h1 | h1 | h1, h2⟩
  · split at h
    · rename_i hn
      have h := List.mem_singleton.1 h
      subst h
      refine Ex_byte (Ex_take l) rfl fun r => ?_
      have e : (UInt8.ofNat (160 + l.length)).toNat = 160 + l.length := by rw [UInt8.toNat_ofNat']; omega
      simp only [readStr, e]
      rw [if_pos (by omega)]
      congr 1
      omega
    · simp at h
  · subst h1
    simp at h2
    obtain ⟨_, rfl⟩ := h2
    exact Ex_byte (key 1 (by rw [pow_lits.1]; omega)) rfl fun r => rfl
  · subst h1
    simp at h2
    obtain ⟨_, rfl⟩ := h2
    exact Ex_byte (key 2 (by rw [pow_lits.2.1]; omega)) rfl fun r => rfl
  · subst h1
    simp at h2
    subst h2
    exact Ex_byte (key 4 (by rw [pow_lits.2.2.1]; omega)) rfl fun r => rfl

/-- A number's 64 bits. -/
def u64 (n : Int) : Nat := (n % 18446744073709551616).toNat
/-- The ways of a number that are given behind so many rounds. -/
def candI (n : Int) : Nat → List (List UInt8)
  | 0 => if -32 ≤ n ∧ n < 128 then [[UInt8.ofNat (n % 256).toNat]] else []
  | i + 1 => candI n i ++ (if i = 3 ∨ (-(2 ^ (8 * 2 ^ i - 1) : Nat) ≤ n ∧ n < (2 ^ (8 * 2 ^ i - 1) : Nat)) then [UInt8.ofNat (208 + i) :: beB (2 ^ i) (u64 n)] else [])
      ++ (if 0 ≤ n ∧ (i = 3 ∨ n < (2 ^ (8 * 2 ^ i) : Nat)) then [UInt8.ofNat (204 + i) :: beB (2 ^ i) (u64 n)] else [])
theorem candI_ne (n : Int) : candI n 4 ≠ [] := by simp [candI]
theorem candI_length (n : Int) : ∀ i, (candI n i).length ≤ 1 + 2 * i
  | 0 => by simp [candI]; split <;> simp
  | i + 1 => by
    have := candI_length n i
    simp only [candI, List.length_append]
    split <;> split <;> simp <;> omega
theorem Ex_candI {n : Int} (hn : -9223372036854775808 ≤ n ∧ n ≤ 9223372036854775807) {w : List UInt8} (h : w ∈ candI n 4) : Ex readInt w n := by
  have us : ∀ (c : UInt8) (k : Nat) (hk : c.toNat = 204 ∧ k = 1 ∨ c.toNat = 205 ∧ k = 2 ∨ c.toNat = 206 ∧ k = 4 ∨ c.toNat = 207 ∧ k = 8), 0 ≤ n → u64 n % 256 ^ k = n.toNat → Ex readInt (c :: beB k (u64 n)) n := fun c k hk h0 he => by
    have h1 : Ex (bindD (numD k) (fun n r => if n < 9223372036854775808 then some ((n : Int), r) else none)) (beB k (u64 n)) n := by
      have h2 := Ex_num k (u64 n)
      rw [he] at h2
      have h3 : Ex (fun r => if n.toNat < 9223372036854775808 then some ((n.toNat : Int), r) else none) [] n := by
        have e : (fun r : List UInt8 => if n.toNat < 9223372036854775808 then some ((n.toNat : Int), r) else none) = fun r => some (n, r) := by
          funext r
          rw [if_pos (by omega), Int.toNat_of_nonneg h0]
        rw [e]
        exact Ex_done
      have := Ex_bind (α := Nat) (β := Int) (v := n.toNat) (d2 := fun n r => if n < 9223372036854775808 then some ((n : Int), r) else none) h2 h3
      rwa [List.append_nil] at this
    refine Ex_byte h1 rfl fun r => ?_
    simp only [readInt]
    rcases hk with ⟨hc, rfl⟩ | ⟨hc, rfl⟩ | ⟨hc, rfl⟩ | ⟨hc, rfl⟩ <;> simp [hc]
  have ss : ∀ (c : UInt8) (k : Nat) (hk : c.toNat = 208 ∧ k = 1 ∨ c.toNat = 209 ∧ k = 2 ∨ c.toNat = 210 ∧ k = 4 ∨ c.toNat = 211 ∧ k = 8), sext (8 * k) (u64 n % 256 ^ k) = n → Ex readInt (c :: beB k (u64 n)) n := fun c k hk he => by
    have h1 := Ex_map (Ex_num k (u64 n)) (fun x => sext (8 * k) x)
    rw [he] at h1
    refine Ex_byte h1 rfl fun r => ?_
    simp only [readInt]
    rcases hk with ⟨hc, rfl⟩ | ⟨hc, rfl⟩ | ⟨hc, rfl⟩ | ⟨hc, rfl⟩ <;> simp [hc]
  obtain ⟨p1, p2, p4, p8⟩ := pow_lits
  simp only [candI, List.mem_append] at h
  have e0 : (8 * 2 ^ 0 - 1 : Nat) = 7 := by decide
  have e1 : (8 * 2 ^ 1 - 1 : Nat) = 15 := by decide
  have e2 : (8 * 2 ^ 2 - 1 : Nat) = 31 := by decide
  have f0 : (8 * 2 ^ 0 : Nat) = 8 := by decide
  have f1 : (8 * 2 ^ 1 : Nat) = 16 := by decide
  have f2 : (8 * 2 ^ 2 : Nat) = 32 := by decide
  rw [e0, e1, e2, f0, f1, f2] at h
  have g7 : (2 : Nat) ^ 7 = 128 := by decide
  have g15 : (2 : Nat) ^ 15 = 32768 := by decide
  have g31 : (2 : Nat) ^ 31 = 2147483648 := by decide
  have g8 : (2 : Nat) ^ 8 = 256 := by decide
  have g16 : (2 : Nat) ^ 16 = 65536 := by decide
  have g32 : (2 : Nat) ^ 32 = 4294967296 := by decide
  have g63 : (2 : Nat) ^ 63 = 9223372036854775808 := by decide
  have g64 : (2 : Nat) ^ 64 = 18446744073709551616 := by decide
  rw [g7, g15, g31, g8, g16, g32] at h
  simp only [show (0 : Nat) = 3 ↔ False by decide, show (0 + 1 : Nat) = 3 ↔ False by decide, show (0 + 1 + 1 : Nat) = 3 ↔ False by decide, show (0 + 1 + 1 + 1 : Nat) = 3 ↔ True by decide, false_or, true_or, and_true, if_true] at h
  have S1 := ss 208 1 (by decide)
  have S2 := ss 209 2 (by decide)
  have S3 := ss 210 4 (by decide)
  have S4 := ss 211 8 (by decide)
  have U1 := us 204 1 (by decide)
  have U2 := us 205 2 (by decide)
  have U3 := us 206 4 (by decide)
  have U4 := us 207 8 (by decide)
  have hs : ∀ (k P Q : Nat) (hP : 2 ^ (8 * k - 1) = P) (hQ : 2 ^ (8 * k) = Q ∧ 256 ^ k = Q) (hPQ : P = 128 ∧ Q = 256 ∨ P = 32768 ∧ Q = 65536 ∨ P = 2147483648 ∧ Q = 4294967296 ∨ P = 9223372036854775808 ∧ Q = 18446744073709551616), -(P : Int) ≤ n ∧ n < P → sext (8 * k) (u64 n % 256 ^ k) = n := fun k P Q hP hQ hPQ hr => by
    rw [hQ.2]
    unfold sext
    rw [hP, hQ.1]
    unfold u64
    rcases hPQ with ⟨rfl, rfl⟩ | ⟨rfl, rfl⟩ | ⟨rfl, rfl⟩ | ⟨rfl, rfl⟩ <;> split <;> omega
  have hu : ∀ (k Q : Nat) (hQ : 256 ^ k = Q) (hPQ : Q = 256 ∨ Q = 65536 ∨ Q = 4294967296 ∨ Q = 18446744073709551616), 0 ≤ n → n < Q → u64 n % 256 ^ k = n.toNat := fun k Q hQ hPQ h0 hr => by
    rw [hQ]
    unfold u64
    rcases hPQ with rfl | rfl | rfl | rfl <;> omega
  have one : ∀ {c : Prop} [Decidable c] {x : List UInt8}, (w ∈ if c then [x] else []) → c ∧ w = x := fun {c} _ {x} h => by
    split at h
    · rename_i hc; exact ⟨hc, by simpa using h⟩
    · simp at h
  rcases h with ((((((((h | h) | h) | h) | h) | h) | h) | h) | h)
  · obtain ⟨⟨h1, h2⟩, rfl⟩ := one h
    have e : (UInt8.ofNat (n % 256).toNat).toNat = (n % 256).toNat := by rw [UInt8.toNat_ofNat']; omega
    refine Ex_byte (d1 := fun r => some (n, r)) Ex_done rfl fun r => ?_
    simp only [readInt, e]
    by_cases h0 : 0 ≤ n
    · rw [if_pos (by omega)]; congr 2; omega
    · rw [if_neg (by omega), if_pos (by omega)]; congr 2; omega
  · obtain ⟨h1, rfl⟩ := one h
    exact S1 (hs 1 128 256 (by decide) (by decide) (by decide) (by omega))
  · obtain ⟨⟨h0, h1⟩, rfl⟩ := one h
    exact U1 h0 (hu 1 256 (by decide) (by decide) h0 (by omega))
  · obtain ⟨h1, rfl⟩ := one h
    exact S2 (hs 2 32768 65536 (by decide) (by decide) (by decide) (by omega))
  · obtain ⟨⟨h0, h1⟩, rfl⟩ := one h
    exact U2 h0 (hu 2 65536 (by decide) (by decide) h0 (by omega))
  · obtain ⟨h1, rfl⟩ := one h
    exact S3 (hs 4 2147483648 4294967296 (by decide) (by decide) (by decide) (by omega))
  · obtain ⟨⟨h0, h1⟩, rfl⟩ := one h
    exact U3 h0 (hu 4 4294967296 (by decide) (by decide) h0 (by omega))
  · have h := List.mem_singleton.1 h
    subst h
    exact S4 (hs 8 9223372036854775808 18446744073709551616 (by decide) (by decide) (by decide) (by omega))
  · obtain ⟨h0, rfl⟩ := one h
    exact U4 h0 (hu 8 18446744073709551616 (by decide) (by decide) h0 (by omega))
end Go.Proofs.YtppjcnaffphakaaGreatDoor
