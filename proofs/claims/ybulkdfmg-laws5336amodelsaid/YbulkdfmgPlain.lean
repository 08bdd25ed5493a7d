/- The plain mathematics of a crash's choice: which processes the bits of a set stand for. -/
namespace Go.Proofs.Ybulkdfmg

/-- The places below m whose bit is set in s. -/
def bitsL (s : Nat) : Nat → List Nat
  | 0 => []
  | m + 1 => bitsL s m ++ (if s / 2 ^ m % 2 = 1 then [m] else [])

/-- The process that bit i stands for, p left out. -/
def recvOf (p i : Nat) : Nat := if i + 1 < p then i + 1 else i + 2

/-- How many processes other than p are among the first k. -/
def cnt (p k : Nat) : Nat := if k < p then k else k - 1

theorem cnt_le (p k : Nat) : cnt p k ≤ k := by unfold cnt; split <;> omega
theorem cnt_at (p k : Nat) (h : k + 1 = p) : cnt p (k + 1) = cnt p k := by unfold cnt; rw [if_neg (by omega), if_pos (by omega)]; omega
theorem cnt_succ (p k : Nat) (hp : 1 ≤ p) (h : k + 1 ≠ p) : cnt p (k + 1) = cnt p k + 1 := by
  unfold cnt
  by_cases a : k < p
  · rw [if_pos a, if_pos (by omega)]
  · rw [if_neg a, if_neg (by omega)]; omega
theorem recv_cnt (p k : Nat) (hp : 1 ≤ p) (h : k + 1 ≠ p) : recvOf p (cnt p k) = k + 1 := by
  unfold recvOf cnt
  by_cases a : k < p
  · rw [if_pos a, if_pos (by omega)]
  · rw [if_neg a, if_neg (by omega)]; omega
theorem cnt_end (p n : Nat) (h : p ≤ n) : cnt p n = n - 1 := by unfold cnt; rw [if_neg (by omega)]

theorem bitsL_lt (s : Nat) : ∀ m i, i ∈ bitsL s m → i < m ∧ s / 2 ^ i % 2 = 1
  | 0, i, h => by simp [bitsL] at h
  | m + 1, i, h => by
    unfold bitsL at h
    rcases List.mem_append.1 h with h | h
    · have := bitsL_lt s m i h; exact ⟨by omega, this.2⟩
    · split at h
      · simp at h; subst h; exact ⟨by omega, by assumption⟩
      · simp at h
theorem bitsL_length (s : Nat) : ∀ m, (bitsL s m).length ≤ m
  | 0 => by simp [bitsL]
  | m + 1 => by
    have := bitsL_length s m
    unfold bitsL
    split <;> simp <;> omega

/-- The places before the j-th are the places below it. -/
theorem bitsL_take (s : Nat) : ∀ m j i, (bitsL s m)[j]? = some i → (bitsL s m).take j = bitsL s i
  | 0, j, i, h => by simp [bitsL] at h
  | m + 1, j, i, h => by
    have e : bitsL s (m + 1) = bitsL s m ++ (if s / 2 ^ m % 2 = 1 then [m] else []) := rfl
    rw [e] at h ⊢
    by_cases a : j < (bitsL s m).length
    · rw [List.getElem?_append_left a] at h
      rw [List.take_append_of_le_length (by omega)]
      exact bitsL_take s m j i h
    · rw [List.getElem?_append_right (by omega)] at h
      split at h
      · have hj : j - (bitsL s m).length = 0 := by
          have := (List.getElem?_eq_some_iff.1 h).1
          simp at this
          omega
        rw [hj] at h
        simp at h
        subst h
        have e2 : j = (bitsL s m).length := by omega
        rw [e2]
        exact List.take_left
      · simp at h

def sumL : List Nat → Nat
  | [] => 0
  | i :: l => 2 ^ i + sumL l
theorem sumL_append : ∀ (a b : List Nat), sumL (a ++ b) = sumL a + sumL b
  | [], b => by simp [sumL]
  | i :: a, b => by simp [sumL, sumL_append a b]; omega

theorem sum_bits (s : Nat) : ∀ m, sumL (bitsL s m) = s % 2 ^ m
  | 0 => by simp [bitsL, sumL, Nat.mod_one]
  | m + 1 => by
    unfold bitsL
    rw [sumL_append, sum_bits s m, Nat.pow_succ, Nat.mod_mul]
    split
    · rename_i h; rw [h]; simp [sumL]
    · rename_i h; have : s / 2 ^ m % 2 = 0 := by omega
      rw [this]; simp [sumL]

theorem recv_mono (p i j : Nat) (h : i < j) : recvOf p i < recvOf p j := by unfold recvOf; split <;> split <;> omega
theorem recv_ne (p i : Nat) : recvOf p i ≠ p := by unfold recvOf; split <;> omega
theorem recv_pos (p i : Nat) : 1 ≤ recvOf p i := by unfold recvOf; split <;> omega
theorem recv_le (p i n : Nat) (h : i + 1 < n) : recvOf p i ≤ n := by unfold recvOf; split <;> omega

/-- 'back |= 1 << i' where bit i of back is not set: an addition. -/
theorem or_bit (C L i m : Nat) (hi : i < m) (hL : L < 2 ^ i) : (C * 2 ^ m + L) ||| 2 ^ i = C * 2 ^ m + (L + 2 ^ i) := by
  obtain ⟨d, rfl⟩ : ∃ d, m = i + 1 + d := ⟨m - (i + 1), by omega⟩
  have e1 : C * 2 ^ (i + 1 + d) = 2 ^ (i + 1) * (C * 2 ^ d) := by rw [Nat.pow_add, Nat.mul_left_comm]
  have hlt : L + 2 ^ i < 2 ^ (i + 1) := by rw [Nat.pow_succ]; omega
  have hlt' : L < 2 ^ (i + 1) := by omega
  rw [e1, Nat.two_pow_add_eq_or_of_lt hlt', Nat.two_pow_add_eq_or_of_lt hlt, Nat.or_assoc]
  congr 1
  have := Nat.two_pow_add_eq_or_of_lt hL 1
  rw [Nat.mul_one] at this
  rw [Nat.or_comm, ← this, Nat.add_comm]
end Go.Proofs.Ybulkdfmg
