/-
  Digits and their values: plain facts. No Go in sight.
-/
namespace Go.Proofs.Qxb6600050a.Num

def isD (c : UInt8) : Bool := decide (48 ≤ c.toNat ∧ c.toNat ≤ 57)
/-- The value of a run of digits, begun at v. -/
def val : List UInt8 → Nat → Nat
  | [], v => v
  | c :: l, v => val l (10 * v + (c.toNat - 48))

theorem val_snoc : ∀ (l : List UInt8) (c : UInt8) (v : Nat), val (l ++ [c]) v = 10 * val l v + (c.toNat - 48)
  | [], c, v => rfl
  | d :: l, c, v => by simp only [List.cons_append, val]; exact val_snoc l c _
theorem val_append : ∀ (l m : List UInt8) (v : Nat), val (l ++ m) v = val m (val l v)
  | [], m, v => rfl
  | d :: l, m, v => by simp only [List.cons_append, val]; exact val_append l m _
theorem val_ge : ∀ (l : List UInt8) (v : Nat), v ≤ val l v
  | [], v => Nat.le_refl _
  | d :: l, v => Nat.le_trans (by omega) (val_ge l (10 * v + (d.toNat - 48)))
/-- val l v = v * 10 ^ length + val l 0 -/
theorem val_shift : ∀ (l : List UInt8) (v : Nat), val l v = v * 10 ^ l.length + val l 0
  | [], v => by simp [val]
  | d :: l, v => by
    rw [val, val, val_shift l, val_shift l (10 * 0 + (d.toNat - 48))]
    simp only [List.length_cons, Nat.pow_succ]
    rw [Nat.add_mul, Nat.mul_zero, Nat.zero_add, ← Nat.add_assoc]
    congr 2
    rw [Nat.mul_comm 10 v, Nat.mul_assoc, Nat.mul_comm 10]
theorem val_lt : ∀ (l : List UInt8), (∀ c ∈ l, isD c = true) → val l 0 < 10 ^ l.length
  | [], _ => by simp [val]
  | d :: l, h => by
    have ih := val_lt l (fun c hc => h c (by simp [hc]))
    have hd : d.toNat - 48 ≤ 9 := by
      have := h d (by simp); unfold isD at this; simp at this; omega
    rw [val, val_shift]
    simp only [List.length_cons, Nat.pow_succ, Nat.mul_zero, Nat.zero_add]
    have : (d.toNat - 48) * 10 ^ l.length ≤ 9 * 10 ^ l.length := Nat.mul_le_mul_right _ hd
    omega
theorem val_zeros (k : Nat) (l : List UInt8) : val (List.replicate k 48 ++ l) 0 = val l 0 := by
  induction k with
  | zero => simp
  | succ k ih => simp only [List.replicate_succ, List.cons_append, val]; simpa using ih
/-- A first digit that is not '0' makes the value as large as its place. -/
theorem val_first (d : UInt8) (l : List UInt8) (h : isD d = true) (h0 : ¬ d = 48) : 10 ^ l.length ≤ val (d :: l) 0 := by
  rw [val, val_shift]
  have hd : 1 ≤ d.toNat - 48 := by
    unfold isD at h; simp at h
    have : ¬ d.toNat = 48 := fun e => h0 (UInt8.toNat_inj.1 e)
    omega
  have : 1 * 10 ^ l.length ≤ (10 * 0 + (d.toNat - 48)) * 10 ^ l.length := Nat.mul_le_mul_right _ (by omega)
  omega

/-- The digits of n > 0; fuel first. -/
def dgsF : Nat → Nat → List UInt8
  | 0, _ => []
  | k + 1, n => if n = 0 then [] else dgsF k (n / 10) ++ [UInt8.ofNat (48 + n % 10)]
def utoa (n : Nat) : List UInt8 := if n = 0 then [48] else dgsF 24 n

theorem dgsF_val : ∀ (k n : Nat), n < 10 ^ k → val (dgsF k n) 0 = n
  | 0, n, h => by simp at h; subst h; rfl
  | k + 1, n, h => by
    rw [dgsF]
    by_cases hn : n = 0
    · simp [hn, val]
    · rw [if_neg hn, val_snoc, dgsF_val k (n / 10) (by rw [Nat.pow_succ] at h; omega)]
      simp
      omega
theorem dgsF_isD : ∀ (k n : Nat), ∀ c ∈ dgsF k n, isD c = true
  | 0, n, c, h => by simp [dgsF] at h
  | k + 1, n, c, h => by
    rw [dgsF] at h
    split at h
    · simp at h
    · rcases List.mem_append.1 h with h | h
      · exact dgsF_isD k _ c h
      · simp at h; subst h; simp [isD]; omega
theorem dgsF_len : ∀ (k n j : Nat), n < 10 ^ j → (dgsF k n).length ≤ j
  | 0, n, j, h => by simp [dgsF]
  | k + 1, n, j, h => by
    rw [dgsF]
    split
    · simp
    · rename_i hn
      cases j with
      | zero => simp at h; omega
      | succ j =>
        have := dgsF_len k (n / 10) j (by rw [Nat.pow_succ] at h; omega)
        simp; omega
theorem utoa_val (n : Nat) (h : n < 10 ^ 24) : val (utoa n) 0 = n := by
  unfold utoa
  split
  · rename_i h; subst h; rfl
  · exact dgsF_val 24 n h
theorem utoa_isD (n : Nat) : ∀ c ∈ utoa n, isD c = true := by
  unfold utoa
  split
  · intro c hc; simp at hc; subst hc; decide
  · exact dgsF_isD 24 n
theorem utoa_pos (n : Nat) : utoa n ≠ [] := by
  unfold utoa
  split
  · simp
  · rename_i h; rw [dgsF, if_neg h]; simp
theorem utoa_len (n j : Nat) (hj : 1 ≤ j) (h : n < 10 ^ j) : (utoa n).length ≤ j := by
  unfold utoa
  split
  · simpa using hj
  · exact dgsF_len 24 n j h
end Go.Proofs.Qxb6600050a.Num
