/-
  A set of bytes as four words of 64 bits: plain facts. No Go in sight.
-/
namespace Go.Proofs.Qxb6000758a.Cls

def wdN (f : Nat → Bool) : Nat → Nat
  | 0 => 0
  | n + 1 => (f 0).toNat + 2 * wdN (fun i => f (i + 1)) n

theorem testBit_wdN : ∀ (n : Nat) (f : Nat → Bool) (i : Nat), (wdN f n).testBit i = (decide (i < n) && f i)
  | 0, f, i => by simp [wdN]
  | n + 1, f, 0 => by
    rw [wdN, Nat.testBit_zero]
    cases f 0 <;> simp <;> omega
  | n + 1, f, i + 1 => by
    rw [wdN, Nat.testBit_succ]
    have : ((f 0).toNat + 2 * wdN (fun i => f (i + 1)) n) / 2 = wdN (fun i => f (i + 1)) n := by
      cases f 0 <;> simp <;> omega
    rw [this, testBit_wdN n _ i]
    simp

theorem wdN_lt : ∀ (n : Nat) (f : Nat → Bool), wdN f n < 2 ^ n
  | 0, f => by simp [wdN]
  | n + 1, f => by
    have := wdN_lt n (fun i => f (i + 1))
    rw [wdN, Nat.pow_succ]
    cases f 0 <;> simp <;> omega

def wd (S : Nat → Bool) (j : Nat) : Nat := wdN (fun i => S (64 * j + i)) 64

theorem wd_lt (S : Nat → Bool) (j : Nat) : wd S j < 18446744073709551616 := wdN_lt 64 _
theorem testBit_wd (S : Nat → Bool) (j i : Nat) : (wd S j).testBit i = (decide (i < 64) && S (64 * j + i)) := testBit_wdN 64 _ i

def none : Nat → Bool := fun _ => false
def add (S : Nat → Bool) (c : Nat) : Nat → Bool := fun i => S i || i == c
def del (S : Nat → Bool) (c : Nat) : Nat → Bool := fun i => S i && !(i == c)
def union (S T : Nat → Bool) : Nat → Bool := fun i => S i || T i
def compl (S : Nat → Bool) : Nat → Bool := fun i => !S i

theorem wd_none (j : Nat) : wd none j = 0 := by
  apply Nat.eq_of_testBit_eq
  intro i
  rw [testBit_wd]
  simp [none]

theorem wd_congr (S T : Nat → Bool) (j : Nat) (h : ∀ i, i < 64 → S (64 * j + i) = T (64 * j + i)) : wd S j = wd T j := by
  apply Nat.eq_of_testBit_eq
  intro i
  rw [testBit_wd, testBit_wd]
  by_cases hi : i < 64
  · simp [hi, h i hi]
  · simp [hi]

theorem two_pow_lt (c : Nat) : 2 ^ (c % 64) < 18446744073709551616 := by
  have : (2 : Nat) ^ (c % 64) < 2 ^ 64 := Nat.pow_lt_pow_right (by omega) (by omega)
  exact this

theorem or_add (S : Nat → Bool) (c : Nat) : wd S (c / 64) ||| 2 ^ (c % 64) = wd (add S c) (c / 64) := by
  apply Nat.eq_of_testBit_eq
  intro i
  rw [Nat.testBit_or, testBit_wd, testBit_wd, Nat.testBit_two_pow]
  by_cases hi : i < 64
  · simp only [hi, decide_true, Bool.true_and, add]
    congr 1
    rw [Bool.eq_iff_iff]; simp; omega
  · have : ¬ c % 64 = i := by omega
    simp [hi, this]

theorem add_other (S : Nat → Bool) (c j : Nat) (h : j ≠ c / 64) : wd (add S c) j = wd S j := by
  apply wd_congr
  intro i hi
  have : (64 * j + i == c) = false := by simp; omega
  simp [add, this]

theorem and_del (S : Nat → Bool) (c : Nat) : wd S (c / 64) &&& (18446744073709551615 - 2 ^ (c % 64)) = wd (del S c) (c / 64) := by
  apply Nat.eq_of_testBit_eq
  intro i
  have e : (18446744073709551615 - 2 ^ (c % 64)).testBit i = (decide (i < 64) && !(2 ^ (c % 64)).testBit i) := by
    have h := Nat.testBit_two_pow_sub_succ (x := 2 ^ (c % 64)) (n := 64) (two_pow_lt c) i
    have h2 : (2 : Nat) ^ 64 - (2 ^ (c % 64) + 1) = 18446744073709551615 - 2 ^ (c % 64) := by omega
    rw [h2] at h
    exact h
  rw [Nat.testBit_and, testBit_wd, testBit_wd, e, Nat.testBit_two_pow]
  by_cases hi : i < 64
  · simp only [hi, decide_true, Bool.true_and, del]
    congr 2
    rw [Bool.eq_iff_iff]; simp; omega
  · simp [hi]

theorem del_other (S : Nat → Bool) (c j : Nat) (h : j ≠ c / 64) : wd (del S c) j = wd S j := by
  apply wd_congr
  intro i hi
  have : (64 * j + i == c) = false := by simp; omega
  simp [del, this]

theorem or_union (S T : Nat → Bool) (j : Nat) : wd S j ||| wd T j = wd (union S T) j := by
  apply Nat.eq_of_testBit_eq
  intro i
  rw [Nat.testBit_or, testBit_wd, testBit_wd, testBit_wd]
  by_cases hi : i < 64 <;> simp [hi, union]

theorem xor_compl (S : Nat → Bool) (j : Nat) : 18446744073709551615 ^^^ wd S j = wd (compl S) j := by
  apply Nat.eq_of_testBit_eq
  intro i
  have e : (18446744073709551615 : Nat).testBit i = decide (i < 64) := by
    have := Nat.testBit_two_pow_sub_one 64 i
    exact this
  rw [Nat.testBit_xor, testBit_wd, testBit_wd, e]
  by_cases hi : i < 64 <;> simp [hi, compl]

/-- Bit c of the four words. -/
theorem has (S : Nat → Bool) (c : Nat) : (wd S (c / 64) / 2 ^ (c % 64)) % 2 = (S c).toNat := by
  have h := testBit_wd S (c / 64) (c % 64)
  rw [Nat.testBit_eq_decide_div_mod_eq] at h
  have hc : 64 * (c / 64) + c % 64 = c := by omega
  have hlt : c % 64 < 64 := by omega
  rw [hc] at h
  simp only [hlt, decide_true, Bool.true_and] at h
  cases hS : S c
  · rw [hS] at h; simp at h; simp; omega
  · rw [hS] at h; simpa using h
end Go.Proofs.Qxb6000758a.Cls
