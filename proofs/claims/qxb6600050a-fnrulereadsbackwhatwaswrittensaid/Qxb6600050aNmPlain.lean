/-
  The decimal model: comparing a run of digits with a bound written in decimal. Plain facts.
-/
import Derived.Test.Qxb6600050aNmWalk
namespace Go.Proofs.Qxb6600050a
open Go.RowKit

theorem isD_digB (c : UInt8) : Num.isD c = digB (c.toNat : Int) := by
  unfold Num.isD digB
  rw [Bool.eq_iff_iff]; simp; omega

theorem grt_val : ∀ (a b : List UInt8), a.length = b.length → (∀ c ∈ a, Num.isD c = true) → (∀ c ∈ b, Num.isD c = true) → grt a b = decide (Num.val b 0 < Num.val a 0)
  | [], [], _, _, _ => by simp [grt, Num.val]
  | a :: l, b :: m, h, ha, hb => by
    have hl : l.length = m.length := by simpa using h
    have ih := grt_val l m hl (fun c hc => ha c (by simp [hc])) (fun c hc => hb c (by simp [hc]))
    have h1 := Num.val_lt l (fun c hc => ha c (by simp [hc]))
    have h2 := Num.val_lt m (fun c hc => hb c (by simp [hc]))
    rw [hl] at h1
    have da : 48 ≤ a.toNat ∧ a.toNat ≤ 57 := by have := ha a (by simp); unfold Num.isD at this; simpa using this
    have db : 48 ≤ b.toNat ∧ b.toNat ≤ 57 := by have := hb b (by simp); unfold Num.isD at this; simpa using this
    rw [grt, Num.val, Num.val, Num.val_shift l, Num.val_shift m, hl]
    by_cases e : a = b
    · subst e
      rw [if_pos rfl, ih, Bool.eq_iff_iff]; simp
    · rw [if_neg e, Bool.eq_iff_iff]
      simp only [decide_eq_true_eq, Nat.mul_zero, Nat.zero_add]
      have hne : ¬ a.toNat = b.toNat := fun h => e (UInt8.toNat_inj.1 h)
      generalize 10 ^ m.length = P at *
      constructor
      · intro hlt
        have : (b.toNat - 48 + 1) * P ≤ (a.toNat - 48) * P := Nat.mul_le_mul_right _ (by omega)
        rw [Nat.add_mul] at this; omega
      · intro hlt
        rcases Nat.lt_or_ge b.toNat a.toNat with h | h
        · exact h
        · exfalso
          have : (a.toNat - 48 + 1) * P ≤ (b.toNat - 48) * P := Nat.mul_le_mul_right _ (by omega)
          rw [Nat.add_mul] at this; omega

theorem utoa_first (N : Nat) (h0 : 0 < N) (h : N < 10 ^ 24) : 10 ^ ((Num.utoa N).length - 1) ≤ N := by
  have key : ∀ (k n : Nat), 0 < n → n < 10 ^ k → 10 ^ ((Num.dgsF k n).length - 1) ≤ n := by
    intro k
    induction k with
    | zero => intro n h0 h; simp at h; omega
    | succ k ih =>
      intro n h0 h
      rw [Num.dgsF, if_neg (by omega)]
      by_cases h10 : n / 10 = 0
      · have : Num.dgsF k (n / 10) = [] := by rw [h10]; cases k <;> simp [Num.dgsF]
        rw [this]; simp; omega
      · have := ih (n / 10) (by omega) (by rw [Nat.pow_succ] at h; omega)
        have hpos : 0 < (Num.dgsF k (n / 10)).length := by
          cases k with
          | zero => simp at h; omega
          | succ k => rw [Num.dgsF, if_neg h10]; simp
        simp only [List.length_append, List.length_cons, List.length_nil]
        rw [show (Num.dgsF k (n / 10)).length + (0 + 1) - 1 = ((Num.dgsF k (n / 10)).length - 1) + 1 by omega, Nat.pow_succ]
        omega
  unfold Num.utoa
  rw [if_neg (by omega)]
  exact key 24 N h0 h

theorem len_gt (t : List UInt8) (N : Nat) (hN : N < 10 ^ 24) (ht : ∀ c ∈ t, Num.isD c = true) (hz : ∀ d l, t = d :: l → ¬ d = 48) (h : (Num.utoa N).length < t.length) : N < Num.val t 0 := by
  cases t with
  | nil => simp at h
  | cons d l =>
    have h1 := Num.val_first d l (ht d (by simp)) (hz d l rfl)
    have h2 := Num.val_lt (Num.utoa N) (Num.utoa_isD N)
    rw [Num.utoa_val N hN] at h2
    have h3 : 10 ^ (Num.utoa N).length ≤ 10 ^ l.length := Nat.pow_le_pow_right (by omega) (by simp at h; omega)
    omega
theorem len_lt (t : List UInt8) (N : Nat) (hN : N < 10 ^ 24) (ht : ∀ c ∈ t, Num.isD c = true) (h : t.length < (Num.utoa N).length) : Num.val t 0 ≤ N := by
  have h1 := Num.val_lt t ht
  by_cases h0 : 0 < N
  · have h2 := utoa_first N h0 hN
    have h3 : 10 ^ t.length ≤ 10 ^ ((Num.utoa N).length - 1) := Nat.pow_le_pow_right (by omega) (by omega)
    omega
  · have : N = 0 := by omega
    subst this
    have : t = [] := by
      apply List.eq_nil_of_length_eq_zero
      simp [Num.utoa] at h; simpa using h
    subst this; simp [Num.val]
theorem len_eq (t : List UInt8) (N : Nat) (hN : N < 10 ^ 24) (ht : ∀ c ∈ t, Num.isD c = true) (h : t.length = (Num.utoa N).length) : grt t (Num.utoa N) = decide (N < Num.val t 0) := by
  rw [grt_val t _ h ht (Num.utoa_isD N), Num.utoa_val N hN]

theorem seg_cons (s : ByteArray) (k i : Nat) (h : k < i) (hi : i ≤ s.size) : seg s k i = (s[k]'(by omega)) :: seg s (k + 1) i := by
  unfold seg
  rw [drop_cons s k (by omega), show i - k = (i - (k + 1)) + 1 by omega, List.take_succ_cons]
theorem vl_strip (s : ByteArray) (i j : Nat) (hj : j ≤ s.size) : ∀ k, i ≤ k → k ≤ j → (∀ q (hs : q < s.size), q < k → i ≤ q → s[q] = 48) → vl s k j = vl s i j := by
  intro k hk
  induction k with
  | zero => intro _ _; have : i = 0 := by omega
            subst this; rfl
  | succ k ih =>
    intro hkj hz
    by_cases e : i = k + 1
    · subst e; rfl
    · rw [← ih (by omega) (by omega) (fun q hs h hq => hz q hs (by omega) hq)]
      have h48 := hz k (by omega) (by omega) (by omega)
      unfold vl
      rw [seg_cons s k j (by omega) hj, h48]
      simp [Num.val]
theorem seg_len (s : ByteArray) (a b : Nat) (hb : b ≤ s.size) : (seg s a b).length = b - a := by
  unfold seg
  rw [List.length_take, List.length_drop, ← Lib.size_eq]; omega
theorem seg_mem (s : ByteArray) (a b : Nat) (hb : b ≤ s.size) (p : UInt8 → Prop) (h : ∀ k (hk : k < b), a ≤ k → p (s[k]'(by omega))) : ∀ c ∈ seg s a b, p c := by
  intro c hc
  unfold seg at hc
  rw [List.mem_iff_getElem] at hc
  obtain ⟨n, hn, rfl⟩ := hc
  rw [List.length_take, List.length_drop, ← Lib.size_eq] at hn
  have := h (a + n) (by omega) (by omega)
  rw [List.getElem_take, List.getElem_drop]
  exact this
theorem ext_data (s : ByteArray) (a b : Nat) : (s.extract a b).data.toList = seg s a b := Lib.extract_data s a b
theorem vl_ext (s : ByteArray) (a b : Nat) : vl (s.extract a b) 0 (s.extract a b).size = vl s a b := by
  unfold vl
  congr 1
  rw [seg, List.drop_zero, ext_data, Nat.sub_zero, List.take_of_length_le]
  rw [← ext_data, ← Lib.size_eq]; exact Nat.le_refl _
/-- A longer run of digits is no smaller. -/
theorem vl_mono (s : ByteArray) (i k j : Nat) (h1 : i ≤ k) (h2 : k ≤ j) (hj : j ≤ s.size) : vl s i k ≤ vl s i j := by
  obtain ⟨d, rfl⟩ : ∃ d, j = k + d := ⟨j - k, by omega⟩
  clear h2
  induction d with
  | zero => exact Nat.le_refl _
  | succ d ih =>
    have h := vl_snoc s i (k + d) (by omega) (by omega)
    have := ih (by omega)
    rw [show k + (d + 1) = k + d + 1 by omega, h]; omega
/-- Where the run of digits ends. -/
theorem run_end (s : ByteArray) (i : Nat) (hi : i ≤ s.size) : ∃ j, i ≤ j ∧ j ≤ s.size ∧ (∀ k (hs : k < s.size), k < j → i ≤ k → digB (s[k].toNat : Int) = true) ∧ (∀ h : j < s.size, digB (s[j].toNat : Int) = false) := by
  obtain ⟨d, hd⟩ : ∃ d, s.size = i + d := ⟨s.size - i, by omega⟩
  induction d generalizing i with
  | zero => exact ⟨i, by omega, by omega, fun k _ h hk => by omega, fun h => by omega⟩
  | succ d ih =>
    cases hc : digB ((s[i]'(by omega)).toNat : Int)
    · exact ⟨i, by omega, by omega, fun k _ h hk => by omega, fun _ => hc⟩
    · obtain ⟨j, h1, h2, h3, h4⟩ := ih (i + 1) (by omega) (by omega)
      refine ⟨j, by omega, h2, fun k hs h hk => ?_, h4⟩
      by_cases e : k = i
      · subst e; exact hc
      · exact h3 k hs h (by omega)
/-- The first place at which the run becomes greater than most. -/
theorem first_over (s : ByteArray) (i j : Nat) (most : Int) (hm : 0 ≤ most) (hij : i ≤ j) (hj : j ≤ s.size) (h : most < (vl s i j : Int)) : ∃ k, i ≤ k ∧ k < j ∧ (∀ q, i < q → q ≤ k → (vl s i q : Int) ≤ most) ∧ most < (vl s i (k + 1) : Int) := by
  obtain ⟨d, rfl⟩ : ∃ d, j = i + d := ⟨j - i, by omega⟩
  clear hij
  induction d with
  | zero => rw [Nat.add_zero, vl_nil] at h; omega
  | succ d ih =>
    by_cases h2 : most < (vl s i (i + d) : Int)
    · obtain ⟨k, a, b, c, e⟩ := ih (by omega) h2
      exact ⟨k, a, by omega, c, e⟩
    · refine ⟨i + d, by omega, by omega, fun q h3 h4 => ?_, h⟩
      have := vl_mono s i q (i + d) (by omega) h4 (by omega)
      omega
end Go.Proofs.Qxb6600050a
