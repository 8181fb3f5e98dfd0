/-
  The reader at a text that begins with a given list: expect (36), number (33).
-/
import Derived.Test.Qxb6600050aNmPlain
import Derived.Test.Qxb6600050aOfApp
namespace Go.Proofs.Qxb6600050a
open Go.RowKit

/-- From place i on, s reads l. -/
def From (s : ByteArray) (i : Nat) (l : List UInt8) : Prop := i ≤ s.size ∧ s.data.toList.drop i = l
theorem From.step {s : ByteArray} {i : Nat} {l r : List UInt8} (h : From s i (l ++ r)) : From s (i + l.length) r := by
  have hl := congrArg List.length h.2
  rw [List.length_drop, ← Lib.size_eq, List.length_append] at hl
  refine ⟨by have := h.1; omega, ?_⟩
  rw [← List.drop_drop, h.2]; simp
theorem From.one {s : ByteArray} {i : Nat} {c : UInt8} {r : List UInt8} (h : From s i (c :: r)) : From s (i + 1) r := From.step (l := [c]) h
theorem From.lt {s : ByteArray} {i : Nat} {c : UInt8} {r : List UInt8} (h : From s i (c :: r)) : i < s.size := by
  have hl := congrArg List.length h.2
  rw [List.length_drop, ← Lib.size_eq, List.length_cons] at hl
  omega
theorem From.get {s : ByteArray} {i : Nat} {c : UInt8} {r : List UInt8} (h : From s i (c :: r)) (hi : i < s.size) : s[i] = c := by
  have := drop_cons s i hi
  rw [h.2] at this
  exact (List.cons.inj this).1.symm
theorem From.nil {s : ByteArray} {i : Nat} (h : From s i []) : s.size ≤ i := by
  have hl := congrArg List.length h.2
  rw [List.length_drop, ← Lib.size_eq] at hl
  simp at hl; omega
theorem From.len {s : ByteArray} {i : Nat} {l : List UInt8} (h : From s i l) : s.size = i + l.length := by
  have hl := congrArg List.length h.2
  rw [List.length_drop, ← Lib.size_eq] at hl
  have := h.1; omega

/-- The list does not begin with c. -/
def NotAt (c : UInt8) (l : List UInt8) : Prop := ∀ d r, l = d :: r → ¬ d = c
theorem NotAt.cons {c d : UInt8} {r : List UInt8} (h : ¬ d = c) : NotAt c (d :: r) := by
  intro d' r' e; obtain ⟨rfl, rfl⟩ := List.cons.inj e; exact h
def NoDig (l : List UInt8) : Prop := ∀ d r, l = d :: r → Num.isD d = false
theorem NoDig.cons {d : UInt8} {r : List UInt8} (h : Num.isD d = false) : NoDig (d :: r) := by
  intro d' r' e; obtain ⟨rfl, rfl⟩ := List.cons.inj e; exact h

theorem expect_take (w : World) (g : Nat) (s : ByteArray) (i : Nat) (c : UInt8) (r : List UInt8) (hr : Rd w g s i) (hs : s.size ≤ 16777216) (h : From s i (c :: r)) :
    Calls Try.prog 36 #[.pointer (some ⟨g, 0, none⟩), .int .u8 (c.toNat : Int)] w fun e w' => e = .returned (.bool true) ∧ Moved g s (i + 1) w w' :=
  expect_yes w g s i _ hr hs h.lt (by rw [h.get]; simp)
theorem expect_skip (w : World) (g : Nat) (s : ByteArray) (i : Nat) (c : UInt8) (l : List UInt8) (hr : Rd w g s i) (hs : s.size ≤ 16777216) (h : From s i l) (hn : NotAt c l) :
    Calls Try.prog 36 #[.pointer (some ⟨g, 0, none⟩), .int .u8 (c.toNat : Int)] w fun e w' => e = .returned (.bool false) ∧ Moved g s i w w' := by
  cases l with
  | nil => exact expect_end w g s i _ hr hs h.nil
  | cons d r =>
    refine expect_no w g s i _ hr hs h.lt ?_
    rw [h.get]
    have := hn d r rfl
    apply beq_eq_false_iff_ne.2
    intro e
    exact this (UInt8.toNat_inj.1 (by omega))

theorem From.seg {s : ByteArray} {i : Nat} {l r : List UInt8} (h : From s i (l ++ r)) : seg s i (i + l.length) = l := by
  unfold Qxb6600050a.seg
  rw [h.2, show i + l.length - i = l.length by omega]; simp
theorem padded_isD (pad v : Nat) : ∀ c ∈ padded pad v, Num.isD c = true := by
  intro c hc
  rcases List.mem_append.1 hc with h | h
  · rw [(List.mem_replicate.1 h).2]; decide
  · exact Num.utoa_isD v c h
theorem padded_val (pad v : Nat) (hv : v < 1000000000000) : Num.val (padded pad v) 0 = v := by
  unfold padded
  rw [Num.val_zeros, Num.utoa_val v (by omega)]
theorem padded_pos (pad v : Nat) : 0 < (padded pad v).length := by
  have := List.length_pos_iff.2 (Num.utoa_pos v)
  simp [padded]; omega
theorem padded_cons (pad v : Nat) : ∃ d r, padded pad v = d :: r ∧ Num.isD d = true := by
  cases h : padded pad v with
  | nil => have := padded_pos pad v; rw [h] at this; simp at this
  | cons d r => exact ⟨d, r, rfl, padded_isD pad v d (by rw [h]; simp)⟩
/-- A text that begins with a digit begins with no other byte. -/
theorem notAt_padded (c : UInt8) (hc : Num.isD c = false) (pad v : Nat) (r : List UInt8) : NotAt c (padded pad v ++ r) := by
  obtain ⟨d, q, h, hd⟩ := padded_cons pad v
  rw [h, List.cons_append]
  refine NotAt.cons ?_
  intro e; subst e; rw [hc] at hd; cases hd

theorem number_take (w : World) (g : Nat) (s : ByteArray) (i : Nat) (least most : Int) (pad v : Nat) (r : List UInt8) (hr : Rd w g s i) (hs : s.size ≤ 16777216) (h : From s i (padded pad v ++ r)) (hn : NoDig r) (hv : v < 1000000) (hl : least ≤ (v : Int)) (hm : (v : Int) ≤ most) (hmm : most ≤ 100000000) :
    Calls Try.prog 33 #[.pointer (some ⟨g, 0, none⟩), .int .i64 least, .int .i64 most] w fun e w' => e = .returned (.tuple #[.int .i64 (v : Int), .bool true]) ∧ Moved g s (i + (padded pad v).length) w w' := by
  have hlen := h.len
  rw [List.length_append] at hlen
  have hpos := padded_pos pad v
  have hval : vl s i (i + (padded pad v).length) = v := by unfold vl; rw [h.seg, padded_val pad v (by omega)]
  have hdig : ∀ k (hk : k < i + (padded pad v).length), i ≤ k → digB ((s[k]'(by omega)).toNat : Int) = true := by
    intro k hk hik
    have hks : k < s.size := by omega
    have e1 : s[k] = (padded pad v)[k - i]'(by omega) := by
      have h1 : s.data.toList[k]'(by rw [← Lib.size_eq]; exact hks) = s[k] := rfl
      have h2 : (s.data.toList.drop i)[k - i]? = (padded pad v ++ r)[k - i]? := by rw [h.2]
      rw [List.getElem?_drop, show i + (k - i) = k by omega, List.getElem?_append_left (by omega), List.getElem?_eq_getElem (by rw [← Lib.size_eq]; exact hks), List.getElem?_eq_getElem (by omega)] at h2
      rw [← h1]; exact Option.some.inj h2
    rw [e1, ← isD_digB]
    exact padded_isD pad v _ (List.getElem_mem _)
  have hend : ∀ hh : i + (padded pad v).length < s.size, digB (s[i + (padded pad v).length].toNat : Int) = false := by
    intro hh
    have h2 := h.step
    cases r with
    | nil => have := h2.nil; omega
    | cons d q => rw [h2.get hh, ← isD_digB]; exact hn d q rfl
  have := number_ok w g s i (i + (padded pad v).length) least most hr hs (by omega) (by omega) hmm hdig hend (fun k h1 h2 => by
    have := vl_mono s i k (i + (padded pad v).length) (by omega) h2 (by omega)
    rw [hval] at this; omega)
  rw [hval] at this
  have e1 : (decide (i < i + (padded pad v).length) && decide (least ≤ (v : Int))) = true := by simp [hl]; omega
  rw [e1] at this
  exact this
end Go.Proofs.Qxb6600050a
