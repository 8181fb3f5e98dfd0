/-
  ZZWildcardSet (22) over a contract of set (31); '==' on two [4]uint64; zzBytes (27); what the text of FnSetRange reads.
-/
import Derived.Test.Qxb6000758aSetRng
import Derived.Test.Qxb6000758aBuf
import Derived.ChangeKeysEq
namespace Go.Proofs.Qxb6000758a
open Go.RowKit

theorem info33 : (Try.prog.info? 33).map (fun i => i.size) = some 1 := by kernel_rfl
theorem cells33 : Try.prog.cellsOf 33 = 1 := by kernel_rfl

theorem eq34 (a0 a1 a2 a3 b0 b1 b2 b3 : Int) (w : World) :
    (Op.equalIn 10000 34 (.agg #[.int .u64 a0, .int .u64 a1, .int .u64 a2, .int .u64 a3]) (.agg #[.int .u64 b0, .int .u64 b1, .int .u64 b2, .int .u64 b3])).run Try.prog w = .ok (a0 == b0 && (a1 == b1 && (a2 == b2 && a3 == b3))) w := by
  obtain ⟨i, hi, -⟩ := Option.map_eq_some_iff.1 info33
  rw [run_equalIn_array w 9999 _ _ Try.underlying34 hi, cells33]
  have e : List.range 4 = [0, 1, 2, 3] := rfl
  rw [e]
  have hp : ∀ (xs : Array Value) (j : Nat) (x : Int) (w : World), xs[j]? = some (.int .u64 x) → (part 33 xs (j * 1)).run Try.prog w = .ok (.int .u64 x) w := by
    intro xs j x w h
    simp [part, isAgg, run_underlying Try.underlying33, h]
  have pe : ∀ (x y : Int) (w : World), (Op.equalIn 9999 33 (.int .u64 x) (.int .u64 y)).run Try.prog w = .ok (x == y) w := fun x y w => run_equalIn_int w 9998 33 .u64 .u64 x y Try.underlying33
  simp only [Op.eqItems, Sem.run_bind]
  simp only [hp #[.int .u64 a0, .int .u64 a1, .int .u64 a2, .int .u64 a3] 0 a0 w rfl, hp #[.int .u64 b0, .int .u64 b1, .int .u64 b2, .int .u64 b3] 0 b0 w rfl, Result.andThen_ok, pe]
  cases (a0 == b0)
  · simp
  simp only [Bool.not_true, Bool.false_eq_true, if_false, Sem.run_bind, hp #[.int .u64 a0, .int .u64 a1, .int .u64 a2, .int .u64 a3] 1 a1 w rfl, hp #[.int .u64 b0, .int .u64 b1, .int .u64 b2, .int .u64 b3] 1 b1 w rfl, Result.andThen_ok, pe]
  cases (a1 == b1)
  · simp
  simp only [Bool.not_true, Bool.false_eq_true, if_false, Sem.run_bind, hp #[.int .u64 a0, .int .u64 a1, .int .u64 a2, .int .u64 a3] 2 a2 w rfl, hp #[.int .u64 b0, .int .u64 b1, .int .u64 b2, .int .u64 b3] 2 b2 w rfl, Result.andThen_ok, pe]
  cases (a2 == b2)
  · simp
  simp only [Bool.not_true, Bool.false_eq_true, if_false, Sem.run_bind, hp #[.int .u64 a0, .int .u64 a1, .int .u64 a2, .int .u64 a3] 3 a3 w rfl, hp #[.int .u64 b0, .int .u64 b1, .int .u64 b2, .int .u64 b3] 3 b3 w rfl, Result.andThen_ok, pe]
  cases (a3 == b3) <;> simp

set_option maxHeartbeats 400000 in
theorem zz22_of (s : ByteArray) (w : World) (f p ip : Bool) (c0 c1 c2 c3 n st : Int)
    (h31 : ∀ w : World, Calls Try.prog 31 #[.agg #[.bool f, .bool p, .bool ip], .string s] w fun e w' => e = .returned (.tuple #[.agg #[.int .u64 c0, .int .u64 c1, .int .u64 c2, .int .u64 c3], .int .i64 n, .int .i64 st]) ∧ Below w.heap.size w w') :
    Calls Try.prog 22 #[.bool f, .bool p, .bool ip, .string s] w fun e w' => e = .returned (.tuple #[.agg #[.int .u64 c0, .int .u64 c1, .int .u64 c2, .int .u64 c3], .int .i64 n, .int .i64 st]) ∧ Below w.heap.size w w' := by
  have H31 := (show Hid _ from h31)
  clear h31
  go_enter Try.func22, Try.ntmps22
  go_wp2_with fail
  refine (H31.out _).mono ?_
  rintro e w1 ⟨rfl, hb⟩
  have hz : w.heap.size < w1.heap.size := by have := hb.size; simp at this; omega
  have hc : ∀ o, w1.cell? ⟨w.heap.size, o, none⟩ = (w.alloc (.cells #[.int .u64 0, .int .u64 0, .int .u64 0, .int .u64 0] 34)).cell? ⟨w.heap.size, o, none⟩ := fun o => hb.cell (p := ⟨w.heap.size, o, none⟩) (by simp)
  have hf : ∀ o, w1.frozen? ⟨w.heap.size, o, none⟩ = (w.alloc (.cells #[.int .u64 0, .int .u64 0, .int .u64 0, .int .u64 0] 34)).frozen? ⟨w.heap.size, o, none⟩ := fun o => hb.frozen (p := ⟨w.heap.size, o, none⟩) (by simp)
  have hb1 : Below w.heap.size w w1 := ((Below.refl _ _).alloc (Nat.le_refl _) _).trans (hb.mono (by simp))
  clear hb
  go_wp2_with fail
  refine bodyPost_ret (v := .tuple #[.agg #[.int .u64 c0, .int .u64 c1, .int .u64 c2, .int .u64 c3], .int .i64 n, .int .i64 st]) (by simp [results, Try.results22, go_sem, hc, hz]) rfl ⟨rfl, ?_⟩
  have h5 := (((hb1.setCell (Nat.le_refl _) (p := ⟨w.heap.size, 0, none⟩) (.int .u64 c0)).setCell (Nat.le_refl _) (p := ⟨w.heap.size, 1, none⟩) (.int .u64 c1)).setCell (Nat.le_refl _) (p := ⟨w.heap.size, 2, none⟩) (.int .u64 c2)).setCell (Nat.le_refl _) (p := ⟨w.heap.size, 3, none⟩) (.int .u64 c3)
  exact h5.alloc h5.size _

theorem zz27_yes (f p n : Bool) (lo hi : Int) (tail : ByteArray) (w : World) (h : tail.size ≤ 65536) :
    Calls Try.prog 27 #[.bool f, .bool p, .bool n, .int .u8 lo, .int .u8 hi, .string tail] w fun e w' => e = .returned (.bool true) ∧ w' = w := by
  go_enter Try.func27, Try.ntmps27
  go_wp2
  go_ret
  exact ⟨rfl, rfl⟩
theorem zz27_any (f p n : Bool) (lo hi : Int) (tail : ByteArray) (w : World) (h : tail.size ≤ maxLen) :
    Calls Try.prog 27 #[.bool f, .bool p, .bool n, .int .u8 lo, .int .u8 hi, .string tail] w fun e w' => (∃ r, e = .returned (.bool r)) ∧ w' = w := by
  unfold maxLen at h
  go_enter Try.func27, Try.ntmps27
  go_wp2
  all_goals go_ret
  all_goals exact ⟨⟨_, rfl⟩, rfl⟩
theorem lawLowerN_any (c : Nat) (w : World) (h1 : c < 256) :
    Calls Try.prog 24 #[.int .u8 (c : Int)] w fun e w' => e = .returned (.int .u8 ((lowN c : Nat) : Int)) ∧ w' = w := by
  have := lawLower_any (c : Int) w (by omega) (by omega)
  rw [low_eq] at this
  exact this
theorem hasBit_out (w : World) (S : Nat → Bool) (c : Nat) (hc : c < 256) :
    Calls Try.prog 26 #[.agg #[.int .u64 ((Cls.wd S 0 : Nat) : Int), .int .u64 ((Cls.wd S 1 : Nat) : Int), .int .u64 ((Cls.wd S 2 : Nat) : Int), .int .u64 ((Cls.wd S 3 : Nat) : Int)], .int .i64 (c : Int)] w fun e w' => e = .returned (.bool (S c)) ∧ Below w.heap.size w w' := hasBit_any w S c hc

/-- The text that FnSetRange writes. -/
def srTxt (neg : Bool) (bl bh : UInt8) (tail : List UInt8) : List UInt8 := if neg then 91 :: 94 :: 92 :: bl :: 45 :: 92 :: bh :: 93 :: tail else 91 :: 92 :: bl :: 45 :: 92 :: bh :: 93 :: tail

/-- What the law wants of byte k, ahead of negation. -/
def want0 (f : Bool) (lo hi k : Nat) : Bool := (decide (lo ≤ k) && decide (k ≤ hi)) || (f && (decide (lowN lo ≤ lowN k) && decide (lowN k ≤ lowN hi)))
def resS (f p neg : Bool) (lo hi : Nat) : Nat → Bool := wildS p (if neg then Cls.compl (arS f Cls.none lo hi) else arS f Cls.none lo hi)
theorem res_want (f p neg : Bool) (lo hi k : Nat) : resS f p neg lo hi k = (if p && k == 47 then false else if neg then !want0 f lo hi k else want0 f lo hi k) := by
  unfold resS wildS want0
  cases p <;> cases neg <;> simp [Cls.del, Cls.compl, arS, Cls.none]
  · by_cases h : k = 47 <;> simp [h]
  · by_cases h : k = 47 <;> simp [h]
end Go.Proofs.Qxb6000758a
