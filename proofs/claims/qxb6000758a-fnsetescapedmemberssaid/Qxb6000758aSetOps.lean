/-
  The small functions on sets of bytes, walked: add (41), remove (40), complement (34), union (37), LowerASCII (42), lawLower (24), lawUpper (25), lawHasBit (26).
-/
import Derived.Test.Qxb6000758aGrWalk
import Derived.Test.Qxb6000758aSetPlain
import Derived.BigRegion
import Derived.Laws.BitsAllLaws
namespace Go.Proofs.Qxb6000758a
open Go.RowKit

def clsA (S : Nat → Bool) : Array Value := #[.int .u64 ((Cls.wd S 0 : Nat) : Int), .int .u64 ((Cls.wd S 1 : Nat) : Int), .int .u64 ((Cls.wd S 2 : Nat) : Int), .int .u64 ((Cls.wd S 3 : Nat) : Int)]

/-- Block g holds the set S. -/
def Blk (w : World) (g : Nat) (S : Nat → Bool) : Prop := w.heap[g]? = some (.cells (clsA S) 42 (0, 0))

theorem four_cases {k : Nat} (h : k < 4) : k = 0 ∨ k = 1 ∨ k = 2 ∨ k = 3 := by omega

theorem Blk.cell {w : World} {g : Nat} {S : Nat → Bool} (h : Blk w g S) (k : Nat) (hk : k < 4) : w.cell? ⟨g, k, none⟩ = some (.int .u64 ((Cls.wd S k : Nat) : Int)) := by
  rw [cell_of_row w g k _ 42 (0, 0) h]
  rcases four_cases hk with rfl | rfl | rfl | rfl <;> rfl
theorem Blk.free {w : World} {g : Nat} {S : Nat → Bool} (h : Blk w g S) (k : Nat) : w.frozen? ⟨g, k, none⟩ = false := by
  unfold Blk at h
  simp [World.frozen?, h]

theorem shl_nat (c : Nat) : IntKind.u64.wrap (2 ^ (c % 64)) = ((2 ^ (c % 64) : Nat) : Int) := by
  have h := Cls.two_pow_lt c
  rw [IntKind.wrap_u64]
  have e : ((2 ^ (c % 64) : Nat) : Int) = (2 : Int) ^ (c % 64) := by norm_cast
  rw [← e]
  generalize 2 ^ (c % 64) = x at h
  omega

theorem set_add (S : Nat → Bool) (c : Nat) (hc : c < 256) : (clsA S).setIfInBounds (c / 64) (.int .u64 (bits BinOp.or IntKind.u64 ((Cls.wd S (c / 64) : Nat) : Int) (IntKind.u64.wrap (2 ^ (c % 64))))) = clsA (Cls.add S c) := by
  rw [shl_nat, u64_or_nat _ _ (Cls.wd_lt S _) (Cls.two_pow_lt c), Cls.or_add]
  unfold clsA
  have h4 : c / 64 < 4 := by omega
  rcases four_cases h4 with h | h | h | h
  · rw [Cls.add_other S c 1 (by omega), Cls.add_other S c 2 (by omega), Cls.add_other S c 3 (by omega), h]; rfl
  · rw [Cls.add_other S c 0 (by omega), Cls.add_other S c 2 (by omega), Cls.add_other S c 3 (by omega), h]; rfl
  · rw [Cls.add_other S c 0 (by omega), Cls.add_other S c 1 (by omega), Cls.add_other S c 3 (by omega), h]; rfl
  · rw [Cls.add_other S c 0 (by omega), Cls.add_other S c 1 (by omega), Cls.add_other S c 2 (by omega), h]; rfl

theorem set_del (S : Nat → Bool) (c : Nat) (hc : c < 256) : (clsA S).setIfInBounds (c / 64) (.int .u64 (bits BinOp.andNot IntKind.u64 ((Cls.wd S (c / 64) : Nat) : Int) (IntKind.u64.wrap (2 ^ (c % 64))))) = clsA (Cls.del S c) := by
  rw [shl_nat, u64_andNot_nat _ _ (Cls.wd_lt S _) (Cls.two_pow_lt c), Cls.and_del]
  unfold clsA
  have h4 : c / 64 < 4 := by omega
  rcases four_cases h4 with h | h | h | h
  · rw [Cls.del_other S c 1 (by omega), Cls.del_other S c 2 (by omega), Cls.del_other S c 3 (by omega), h]; rfl
  · rw [Cls.del_other S c 0 (by omega), Cls.del_other S c 2 (by omega), Cls.del_other S c 3 (by omega), h]; rfl
  · rw [Cls.del_other S c 0 (by omega), Cls.del_other S c 1 (by omega), Cls.del_other S c 3 (by omega), h]; rfl
  · rw [Cls.del_other S c 0 (by omega), Cls.del_other S c 1 (by omega), Cls.del_other S c 2 (by omega), h]; rfl

/-- What a store into block g leaves. -/
theorem blk_set {w : World} {g : Nat} {S T : Nat → Bool} (h : Blk w g S) (k : Nat) (v : Value) (e : (clsA S).setIfInBounds k v = clsA T) :
    Blk (w.setCell ⟨g, k, none⟩ v).drew g T ∧ w.grownBy (w.setCell ⟨g, k, none⟩ v).drew (some g) ∧ (w.setCell ⟨g, k, none⟩ v).drew.heap.size = w.heap.size := by
  refine ⟨?_, ⟨rfl, rfl, rfl, ?_, ?_⟩, ?_⟩
  · unfold Blk
    show (w.setCell ⟨g, k, none⟩ v).heap[g]? = _
    rw [heap_setCell_same w g k _ 42 v h, e]
  · show w.heap.size ≤ (w.setCell ⟨g, k, none⟩ v).heap.size
    simp
  · intro j hj hne
    show (w.setCell ⟨g, k, none⟩ v).heap[j]? = _
    exact heap_setCell_other w _ _ _ (by intro e; subst e; exact hne rfl)
  · show (w.setCell ⟨g, k, none⟩ v).heap.size = _
    simp

set_option maxHeartbeats 400000 in
theorem add_any (w : World) (g c : Nat) (S : Nat → Bool) (hc : c < 256) (hg : Blk w g S) :
    Calls Try.prog 41 #[.pointer (some ⟨g, 0, none⟩), .int .u8 (c : Int)] w fun e w' => e = .returned (.tuple #[]) ∧ Blk w' g (Cls.add S c) ∧ w.grownBy w' (some g) ∧ w'.heap.size = w.heap.size := by
  have hcell := hg.cell (c / 64) (by omega)
  have hf := hg.free (c / 64)
  have hx := Cls.wd_lt S (c / 64)
  have HB : Hid (Blk w g S) := hg
  clear hg
  go_enter Try.func41, Try.ntmps41
  go_wp2
  go_region
  go_end0
  exact ⟨rfl, blk_set HB.out _ _ (set_add S c hc)⟩

set_option maxHeartbeats 400000 in
theorem remove_any (w : World) (g c : Nat) (S : Nat → Bool) (hc : c < 256) (hg : Blk w g S) :
    Calls Try.prog 40 #[.pointer (some ⟨g, 0, none⟩), .int .u8 (c : Int)] w fun e w' => e = .returned (.tuple #[]) ∧ Blk w' g (Cls.del S c) ∧ w.grownBy w' (some g) ∧ w'.heap.size = w.heap.size := by
  have hcell := hg.cell (c / 64) (by omega)
  have hf := hg.free (c / 64)
  have hx := Cls.wd_lt S (c / 64)
  have HB : Hid (Blk w g S) := hg
  clear hg
  go_enter Try.func40, Try.ntmps40
  go_wp2
  go_region
  go_end0
  exact ⟨rfl, blk_set HB.out _ _ (set_del S c hc)⟩

def lowI (c : Int) : Int := if 65 ≤ c ∧ c ≤ 90 then c + 32 else c
def upI (c : Int) : Int := if 97 ≤ c ∧ c ≤ 122 then c - 32 else c
theorem ret_int {k : IntKind} {a b : Int} (h : a = b) : Ending.returned (.int k a) = .returned (.int k b) := by rw [h]

theorem lower_any (c : Int) (w : World) (h0 : 0 ≤ c) (h1 : c < 256) :
    Calls Try.prog 42 #[.int .u8 c] w fun e w' => e = .returned (.int .u8 (lowI c)) ∧ w' = w := by
  rcases (show c < 65 ∨ (65 ≤ c ∧ c ≤ 90) ∨ 90 < c by omega) with h | h | h
  all_goals
    go_enter Try.func42, Try.ntmps42
    go_wp2
    go_ret
    exact ⟨ret_int (by unfold lowI; split <;> omega), rfl⟩
theorem lawLower_any (c : Int) (w : World) (h0 : 0 ≤ c) (h1 : c < 256) :
    Calls Try.prog 24 #[.int .u8 c] w fun e w' => e = .returned (.int .u8 (lowI c)) ∧ w' = w := by
  rcases (show c < 65 ∨ (65 ≤ c ∧ c ≤ 90) ∨ 90 < c by omega) with h | h | h
  all_goals
    go_enter Try.func24, Try.ntmps24
    go_wp2
    go_ret
    exact ⟨ret_int (by unfold lowI; split <;> omega), rfl⟩
theorem lawUpper_any (c : Int) (w : World) (h0 : 0 ≤ c) (h1 : c < 256) :
    Calls Try.prog 25 #[.int .u8 c] w fun e w' => e = .returned (.int .u8 (upI c)) ∧ w' = w := by
  rcases (show c < 97 ∨ (97 ≤ c ∧ c ≤ 122) ∨ 122 < c by omega) with h | h | h
  all_goals
    go_enter Try.func25, Try.ntmps25
    go_wp2
    go_ret
    exact ⟨ret_int (by unfold upI; split <;> omega), rfl⟩

theorem bit_eq (S : Nat → Bool) (c : Nat) : (bits BinOp.and IntKind.u64 (((Cls.wd S (c / 64) : Nat) : Int) / 2 ^ (c % 64)) 1 == 1) = S c := by
  have e : (((Cls.wd S (c / 64) : Nat) : Int) / 2 ^ (c % 64)) = ((Cls.wd S (c / 64) / 2 ^ (c % 64) : Nat) : Int) := by norm_cast
  have hlt : Cls.wd S (c / 64) / 2 ^ (c % 64) < 18446744073709551616 := Nat.lt_of_le_of_lt (Nat.div_le_self _ _) (Cls.wd_lt S _)
  have h1 : (1 : Int) = ((1 : Nat) : Int) := rfl
  rw [e, h1, u64_and_nat _ 1 hlt (by omega), nat_mask1, Cls.has]
  cases S c <;> rfl

set_option maxRecDepth 100000 in
set_option maxHeartbeats 400000 in
theorem hasBit_any (w : World) (S : Nat → Bool) (c : Nat) (hc : c < 256) :
    Calls Try.prog 26 #[.agg (clsA S), .int .i64 (c : Int)] w fun e w' => e = .returned (.bool (S c)) ∧ Below w.heap.size w w' := by
  unfold clsA
  have hcell : (w.alloc (.cells #[.int .u64 ((Cls.wd S 0 : Nat) : Int), .int .u64 ((Cls.wd S 1 : Nat) : Int), .int .u64 ((Cls.wd S 2 : Nat) : Int), .int .u64 ((Cls.wd S 3 : Nat) : Int)] 34)).cell? ⟨w.heap.size, c / 64, none⟩ = some (.int .u64 ((Cls.wd S (c / 64) : Nat) : Int)) := by
    rw [cell_of_row _ w.heap.size (c / 64) _ 34 (0, 0) (heap_alloc_new w _)]
    have h4 : c / 64 < 4 := by omega
    rcases four_cases h4 with h | h | h | h <;> rw [h] <;> rfl
  have hx := Cls.wd_lt S (c / 64)
  go_enter Try.func26, Try.ntmps26
  go_wp2
  go_ret
  exact ⟨ret_bool (bit_eq S c), (Below.refl _ _).alloc (Nat.le_refl _) _⟩

theorem not_eq (S : Nat → Bool) (j : Nat) : bits BinOp.xor IntKind.u64 IntKind.u64.max ((Cls.wd S j : Nat) : Int) = ((Cls.wd (Cls.compl S) j : Nat) : Int) := by
  have h1 : IntKind.u64.max = ((18446744073709551615 : Nat) : Int) := by decide
  rw [h1, u64_xor_nat _ _ (by omega) (Cls.wd_lt S j), Cls.xor_compl]
theorem or_eq (S T : Nat → Bool) (j : Nat) : bits BinOp.or IntKind.u64 ((Cls.wd S j : Nat) : Int) ((Cls.wd T j : Nat) : Int) = ((Cls.wd (Cls.union S T) j : Nat) : Int) := by
  rw [u64_or_nat _ _ (Cls.wd_lt S j) (Cls.wd_lt T j), Cls.or_union]

set_option maxRecDepth 100000 in
set_option maxHeartbeats 1000000 in
theorem compl_any (w : World) (S : Nat → Bool) :
    Calls Try.prog 34 #[.agg (clsA S)] w fun e w' => e = .returned (.agg (clsA (Cls.compl S))) ∧ Below w.heap.size w w' := by
  unfold clsA
  go_enter Try.func34, Try.ntmps34
  go_wp2
  refine wp_loop_rounds 5 ?_
  rw [rounds_succ]
  go_wp2
  rw [rounds_succ]
  go_wp2
  rw [rounds_succ]
  go_wp2
  rw [rounds_succ]
  go_wp2
  rw [rounds_succ]
  go_wp2
  refine bodyPost_ret (v := .agg #[.int .u64 (bits BinOp.xor IntKind.u64 IntKind.u64.max ((Cls.wd S 0 : Nat) : Int)), .int .u64 (bits BinOp.xor IntKind.u64 IntKind.u64.max ((Cls.wd S 1 : Nat) : Int)), .int .u64 (bits BinOp.xor IntKind.u64 IntKind.u64.max ((Cls.wd S 2 : Nat) : Int)), .int .u64 (bits BinOp.xor IntKind.u64 IntKind.u64.max ((Cls.wd S 3 : Nat) : Int))]) (by simp [results, Try.results34, go_sem]) rfl ⟨?_, ((Below.refl _ _).alloc (Nat.le_refl _) _).alloc (by simp) _⟩
  rw [not_eq, not_eq, not_eq, not_eq]

set_option maxRecDepth 100000 in
set_option maxHeartbeats 1000000 in
theorem union_any (w : World) (S T : Nat → Bool) :
    Calls Try.prog 37 #[.agg (clsA S), .agg (clsA T)] w fun e w' => e = .returned (.agg (clsA (Cls.union S T))) ∧ Below w.heap.size w w' := by
  unfold clsA
  go_enter Try.func37, Try.ntmps37
  go_wp2
  refine wp_loop_rounds 5 ?_
  rw [rounds_succ]
  go_wp2
  go_region
  go_wp2
  rw [rounds_succ]
  go_wp2
  go_region
  go_wp2
  rw [rounds_succ]
  go_wp2
  go_region
  go_wp2
  rw [rounds_succ]
  go_wp2
  go_region
  go_wp2
  rw [rounds_succ]
  go_wp2
  refine bodyPost_ret (v := .agg #[.int .u64 (bits BinOp.or IntKind.u64 ((Cls.wd S 0 : Nat) : Int) ((Cls.wd T 0 : Nat) : Int)), .int .u64 (bits BinOp.or IntKind.u64 ((Cls.wd S 1 : Nat) : Int) ((Cls.wd T 1 : Nat) : Int)), .int .u64 (bits BinOp.or IntKind.u64 ((Cls.wd S 2 : Nat) : Int) ((Cls.wd T 2 : Nat) : Int)), .int .u64 (bits BinOp.or IntKind.u64 ((Cls.wd S 3 : Nat) : Int) ((Cls.wd T 3 : Nat) : Int))]) (by simp [results, Try.results37, go_sem]) rfl ⟨?_, ?_⟩
  · rw [or_eq, or_eq, or_eq, or_eq]
  · exact (((((((Below.refl _ _).alloc (Nat.le_refl _) _).alloc (by simp) _).alloc (by simp; omega) _).drew).drew).drew).drew
end Go.Proofs.Qxb6000758a
