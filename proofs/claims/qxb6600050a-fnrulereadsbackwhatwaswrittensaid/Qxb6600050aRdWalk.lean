/-
  The reader: expect (36), number (33), walked.
-/
import Derived.Test.Qxb6600050aProg
import Derived.WalkKit
import Derived.WalkSpells
import Derived.WalkLawsBesides
import Derived.Deep.LoopGhost
import Derived.Deep.QuietTactic
import Derived.BigQuiet
import Derived.BigRegion
import Derived.Lib.IndexBytes
import Derived.Test.Qxb6600050aNumPlain
namespace Go.Proofs.Qxb6600050a
open Go.RowKit

/-- Block g is the reader at place i of s. -/
def Rd (w : World) (g : Nat) (s : ByteArray) (i : Nat) : Prop := w.heap[g]? = some (.cells #[.string s, .int .i64 (i : Int)] 45 (0, 0))
variable {w w' : World} {g : Nat} {s : ByteArray} {i : Nat}
theorem Rd.c0 (h : Rd w g s i) : w.cell? ⟨g, 0, none⟩ = some (.string s) := by rw [cell_of_row w g 0 _ 45 (0, 0) h]; rfl
theorem Rd.c1 (h : Rd w g s i) : w.cell? ⟨g, 1, none⟩ = some (.int .i64 (i : Int)) := by rw [cell_of_row w g 1 _ 45 (0, 0) h]; rfl
theorem Rd.free (h : Rd w g s i) (k : Nat) : w.frozen? ⟨g, k, none⟩ = false := by unfold Rd at h; simp [World.frozen?, h]
theorem Rd.lt (h : Rd w g s i) : g < w.heap.size := (Array.getElem?_eq_some_iff.1 h).1
theorem Rd.drew (h : Rd w g s i) : Rd w.drew g s i := h
theorem Rd.set (h : Rd w g s i) (j : Nat) : Rd (w.setCell ⟨g, 1, none⟩ (.int .i64 (j : Int))) g s j := by
  unfold Rd at *
  rw [heap_setCell_same w g 1 _ 45 _ h]; rfl

theorem ret_bool {a b : Bool} (h : a = b) : Ending.returned (.bool a) = .returned (.bool b) := by rw [h]
theorem ret_ib {n : Int} {a b : Bool} (h : a = b) : Ending.returned (.tuple #[.int .i64 n, .bool a]) = .returned (.tuple #[.int .i64 n, .bool b]) := by rw [h]
/-- What a method of the reader leaves: the reader at place j; all else as it was. -/
structure Moved (g : Nat) (s : ByteArray) (j : Nat) (w w' : World) : Prop where
  rd : Rd w' g s j
  grown : w.grownBy w' (some g)
  size : w'.heap.size = w.heap.size

theorem drewN_same (w : World) : ∀ n, (w.drewN n).heap = w.heap ∧ (w.drewN n).os = w.os ∧ (w.drewN n).tape = w.tape ∧ (w.drewN n).output = w.output
  | 0 => ⟨rfl, rfl, rfl, rfl⟩
  | _ + 1 => ⟨rfl, rfl, rfl, rfl⟩
theorem moved_drew (h : Rd w g s i) (n : Nat) : Moved g s i w (w.drewN n) := by
  obtain ⟨h1, h2, h3, h4⟩ := drewN_same w n
  exact ⟨by unfold Rd at *; rw [h1]; exact h, ⟨h2, h3, h4, by rw [h1]; exact Nat.le_refl _, fun k _ _ => by rw [h1]⟩, by rw [h1]⟩
theorem moved_set (h : Rd w g s i) (n j : Nat) : Moved g s j w ((w.drewN n).setCell ⟨g, 1, none⟩ (.int .i64 (j : Int))) := by
  obtain ⟨h1, h2, h3, h4⟩ := drewN_same w n
  have hd : Rd (w.drewN n) g s i := (moved_drew h n).rd
  refine ⟨hd.set j, ⟨h2, h3, h4, by simp, fun k _ hk => ?_⟩, by simp⟩
  rw [heap_setCell_other _ _ _ _ (by intro e; subst e; exact hk rfl), h1]
theorem Moved.trans {j k : Nat} {w1 w2 : World} (h : Moved g s j w w1) (h2 : Moved g s k w1 w2) : Moved g s k w w2 :=
  ⟨h2.rd, ⟨h2.grown.os.trans h.grown.os, h2.grown.tape.trans h.grown.tape, h2.grown.output.trans h.grown.output, Nat.le_trans h.grown.size h2.grown.size,
    fun q hq hne => (h2.grown.block q (by rw [h.size]; exact hq) hne).trans (h.grown.block q hq hne)⟩, h2.size.trans h.size⟩

set_option maxHeartbeats 400000 in
theorem expect_yes (w : World) (g : Nat) (s : ByteArray) (i : Nat) (c : Int) (hr : Rd w g s i) (hs : s.size ≤ 16777216) (hi : i < s.size) (hc : (((s[i]'hi).toNat : Int) == c) = true) :
    Calls Try.prog 36 #[.pointer (some ⟨g, 0, none⟩), .int .u8 c] w fun e w' => e = .returned (.bool true) ∧ Moved g s (i + 1) w w' := by
  have c0 := hr.c0
  have c1 := hr.c1
  have f1 := hr.free 1
  have HR := (show Hid _ from hr)
  clear hr
  have hlt : (i : Int) < (s.size : Int) := by omega
  go_enter Try.func36, Try.ntmps36
  go_wp2_with fail
  go_quiet (fail)
  go_wp2_with fail
  go_ret
  exact ⟨rfl, moved_set HR.out nq (i + 1)⟩

set_option maxHeartbeats 400000 in
theorem expect_no (w : World) (g : Nat) (s : ByteArray) (i : Nat) (c : Int) (hr : Rd w g s i) (_hs : s.size ≤ 16777216) (hi : i < s.size) (hc : (((s[i]'hi).toNat : Int) == c) = false) :
    Calls Try.prog 36 #[.pointer (some ⟨g, 0, none⟩), .int .u8 c] w fun e w' => e = .returned (.bool false) ∧ Moved g s i w w' := by
  have c0 := hr.c0
  have c1 := hr.c1
  have HR := (show Hid _ from hr)
  clear hr
  have hlt : (i : Int) < (s.size : Int) := by omega
  go_enter Try.func36, Try.ntmps36
  go_wp2_with fail
  go_quiet (fail)
  go_wp2_with fail
  go_ret
  exact ⟨rfl, moved_drew HR.out nq⟩

set_option maxHeartbeats 400000 in
theorem expect_end (w : World) (g : Nat) (s : ByteArray) (i : Nat) (c : Int) (hr : Rd w g s i) (_hs : s.size ≤ 16777216) (hi : s.size ≤ i) :
    Calls Try.prog 36 #[.pointer (some ⟨g, 0, none⟩), .int .u8 c] w fun e w' => e = .returned (.bool false) ∧ Moved g s i w w' := by
  have c0 := hr.c0
  have c1 := hr.c1
  have HR := (show Hid _ from hr)
  clear hr
  have hlt : decide (i < s.size) = false := by simp; omega
  go_enter Try.func36, Try.ntmps36
  go_wp2_with fail
  go_quiet (fail)
  go_wp2_with fail
  go_ret
  exact ⟨rfl, moved_drew HR.out nq⟩

/-- The bytes from a to b. -/
def seg (s : ByteArray) (a b : Nat) : List UInt8 := (s.data.toList.drop a).take (b - a)
theorem seg_nil (s : ByteArray) (a : Nat) : seg s a a = [] := by simp [seg]
theorem seg_snoc (s : ByteArray) (a i : Nat) (h : a ≤ i) (hi : i < s.size) : seg s a (i + 1) = seg s a i ++ [s[i]] := by
  unfold seg
  have hl : i - a < (s.data.toList.drop a).length := by rw [List.length_drop, ← Lib.size_eq]; omega
  rw [show i + 1 - a = (i - a) + 1 by omega, List.take_succ_eq_append_getElem hl]
  congr 2
  rw [List.getElem_drop]
  have : a + (i - a) = i := by omega
  simp only [this]; rfl
/-- The value of the digits from a to b. -/
def vl (s : ByteArray) (a b : Nat) : Nat := Num.val (seg s a b) 0
theorem vl_nil (s : ByteArray) (a : Nat) : vl s a a = 0 := by rw [vl, seg_nil]; rfl
theorem vl_snoc (s : ByteArray) (a i : Nat) (h : a ≤ i) (hi : i < s.size) : vl s a (i + 1) = 10 * vl s a i + (s[i].toNat - 48) := by
  rw [vl, seg_snoc s a i h hi, Num.val_snoc]; rfl

def digB (c : Int) : Bool := decide (48 ≤ c ∧ c ≤ 57)
theorem dig_bd {c : UInt8} (h : digB (c.toNat : Int) = true) : 48 ≤ c.toNat ∧ c.toNat ≤ 57 := by
  unfold digB at h; simp at h; omega

set_option maxRecDepth 100000 in
set_option maxHeartbeats 1000000 in
/-- number: the digits run from i to j; no prefix of them is greater than most. -/
theorem number_ok (w : World) (g : Nat) (s : ByteArray) (i j : Nat) (least most : Int) (hr : Rd w g s i) (hs : s.size ≤ 16777216) (hij : i ≤ j) (hj : j ≤ s.size) (hm : most ≤ 100000000)
    (hd : Hid (∀ k (h : k < j), i ≤ k → digB ((s[k]'(by omega)).toNat : Int) = true)) (he : Hid (∀ h : j < s.size, digB (s[j].toNat : Int) = false)) (hv : Hid (∀ k, i < k → k ≤ j → (vl s i k : Int) ≤ most)) :
    Calls Try.prog 33 #[.pointer (some ⟨g, 0, none⟩), .int .i64 least, .int .i64 most] w fun e w' =>
      e = .returned (.tuple #[.int .i64 (vl s i j : Int), .bool (decide (i < j) && decide (least ≤ (vl s i j : Int)))]) ∧ Moved g s j w w' := by
  have c1 := hr.c1
  have HR := (show Hid (Rd w g s i) from hr)
  clear hr
  go_enter Try.func33, Try.ntmps33
  go_wp2_with fail
  go_loopg [9] (j - i) (fun n nv wr => ∃ k : Nat, n = j - k ∧ i ≤ k ∧ k ≤ j ∧ nv = .int .i64 (vl s i k : Int) ∧ Moved g s k w wr)
  case atStart => exact ⟨i, rfl, by omega, hij, by rw [vl_nil]; rfl, moved_drew HR.out 0⟩
  case round =>
    obtain ⟨k, rfl, hk1, hk2, rfl, hmv⟩ := hrel
    clear c1
    have c0 := hmv.rd.c0
    have c1 := hmv.rd.c1
    have f1 := hmv.rd.free 1
    by_cases hkj : k < j
    · have hks : k < s.size := by omega
      have hlt : (k : Int) < (s.size : Int) := by omega
      have hdk := dig_bd (hd.out k hkj hk1)
      have d1 : (48 : Int) ≤ ((s[k]'hks).toNat : Int) := by omega
      have d2 : ((s[k]'hks).toNat : Int) ≤ 57 := by omega
      have v1 : (vl s i k : Int) ≤ 100000000 := by
        by_cases h : i < k
        · have := hv.out k h hk2; omega
        · have : k = i := by omega
          subst this; rw [vl_nil]; omega
      have HV : Hid (vl s i (k + 1) = 10 * vl s i k + (s[k].toNat - 48)) := vl_snoc s i k hk1 hks
      have v3 : (vl s i k : Int) * 10 + (((s[k]'hks).toNat : Int) - 48) ≤ most := by
        have := hv.out (k + 1) (by omega) hkj
        rw [HV.out] at this; omega
      go_wp2_with fail
      go_quiet (fail)
      go_wp2_with fail
      go_quiet (fail)
      go_wp2_with fail
      go_roundg (j - (k + 1))
      case rel => exact ⟨k + 1, rfl, by omega, by omega, by rw [HV.out]; go_num, hmv.trans (moved_set hmv.rd _ (k + 1))⟩
      case measure => omega
    · obtain rfl : k = j := by omega
      by_cases hks : k < s.size
      · have hlt : (k : Int) < (s.size : Int) := by omega
        have hdk := he.out hks
        rcases (show ((s[k].toNat : Int) < 48) ∨ (48 ≤ (s[k].toNat : Int) ∧ 57 < (s[k].toNat : Int)) by unfold digB at hdk; simp at hdk; omega) with d1 | ⟨d1, d2⟩
        · have d1b : decide ((48 : Int) ≤ (s[k].toNat : Int)) = false := by simp; omega
          go_wp2_with fail
          go_quiet (fail)
          go_wp2_with fail
          · go_ret2
            exact ⟨ret_ib (by have h : i < k := (by assumption); simp [h]), hmv.trans (moved_drew hmv.rd nq)⟩
          · go_ret2
            exact ⟨ret_ib (by simp; omega), hmv.trans (moved_drew hmv.rd nq)⟩
        · have d2b : decide ((s[k].toNat : Int) ≤ 57) = false := by simp; omega
          go_wp2_with fail
          go_quiet (fail)
          go_wp2_with fail
          · go_ret2
            exact ⟨ret_ib (by have h : i < k := (by assumption); simp [h]), hmv.trans (moved_drew hmv.rd nq)⟩
          · go_ret2
            exact ⟨ret_ib (by simp; omega), hmv.trans (moved_drew hmv.rd nq)⟩
      · have hltn : decide (k < s.size) = false := by simp; omega
        go_wp2_with fail
        go_quiet (fail)
        go_wp2_with fail
        · go_ret2
          exact ⟨ret_ib (by have h : i < k := (by assumption); simp [h]), hmv.trans (moved_drew hmv.rd nq)⟩
        · go_ret2
          exact ⟨ret_ib (by simp; omega), hmv.trans (moved_drew hmv.rd nq)⟩

set_option maxRecDepth 100000 in
set_option maxHeartbeats 1000000 in
/-- number: digits from i on up to place j, whose digit makes the number greater than most. -/
theorem number_fail (w : World) (g : Nat) (s : ByteArray) (i j : Nat) (least most : Int) (hr : Rd w g s i) (hs : s.size ≤ 16777216) (hij : i ≤ j) (hj : j < s.size) (hm : most ≤ 100000000)
    (hd : Hid (∀ k (h : k < j + 1), i ≤ k → digB ((s[k]'(by omega)).toNat : Int) = true)) (hv : Hid (∀ k, i < k → k ≤ j → (vl s i k : Int) ≤ most)) (hg : Hid (most < (vl s i (j + 1) : Int))) :
    Calls Try.prog 33 #[.pointer (some ⟨g, 0, none⟩), .int .i64 least, .int .i64 most] w fun e w' =>
      e = .returned (.tuple #[.int .i64 0, .bool false]) ∧ Moved g s j w w' := by
  have c1 := hr.c1
  have HR := (show Hid (Rd w g s i) from hr)
  clear hr
  go_enter Try.func33, Try.ntmps33
  go_wp2_with fail
  go_loopg [9] (j - i) (fun n nv wr => ∃ k : Nat, n = j - k ∧ i ≤ k ∧ k ≤ j ∧ nv = .int .i64 (vl s i k : Int) ∧ Moved g s k w wr)
  case atStart => exact ⟨i, rfl, by omega, hij, by rw [vl_nil]; rfl, moved_drew HR.out 0⟩
  case round =>
    obtain ⟨k, rfl, hk1, hk2, rfl, hmv⟩ := hrel
    clear c1
    have c0 := hmv.rd.c0
    have c1 := hmv.rd.c1
    have f1 := hmv.rd.free 1
    have hks : k < s.size := by omega
    have hlt : (k : Int) < (s.size : Int) := by omega
    have hdk := dig_bd (hd.out k (by omega) hk1)
    have d1 : (48 : Int) ≤ ((s[k]'hks).toNat : Int) := by omega
    have d2 : ((s[k]'hks).toNat : Int) ≤ 57 := by omega
    have v1 : (vl s i k : Int) ≤ 100000000 := by
      by_cases h : i < k
      · have := hv.out k h hk2; omega
      · have : k = i := by omega
        subst this; rw [vl_nil]; omega
    have HV : Hid (vl s i (k + 1) = 10 * vl s i k + (s[k].toNat - 48)) := vl_snoc s i k hk1 hks
    by_cases hkj : k < j
    · have v3 : (vl s i k : Int) * 10 + (((s[k]'hks).toNat : Int) - 48) ≤ most := by
        have := hv.out (k + 1) (by omega) hkj
        rw [HV.out] at this; omega
      go_wp2_with fail
      go_quiet (fail)
      go_wp2_with fail
      go_quiet (fail)
      go_wp2_with fail
      go_roundg (j - (k + 1))
      case rel => exact ⟨k + 1, rfl, by omega, by omega, by rw [HV.out]; go_num, hmv.trans (moved_set hmv.rd _ (k + 1))⟩
      case measure => omega
    · obtain rfl : k = j := by omega
      have v3 : most < (vl s i k : Int) * 10 + (((s[k]'hks).toNat : Int) - 48) := by
        have := hg.out
        rw [HV.out] at this; omega
      go_wp2_with fail
      go_quiet (fail)
      go_wp2_with fail
      go_quiet (fail)
      go_wp2_with fail
      go_ret2
      exact ⟨rfl, hmv.trans (moved_drew hmv.rd _)⟩
end Go.Proofs.Qxb6600050a
