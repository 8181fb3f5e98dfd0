/-
  zzIsDigit (14), zzGreater (16), zzValue (17), ZZNumberB1 (13), zzBytes (12), walked.
-/
import Derived.Test.Qxb6600050aRdWalk
namespace Go.Proofs.Qxb6600050a
open Go.RowKit

theorem isDigit_any (c : Int) (w : World) :
    Calls Try.prog 14 #[.int .u8 c] w fun e w' => e = .returned (.bool (digB c)) ∧ w' = w := by
  rcases (show c < 48 ∨ (48 ≤ c ∧ c ≤ 57) ∨ 57 < c by omega) with h | h | h
  all_goals
    go_enter Try.func14, Try.ntmps14
    go_wp2
    go_ret
    exact ⟨ret_bool (by unfold digB; first | (simp; omega) | (rw [Bool.eq_iff_iff]; simp; omega)), rfl⟩

theorem below_drewN {B : Nat} {a w : World} (h : Below B a w) (n : Nat) : Below B a (w.drewN n) := ⟨h.os, h.tape, h.output, h.size, h.block⟩

/-- a > b as numbers, both digits of one length: the first place at which they part. -/
def grt : List UInt8 → List UInt8 → Bool
  | a :: l, b :: m => if a = b then grt l m else decide (b.toNat < a.toNat)
  | _, _ => false

theorem drop_cons (s : ByteArray) (k : Nat) (h : k < s.size) : s.data.toList.drop k = s[k] :: s.data.toList.drop (k + 1) := by
  rw [List.drop_eq_getElem_cons (by simpa using h)]; rfl
theorem drop_end (s : ByteArray) (k : Nat) (h : s.size ≤ k) : s.data.toList.drop k = [] :=
  List.drop_eq_nil_of_le (by simpa using h)

set_option maxHeartbeats 1000000 in
theorem greater_any (a b : ByteArray) (w : World) (ha : a.size ≤ 16777216) (hb : b.size ≤ 16777216) (R : Bool) (hR : Hid (grt a.data.toList b.data.toList = R)) :
    Calls Try.prog 16 #[.string a, .string b] w fun e w' => e = .returned (.bool R) ∧ Below w.heap.size w w' := by
  go_enter Try.func16, Try.ntmps16
  go_wp2_with fail
  go_loopg [5] a.size (fun n kv wr => ∃ k : Nat, n = a.size - k ∧ k ≤ a.size ∧ k ≤ b.size ∧ kv = .int .i64 k ∧ Hid (grt (a.data.toList.drop k) (b.data.toList.drop k) = R) ∧ Below w.heap.size w wr)
  case atStart => exact ⟨0, rfl, by omega, by omega, rfl, by simpa using hR, Below.refl _ _⟩
  case round =>
    obtain ⟨k, rfl, hk1, hk2, rfl, hg, hbel⟩ := hrel
    by_cases h1 : k < a.size
    · have h1i : (k : Int) < (a.size : Int) := by omega
      by_cases h2 : k < b.size
      · have h2i : (k : Int) < (b.size : Int) := by omega
        have hg2 := hg.out
        rw [drop_cons a k h1, drop_cons b k h2, grt] at hg2
        by_cases he : a[k] = b[k]
        · rw [if_pos he] at hg2
          have hgn : Hid (grt (a.data.toList.drop (k + 1)) (b.data.toList.drop (k + 1)) = R) := hg2
          have heb : ((a[k].toNat : Int) != (b[k].toNat : Int)) = false := by rw [he]; simp
          clear hg2 hg he
          go_wp2_with fail
          go_quiet (fail)
          go_wp2_with fail
          go_roundg (a.size - (k + 1))
          case rel => exact ⟨k + 1, rfl, by omega, by omega, by go_num, hgn, below_drewN hbel _⟩
          case measure => omega
        · rw [if_neg he] at hg2
          have heb : ((a[k].toNat : Int) != (b[k].toNat : Int)) = true := by
            simp; intro h; exact he (UInt8.toNat_inj.1 (by omega))
          have hgr : Hid (R = decide (b[k].toNat < a[k].toNat)) := hg2.symm
          clear hg2 hg he
          go_wp2_with fail
          go_quiet (fail)
          go_wp2_with fail
          go_quiet (fail)
          go_wp2_with fail
          go_ret
          exact ⟨by rw [hgr.out]; rfl, below_drewN (below_drewN hbel _) _⟩
      · have hR2 : Hid (R = false) := by
          have := hg.out
          rw [drop_cons a k h1, drop_end b k (by omega), grt] at this
          · exact this.symm
          · intro _ _ _ _ _ h; cases h
        go_wp2_with fail
        go_ret
        exact ⟨by rw [hR2.out]; rfl, hbel⟩
    · have hR2 : Hid (R = false) := by
        have := hg.out
        rw [drop_end a k (by omega), grt] at this
        · exact this.symm
        · intro _ _ _ _ h; cases h
      go_wp2_with fail
      go_ret
      exact ⟨by rw [hR2.out]; rfl, hbel⟩

set_option maxHeartbeats 1000000 in
theorem value_any (t : ByteArray) (w : World) (ht : t.size ≤ 12) (hd : Hid (∀ k (h : k < t.size), digB (t[k].toNat : Int) = true)) :
    Calls Try.prog 17 #[.string t] w fun e w' => e = .returned (.int .i64 (vl t 0 t.size : Int)) ∧ w' = w := by
  go_enter Try.func17, Try.ntmps17
  go_wp2_with fail
  go_loopg [3, 4] t.size (fun n vv kv wr => ∃ k : Nat, n = t.size - k ∧ k ≤ t.size ∧ vv = .int .i64 (vl t 0 k : Int) ∧ Hid (vl t 0 k < 10 ^ k) ∧ kv = .int .i64 k ∧ wr = w)
  case atStart => exact ⟨0, rfl, by omega, by rw [vl_nil]; rfl, by (show vl t 0 0 < 10 ^ 0; rw [vl_nil]; omega), rfl, rfl⟩
  case round =>
    obtain ⟨k, rfl, hk1, rfl, hp, rfl, hwr⟩ := hrel
    subst hwr
    by_cases hk : k < t.size
    · have hb := dig_bd (hd.out k hk)
      have HV : Hid (vl t 0 (k + 1) = 10 * vl t 0 k + (t[k].toNat - 48)) := vl_snoc t 0 k (by omega) hk
      have hp2 : Hid (vl t 0 (k + 1) < 10 ^ (k + 1)) := by
        show _ < _
        rw [HV.out, Nat.pow_succ]
        have := hp.out; omega
      have hv : vl t 0 k < 1000000000000 := by
        have h1 := hp.out
        have h2 : 10 ^ k ≤ 10 ^ 12 := Nat.pow_le_pow_right (by omega) (by omega)
        omega
      have d1 : (48 : Int) ≤ (t[k].toNat : Int) := by omega
      have d2 : (t[k].toNat : Int) ≤ 57 := by omega
      have hvi : (vl t 0 k : Int) < 1000000000000 := by omega
      clear hp hb
      go_wp2_with fail
      go_roundg (t.size - (k + 1))
      case rel => exact ⟨k + 1, rfl, by omega, by rw [HV.out]; go_num, hp2, by go_num, rfl⟩
      case measure => omega
    · obtain rfl : k = t.size := by omega
      go_wp2_with fail
      go_ret
      exact ⟨rfl, rfl⟩

/-- The reader's box, laid. -/
theorem rd_new (w : World) (s : ByteArray) (i : Nat) : Rd (w.alloc (.cells #[.string s, .int .i64 (i : Int)] 45)) w.heap.size s i := heap_alloc_new w _
theorem Moved.below {w w' : World} {s : ByteArray} {j : Nat} {o : Obj} (h : Moved w.heap.size s j (w.alloc o) w') : Below w.heap.size w w' :=
  ((Below.refl _ _).alloc (Nat.le_refl _) _).grown h.grown (by simp) (fun k hk => by simp at hk; omega)

set_option maxHeartbeats 1000000 in
theorem zz13_of (s : ByteArray) (i j : Nat) (least most n : Int) (ok : Bool) (w : World)
    (h33 : ∀ (W : World), Rd W w.heap.size s i → Calls Try.prog 33 #[.pointer (some ⟨w.heap.size, 0, none⟩), .int .i64 least, .int .i64 most] W fun e w' => e = .returned (.tuple #[.int .i64 n, .bool ok]) ∧ Moved w.heap.size s j W w') :
    Calls Try.prog 13 #[.string s, .int .i64 (i : Int), .int .i64 least, .int .i64 most] w fun e w' => e = .returned (.tuple #[.int .i64 n, .int .i64 (j : Int), .bool ok]) ∧ Below w.heap.size w w' := by
  have H33 := (show Hid _ from h33)
  clear h33
  go_enter Try.func13, Try.ntmps13
  go_wp2_with fail
  refine (H33.out _ (rd_new w s i)).mono ?_
  rintro e w1 ⟨rfl, hm⟩
  have c1 := hm.rd.c1
  have hb := hm.below
  clear hm
  go_wp2_with fail
  go_quiet (fail)
  go_wp2_with fail
  go_ret3
  exact ⟨rfl, below_drewN hb _⟩

theorem zz12_yes (s : ByteArray) (i least most : Int) (w : World) (hs : s.size ≤ 1048576) :
    Calls Try.prog 12 #[.string s, .int .i64 i, .int .i64 least, .int .i64 most] w fun e w' => e = .returned (.bool true) ∧ w' = w := by
  go_enter Try.func12, Try.ntmps12
  go_wp2
  go_ret
  exact ⟨rfl, rfl⟩
theorem zz12_no (s : ByteArray) (i least most : Int) (w : World) (hs : 1048576 < s.size) :
    Calls Try.prog 12 #[.string s, .int .i64 i, .int .i64 least, .int .i64 most] w fun e w' => e = .returned (.bool false) ∧ w' = w := by
  go_enter Try.func12, Try.ntmps12
  go_wp2
  go_ret
  exact ⟨rfl, rfl⟩
end Go.Proofs.Qxb6600050a
