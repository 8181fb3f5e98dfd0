/-
  The walk of lawIPv4Model (14).
-/
import Derived.Test.Qxb6000758aIpWalk
namespace Go.Proofs.Qxb6000758a
open Go.RowKit

def seg (s : ByteArray) (a b : Nat) : List UInt8 := (s.data.toList.drop a).take (b - a)
theorem seg_nil (s : ByteArray) (a : Nat) : seg s a a = [] := by simp [seg]
theorem seg_cons (s : ByteArray) (k i : Nat) (h : k < i) (hi : i ≤ s.size) : seg s k i = s[k] :: seg s (k + 1) i := by
  unfold seg
  rw [drop_cons s k (by omega), show i - k = (i - (k + 1)) + 1 by omega, List.take_succ_cons]
theorem seg_snoc (s : ByteArray) (a i : Nat) (h : a ≤ i) (hi : i < s.size) : seg s a (i + 1) = seg s a i ++ [s[i]] := by
  unfold seg
  have hl : i - a < (s.data.toList.drop a).length := by rw [List.length_drop, ← Lib.size_eq]; omega
  rw [show i + 1 - a = (i - a) + 1 by omega, List.take_succ_eq_append_getElem hl]
  congr 2
  rw [List.getElem_drop]
  have : a + (i - a) = i := by omega
  simp only [this]; rfl
theorem seg_ne (s : ByteArray) (a i : Nat) (h : a < i) (hi : i ≤ s.size) : ¬ seg s a i = [] := by
  rw [seg_cons s a i h hi]; simp

/-- Where the model stands: what is left from i on, the part from start to i. -/
def Ip.Md (s : ByteArray) (st i : Nat) (acc : List Nat) (R : Option (List Nat × Bool)) : Prop := Ip.md (s.data.toList.drop i) (seg s st i) acc = R

theorem Ip.Md_next (s : ByteArray) (st i : Nat) (acc : List Nat) (R : Option (List Nat × Bool)) (h : Ip.Md s st i acc R) (hi : i < s.size) (hst : st ≤ i) (hc : ¬ (s[i].toNat : Int) = 46) : Ip.Md s st (i + 1) acc R := by
  unfold Ip.Md at *
  rw [drop_cons s i hi, Ip.md, if_pos (by intro e; rw [e] at hc; exact hc rfl)] at h
  rw [seg_snoc s st i hst hi]; exact h
theorem is46 {c : UInt8} (h : (c.toNat : Int) = 46) : c = 46 := by
  apply UInt8.toNat_inj.1; simp; omega
theorem Ip.Md_emptyMid (s : ByteArray) (i : Nat) (acc : List Nat) (R : Option (List Nat × Bool)) (h : Ip.Md s i i acc R) (hi : i < s.size) (hc : (s[i].toNat : Int) = 46) : R = none := by
  unfold Ip.Md at h
  rw [drop_cons s i hi, Ip.md, if_neg (by rw [is46 hc]; simp), seg_nil, if_pos rfl] at h
  exact h.symm
theorem Ip.Md_emptyEnd (s : ByteArray) (i : Nat) (acc : List Nat) (R : Option (List Nat × Bool)) (h : Ip.Md s i i acc R) (hi : s.size ≤ i) : R = if acc = [] then none else some (acc, true) := by
  unfold Ip.Md at h
  rw [drop_end s i hi, Ip.md, seg_nil, if_pos rfl] at h
  exact h.symm
theorem Ip.Md_four (s : ByteArray) (st i : Nat) (acc : List Nat) (R : Option (List Nat × Bool)) (h : Ip.Md s st i acc R) (hst : st < i) (hi : i ≤ s.size) (hc : s.size ≤ i ∨ ∃ hi : i < s.size, (s[i].toNat : Int) = 46) (h4 : acc.length = 4) : R = none := by
  unfold Ip.Md at h
  have hn := seg_ne s st i hst hi
  by_cases hs : i < s.size
  · have hc : (s[i].toNat : Int) = 46 := by rcases hc with hc | ⟨_, hc⟩; omega; exact hc
    rw [drop_cons s i hs, Ip.md, if_neg (by rw [is46 hc]; simp), if_neg hn, if_pos h4] at h
    exact h.symm
  · rw [drop_end s i (by omega), Ip.md, if_neg hn, if_pos h4] at h
    exact h.symm
theorem Ip.Md_bad (s : ByteArray) (st i : Nat) (acc : List Nat) (R : Option (List Nat × Bool)) (h : Ip.Md s st i acc R) (hst : st < i) (hi : i ≤ s.size) (hc : s.size ≤ i ∨ ∃ hi : i < s.size, (s[i].toNat : Int) = 46) (hv : Ip.valG (seg s st i) 0 = none) : R = none := by
  unfold Ip.Md at h
  have hn := seg_ne s st i hst hi
  by_cases hs : i < s.size
  · have hc : (s[i].toNat : Int) = 46 := by rcases hc with hc | ⟨_, hc⟩; omega; exact hc
    rw [drop_cons s i hs, Ip.md, if_neg (by rw [is46 hc]; simp), if_neg hn, hv] at h
    split at h <;> exact h.symm
  · rw [drop_end s i (by omega), Ip.md, if_neg hn, hv] at h
    split at h <;> exact h.symm
theorem Ip.Md_last (s : ByteArray) (st i : Nat) (acc : List Nat) (R : Option (List Nat × Bool)) (v : Nat) (h : Ip.Md s st i acc R) (hst : st < i) (hi : i ≤ s.size) (hc : s.size ≤ i) (hv : Ip.valG (seg s st i) 0 = some v) (h4 : acc.length < 4) : R = some (acc ++ [v], false) := by
  unfold Ip.Md at h
  have hn := seg_ne s st i hst hi
  rw [drop_end s i (by omega), Ip.md, if_neg hn, if_neg (by omega), hv] at h
  exact h.symm
theorem Ip.Md_part (s : ByteArray) (st i : Nat) (acc : List Nat) (R : Option (List Nat × Bool)) (v : Nat) (h : Ip.Md s st i acc R) (hst : st < i) (hi : i < s.size) (hc : (s[i].toNat : Int) = 46) (hv : Ip.valG (seg s st i) 0 = some v) (h4 : acc.length < 4) : Ip.Md s (i + 1) (i + 1) (acc ++ [v]) R := by
  unfold Ip.Md at h ⊢
  have hn := seg_ne s st i hst (by omega)
  rw [drop_cons s i hi, Ip.md, if_neg (by rw [is46 hc]; simp), if_neg hn, if_neg (by omega), hv] at h
  rw [seg_nil]; exact h

/-- Where the inner loop stands: T is the part's value. -/
def Ip.Vl (s : ByteArray) (k i v : Nat) (T : Option Nat) : Prop := Ip.valG (seg s k i) v = T
theorem Ip.Vl_step (s : ByteArray) (k i v : Nat) (T : Option Nat) (h : Ip.Vl s k i v T) (hk : k < i) (hi : i ≤ s.size) (hd : digB ((s[k]'(by omega)).toNat : Int) = true) : Ip.Vl s (k + 1) i (if v ≤ 255 then 10 * v + ((s[k]'(by omega)).toNat - 48) else v) T := by
  unfold Ip.Vl at *
  rw [seg_cons s k i hk hi, Ip.valG, if_pos (by rw [isD_digB]; exact hd)] at h
  exact h
theorem Ip.Vl_bad (s : ByteArray) (k i v : Nat) (T : Option Nat) (h : Ip.Vl s k i v T) (hk : k < i) (hi : i ≤ s.size) (hd : digB ((s[k]'(by omega)).toNat : Int) = false) : T = none := by
  unfold Ip.Vl at *
  rw [seg_cons s k i hk hi, Ip.valG, if_neg (by rw [isD_digB, hd]; simp)] at h
  exact h.symm
theorem Ip.Vl_end (s : ByteArray) (i v : Nat) (T : Option Nat) (h : Ip.Vl s i i v T) : T = if 255 < v then none else some v := by
  unfold Ip.Vl at *
  rw [seg_nil, Ip.valG] at h
  exact h.symm

set_option maxRecDepth 100000 in
set_option maxHeartbeats 2000000 in
theorem model_any (s : ByteArray) (w : World) (hs : s.size ≤ 1048576) (R : Option (List Nat × Bool)) (hR : Hid (Ip.md s.data.toList [] [] = R)) :
    Calls Try.prog 14 #[.string s] w fun e w' => e = .returned (Ip.ansOf R) ∧ Below w.heap.size w w' := by
  go_enter Try.func14, Try.ntmps14
  go_wp2
  go_loopg [6, 7, 8] (s.size) (fun n cv sv iv wr => ∃ (acc : List Nat) (st i : Nat), n = s.size - i ∧ acc.length ≤ 4 ∧ st ≤ i ∧ i ≤ s.size ∧ cv = .int .i64 acc.length ∧ sv = .int .i64 st ∧ iv = .int .i64 i ∧ wr = (w.alloc (.cells #[.int .u8 0, .int .u8 0, .int .u8 0, .int .u8 0] 22)).alloc (.cells #[.int .u8 (acc.getD 0 0 : Nat), .int .u8 (acc.getD 1 0 : Nat), .int .u8 (acc.getD 2 0 : Nat), .int .u8 (acc.getD 3 0 : Nat)] 22) ∧ Hid (Ip.Md s st i acc R))
  case atStart => exact ⟨[], 0, 0, by omega, by simp, by omega, by omega, rfl, rfl, rfl, rfl, by have := hR.out; exact (by unfold Ip.Md; rw [seg_nil]; exact this)⟩
  case round =>
    obtain ⟨acc, st, i, rfl, hacc, hst, hi, rfl, rfl, rfl, rfl, hmd⟩ := hrel
    clear hR
    by_cases hgo : ∃ h : i < s.size, ¬ (s[i].toNat : Int) = 46
    · obtain ⟨hlt, hc⟩ := hgo
      have hm2 : Hid (Ip.Md s st (i + 1) acc R) := Ip.Md_next s st i acc R hmd.out hlt hst hc
      clear hmd
      have hcb : ((s[i].toNat : Int) != 46) = true := by simp [hc]
      go_wp2
      go_roundg (s.size - (i + 1))
      case rel => exact ⟨acc, st, i + 1, rfl, hacc, by omega, by omega, rfl, rfl, by go_num, by simp, hm2⟩
      case measure => omega
    · have hc : s.size ≤ i ∨ ∃ hi : i < s.size, (s[i].toNat : Int) = 46 := by
        by_cases h : i < s.size
        · right; refine ⟨h, ?_⟩
          by_cases h2 : (s[i].toNat : Int) = 46
          · exact h2
          · exact absurd ⟨h, h2⟩ hgo
        · left; omega
      clear hgo
      by_cases hlt : i < s.size
      · have hc46 : (s[i].toNat : Int) = 46 := by rcases hc with hc | ⟨_, hc⟩; omega; exact hc
        have hcb : ((s[i].toNat : Int) != 46) = false := by simp [hc46]
        have hlast : ((i : Int) == (s.size : Int)) = false := by simp; omega
        clear hc
        by_cases hse : st = i
        · subst hse
          have HR : Hid (R = none) := Ip.Md_emptyMid s st acc R hmd.out hlt hc46
          clear hmd hc46
          go_wp2
          exact bodyPost_ret (v := .tuple #[.agg #[.int .u8 0, .int .u8 0, .int .u8 0, .int .u8 0], .int .i64 0, .bool false]) (by simp [results, Try.results14, go_sem]) rfl ⟨by rw [HR.out]; rfl, ((Below.refl _ _).alloc (Nat.le_refl _) _).alloc (by simp) _⟩
        have hsi : st < i := by omega
        have hsb : ((st : Int) == (i : Int)) = false := by simp; omega
        clear hse
        by_cases h4 : acc.length = 4
        · have HR : Hid (R = none) := Ip.Md_four s st i acc R hmd.out hsi hi (.inr ⟨hlt, hc46⟩) h4
          clear hmd hc46
          have h4b : ((acc.length : Int) == 4) = true := by simp; omega
          clear h4
          go_wp2
          exact bodyPost_ret (v := .tuple #[.agg #[.int .u8 0, .int .u8 0, .int .u8 0, .int .u8 0], .int .i64 0, .bool false]) (by simp [results, Try.results14, go_sem]) rfl ⟨by rw [HR.out]; rfl, ((Below.refl _ _).alloc (Nat.le_refl _) _).alloc (by simp) _⟩
        have h4' : acc.length < 4 := by omega
        have h4b : ((acc.length : Int) == 4) = false := by simp; omega
        have HC : Hid ((s[i].toNat : Int) = 46) := hc46
        clear h4 hc46
        go_wp2_with fail
        go_loopg [10, 11] (i - st) (fun n vv kv wr => ∃ (v k : Nat), n = i - k ∧ st ≤ k ∧ k ≤ i ∧ v ≤ 2559 ∧ vv = .int .i64 v ∧ kv = .int .i64 k ∧ wr = (w.alloc (.cells #[.int .u8 0, .int .u8 0, .int .u8 0, .int .u8 0] 22)).alloc (.cells #[.int .u8 (acc[0]?.getD 0 : Nat), .int .u8 (acc[1]?.getD 0 : Nat), .int .u8 (acc[2]?.getD 0 : Nat), .int .u8 (acc[3]?.getD 0 : Nat)] 22) ∧ Hid (Ip.Vl s k i v (Ip.valG (seg s st i) 0)))
        case atStart => exact ⟨0, st, rfl, by omega, by omega, by omega, rfl, rfl, by simp, rfl⟩
        case round =>
          rename Nat => gi
          obtain ⟨v, k, hgi, hk1, hk2, hv, rfl, rfl, rfl, hvl⟩ := hrel
          subst hgi
          by_cases hk : k < i
          · have hks : k < s.size := by omega
            cases hd : digB (s[k].toNat : Int)
            · have HR : Hid (R = none) := Ip.Md_bad s st i acc R hmd.out (by omega) (by omega) (.inr ⟨hlt, HC.out⟩) (Ip.Vl_bad s k i v _ hvl.out hk (by omega) hd)
              clear hmd hvl
              go_wp2_with (go_at_call 16; refine (lawIsDigit_any _ _).mono ?_; rintro e w' ⟨rfl, rfl⟩)
              exact bodyPost_ret (v := .tuple #[.agg #[.int .u8 0, .int .u8 0, .int .u8 0, .int .u8 0], .int .i64 0, .bool false]) (by simp [results, Try.results14, go_sem]) rfl ⟨by rw [HR.out]; rfl, ((Below.refl _ _).alloc (Nat.le_refl _) _).alloc (by simp) _⟩
            · have hb := dig_bd hd
              have hv2 := Ip.Vl_step s k i v _ hvl.out hk (by omega) hd
              by_cases h255 : v ≤ 255
              · rw [if_pos h255] at hv2
                have HV : Hid (Ip.Vl s (k + 1) i (10 * v + (s[k].toNat - 48)) (Ip.valG (seg s st i) 0)) := hv2
                clear hv2 hvl
                go_wp2_with (go_at_call 16; refine (lawIsDigit_any _ _).mono ?_; rintro e w' ⟨rfl, rfl⟩)
                go_roundg (i - (k + 1))
                case rel => exact ⟨10 * v + (s[k].toNat - 48), k + 1, rfl, by omega, by omega, by omega, by go_num, by go_num, by simp, HV⟩
                case measure => omega
              · rw [if_neg h255] at hv2
                have HV : Hid (Ip.Vl s (k + 1) i v (Ip.valG (seg s st i) 0)) := hv2
                clear hv2 hvl
                go_wp2_with (go_at_call 16; refine (lawIsDigit_any _ _).mono ?_; rintro e w' ⟨rfl, rfl⟩)
                go_roundg (i - (k + 1))
                case rel => exact ⟨v, k + 1, rfl, by omega, by omega, by omega, rfl, by go_num, by simp, HV⟩
                case measure => omega
          · obtain rfl : k = i := by omega
            have hve := Ip.Vl_end s k v _ hvl.out
            by_cases h255 : 255 < v
            · rw [if_pos h255] at hve
              have HR : Hid (R = none) := Ip.Md_bad s st k acc R hmd.out (by omega) (by omega) (.inr ⟨hlt, HC.out⟩) hve
              clear hmd hve hvl
              go_wp2
              exact bodyPost_ret (v := .tuple #[.agg #[.int .u8 0, .int .u8 0, .int .u8 0, .int .u8 0], .int .i64 0, .bool false]) (by simp [results, Try.results14, go_sem]) rfl ⟨by rw [HR.out]; rfl, ((Below.refl _ _).alloc (Nat.le_refl _) _).alloc (by simp) _⟩
            · rw [if_neg h255] at hve
              have HM : Hid (Ip.Md s (k + 1) (k + 1) (acc ++ [v]) R) := Ip.Md_part s st k acc R v hmd.out hsi hlt HC.out hve h4'
              clear hmd hve hvl
              go_wp2
              go_roundg (s.size - (k + 1))
              case rel => exact ⟨acc ++ [v], k + 1, k + 1, rfl, by simp; omega, by omega, by omega, by simp, by go_num, by go_num, by rw [Ip.set_snoc acc v h4'], HM⟩
              case measure => omega
      · obtain rfl : i = s.size := by omega
        clear hc
        by_cases hse : st = s.size
        · subst hse
          have hR := Ip.Md_emptyEnd s s.size acc R hmd.out (Nat.le_refl _)
          clear hmd
          rcases acc with _ | ⟨a, acc⟩
          · rw [if_pos rfl] at hR
            have HR : Hid (R = none) := hR
            clear hR
            go_wp2
            exact bodyPost_ret (v := .tuple #[.agg #[.int .u8 0, .int .u8 0, .int .u8 0, .int .u8 0], .int .i64 0, .bool false]) (by simp [results, Try.results14, go_sem]) rfl ⟨by rw [HR.out]; rfl, ((Below.refl _ _).alloc (Nat.le_refl _) _).alloc (by simp) _⟩
          · rw [if_neg (by simp)] at hR
            have HR : Hid (R = some (a :: acc, true)) := hR
            clear hR
            go_wp2
            refine bodyPost_ret (v := .tuple #[.agg #[.int .u8 (a : Nat), .int .u8 (acc[0]?.getD 0 : Nat), .int .u8 (acc[1]?.getD 0 : Nat), .int .u8 (acc[2]?.getD 0 : Nat)], .int .i64 ((a :: acc).length : Nat), .bool true]) (by simp [results, Try.results14, go_sem]) rfl ⟨?_, ((Below.refl _ _).alloc (Nat.le_refl _) _).alloc (by simp) _⟩
            rw [HR.out]; simp [Ip.ansOf, Ip.nums, Ip.dot, Ip.cellsOf]
        have hsi : st < s.size := by omega
        have hsb : ((st : Int) == (s.size : Int)) = false := by simp; omega
        clear hse
        by_cases h4 : acc.length = 4
        · have HR : Hid (R = none) := Ip.Md_four s st s.size acc R hmd.out hsi hi (.inl (Nat.le_refl _)) h4
          clear hmd
          have h4b : ((acc.length : Int) == 4) = true := by simp; omega
          clear h4
          go_wp2
          exact bodyPost_ret (v := .tuple #[.agg #[.int .u8 0, .int .u8 0, .int .u8 0, .int .u8 0], .int .i64 0, .bool false]) (by simp [results, Try.results14, go_sem]) rfl ⟨by rw [HR.out]; rfl, ((Below.refl _ _).alloc (Nat.le_refl _) _).alloc (by simp) _⟩
        have h4' : acc.length < 4 := by omega
        have h4b : ((acc.length : Int) == 4) = false := by simp; omega
        clear h4
        go_wp2_with fail
        go_loopg [10, 11] (s.size - st) (fun n vv kv wr => ∃ (v k : Nat), n = s.size - k ∧ st ≤ k ∧ k ≤ s.size ∧ v ≤ 2559 ∧ vv = .int .i64 v ∧ kv = .int .i64 k ∧ wr = (w.alloc (.cells #[.int .u8 0, .int .u8 0, .int .u8 0, .int .u8 0] 22)).alloc (.cells #[.int .u8 (acc[0]?.getD 0 : Nat), .int .u8 (acc[1]?.getD 0 : Nat), .int .u8 (acc[2]?.getD 0 : Nat), .int .u8 (acc[3]?.getD 0 : Nat)] 22) ∧ Hid (Ip.Vl s k s.size v (Ip.valG (seg s st s.size) 0)))
        case atStart => exact ⟨0, st, rfl, by omega, by omega, by omega, rfl, rfl, by simp, rfl⟩
        case round =>
          rename Nat => gi
          obtain ⟨v, k, hgi, hk1, hk2, hv, rfl, rfl, rfl, hvl⟩ := hrel
          subst hgi
          by_cases hk : k < s.size
          · have hks : k < s.size := by omega
            cases hd : digB (s[k].toNat : Int)
            · have HR : Hid (R = none) := Ip.Md_bad s st s.size acc R hmd.out (by omega) (by omega) (.inl (Nat.le_refl _)) (Ip.Vl_bad s k s.size v _ hvl.out hk (by omega) hd)
              clear hmd hvl
              go_wp2_with (go_at_call 16; refine (lawIsDigit_any _ _).mono ?_; rintro e w' ⟨rfl, rfl⟩)
              exact bodyPost_ret (v := .tuple #[.agg #[.int .u8 0, .int .u8 0, .int .u8 0, .int .u8 0], .int .i64 0, .bool false]) (by simp [results, Try.results14, go_sem]) rfl ⟨by rw [HR.out]; rfl, ((Below.refl _ _).alloc (Nat.le_refl _) _).alloc (by simp) _⟩
            · have hb := dig_bd hd
              have hv2 := Ip.Vl_step s k s.size v _ hvl.out hk (by omega) hd
              by_cases h255 : v ≤ 255
              · rw [if_pos h255] at hv2
                have HV : Hid (Ip.Vl s (k + 1) s.size (10 * v + (s[k].toNat - 48)) (Ip.valG (seg s st s.size) 0)) := hv2
                clear hv2 hvl
                go_wp2_with (go_at_call 16; refine (lawIsDigit_any _ _).mono ?_; rintro e w' ⟨rfl, rfl⟩)
                go_roundg (s.size - (k + 1))
                case rel => exact ⟨10 * v + (s[k].toNat - 48), k + 1, rfl, by omega, by omega, by omega, by go_num, by go_num, by simp, HV⟩
                case measure => omega
              · rw [if_neg h255] at hv2
                have HV : Hid (Ip.Vl s (k + 1) s.size v (Ip.valG (seg s st s.size) 0)) := hv2
                clear hv2 hvl
                go_wp2_with (go_at_call 16; refine (lawIsDigit_any _ _).mono ?_; rintro e w' ⟨rfl, rfl⟩)
                go_roundg (s.size - (k + 1))
                case rel => exact ⟨v, k + 1, rfl, by omega, by omega, by omega, rfl, by go_num, by simp, HV⟩
                case measure => omega
          · obtain rfl : k = s.size := by omega
            have hve := Ip.Vl_end s s.size v _ hvl.out
            by_cases h255 : 255 < v
            · rw [if_pos h255] at hve
              have HR : Hid (R = none) := Ip.Md_bad s st s.size acc R hmd.out (by omega) (by omega) (.inl (Nat.le_refl _)) hve
              clear hmd hve hvl
              go_wp2
              exact bodyPost_ret (v := .tuple #[.agg #[.int .u8 0, .int .u8 0, .int .u8 0, .int .u8 0], .int .i64 0, .bool false]) (by simp [results, Try.results14, go_sem]) rfl ⟨by rw [HR.out]; rfl, ((Below.refl _ _).alloc (Nat.le_refl _) _).alloc (by simp) _⟩
            · rw [if_neg h255] at hve
              have HR : Hid (R = some (acc ++ [v], false)) := Ip.Md_last s st s.size acc R v hmd.out hsi (Nat.le_refl _) (Nat.le_refl _) hve h4'
              clear hmd hve hvl
              rcases acc with _ | ⟨a, _ | ⟨b, _ | ⟨c, _ | ⟨d, t⟩⟩⟩⟩
              · go_wp2
                exact bodyPost_ret (v := .tuple #[.agg #[.int .u8 v, .int .u8 0, .int .u8 0, .int .u8 0], .int .i64 1, .bool false]) (by simp [results, Try.results14, go_sem]) rfl ⟨by rw [HR.out]; rfl, ((Below.refl _ _).alloc (Nat.le_refl _) _).alloc (by simp) _⟩
              · go_wp2
                exact bodyPost_ret (v := .tuple #[.agg #[.int .u8 a, .int .u8 v, .int .u8 0, .int .u8 0], .int .i64 2, .bool false]) (by simp [results, Try.results14, go_sem]) rfl ⟨by rw [HR.out]; rfl, ((Below.refl _ _).alloc (Nat.le_refl _) _).alloc (by simp) _⟩
              · go_wp2
                exact bodyPost_ret (v := .tuple #[.agg #[.int .u8 a, .int .u8 b, .int .u8 v, .int .u8 0], .int .i64 3, .bool false]) (by simp [results, Try.results14, go_sem]) rfl ⟨by rw [HR.out]; rfl, ((Below.refl _ _).alloc (Nat.le_refl _) _).alloc (by simp) _⟩
              · go_wp2
                exact bodyPost_ret (v := .tuple #[.agg #[.int .u8 a, .int .u8 b, .int .u8 c, .int .u8 v], .int .i64 4, .bool false]) (by simp [results, Try.results14, go_sem]) rfl ⟨by rw [HR.out]; rfl, ((Below.refl _ _).alloc (Nat.le_refl _) _).alloc (by simp) _⟩
              · simp at h4'; omega
end Go.Proofs.Qxb6000758a
