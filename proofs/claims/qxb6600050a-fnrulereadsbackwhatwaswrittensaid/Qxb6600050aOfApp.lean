/-
  zzAppendText (20), zzAppendPadded (19), walked.
-/
import Derived.Test.Qxb6600050aUtoa
import Derived.Test.Qxb6600050aNmWalk
namespace Go.Proofs.Qxb6600050a
open Go.RowKit

theorem one_b (x : UInt8) : [Value.int .u8 (x.toNat : Int)] = [x].map cel := rfl
theorem one_48 : [Value.int .u8 48] = [(48 : UInt8)].map cel := rfl
theorem take_step (t : ByteArray) (k : Nat) (h : k < t.size) (l : List UInt8) : l ++ t.data.toList.take k ++ [t[k]] = l ++ t.data.toList.take (k + 1) := by
  have hl : k < t.data.toList.length := by rw [← Lib.size_eq]; exact h
  rw [List.take_succ_eq_append_getElem hl, List.append_assoc]; rfl
theorem take_all (t : ByteArray) : t.data.toList.take t.size = t.data.toList := by
  rw [Lib.size_eq]; exact List.take_length

set_option maxRecDepth 100000 in
set_option maxHeartbeats 1000000 in
theorem appendText (w : World) (B : Nat) (a : Option Addr) (n cap : Nat) (l : List UInt8) (t : ByteArray) (hb : Buf 5 B w a n cap l) (hB : B ≤ w.heap.size) (hn : n ≤ 16777216) (ht : t.size ≤ 16777216) :
    Calls Try.prog 20 #[.slice a n cap, .string t] w fun e w' => ∃ a' cap', e = .returned (.slice a' (n + t.size) cap') ∧ Buf 5 B w' a' (n + t.size) cap' (l ++ t.data.toList) ∧ Below B w w' := by
  have hb0 : Buf 5 B w a n cap (l ++ t.data.toList.take 0) := by simpa using hb
  clear hb
  go_enter Try.func20, Try.ntmps20
  go_wp2_with fail
  go_loopg [0, 5] t.size (fun g bv kv wr => ∃ (k : Nat) (a' : Option Addr) (cap' : Nat), g = t.size - k ∧ k ≤ t.size ∧ kv = .int .i64 k ∧ bv = .slice a' (n + k) cap' ∧ Hid (Buf 5 B wr a' (n + k) cap' (l ++ t.data.toList.take k)) ∧ Below B w wr)
  case atStart => exact ⟨0, _, _, rfl, by omega, rfl, rfl, hb0, Below.refl _ _⟩
  case round =>
    obtain ⟨k, a', cap', rfl, hk, rfl, rfl, HBF, hbl⟩ := hrel
    clear hb0
    have hsz := hbl.size
    have hbf := HBF.out
    by_cases hk2 : k < t.size
    · go_wp2_with (at_builtin; refine wpList_app tB rfl (.tmp 12) (.tmp 16) rfl [t[k]] _ (one_b t[k]) 1 1 rfl rfl rfl hbf (by omega) (by omega) ?_; intro a3 cap3 w3 hb3 hB3)
      rw [take_step t k hk2] at hb3
      go_roundg (t.size - (k + 1))
      case rel => exact ⟨k + 1, a3, cap3, rfl, by omega, by go_num, rfl, hb3, hbl.trans hB3⟩
      case measure => omega
    · obtain rfl : k = t.size := by omega
      rw [take_all] at hbf
      go_wp2_with fail
      go_ret
      exact ⟨_, _, rfl, hbf, hbl⟩

/-- A number, written with leading zeros. -/
def padded (pad v : Nat) : List UInt8 := List.replicate pad 48 ++ Num.utoa v
theorem padded_len (pad v : Nat) (hv : v < 1000000000000) : (padded pad v).length ≤ pad + 12 := by
  have := Num.utoa_len v 12 (by omega) hv
  simp [padded]; omega
theorem pad_step (l : List UInt8) (k : Nat) : l ++ List.replicate k (48 : UInt8) ++ [48] = l ++ List.replicate (k + 1) 48 := by
  rw [List.replicate_succ', List.append_assoc]

set_option maxRecDepth 100000 in
set_option maxHeartbeats 1000000 in
theorem appendPadded (w : World) (B : Nat) (a : Option Addr) (n cap : Nat) (l : List UInt8) (v pad : Nat) (hb : Buf 5 B w a n cap l) (hB : B ≤ w.heap.size) (hn : n ≤ 8388608) (hv : v < 1000000000000) (hp : pad ≤ 65536) :
    Calls Try.prog 19 #[.slice a n cap, .int .i64 (v : Int), .int .i64 (pad : Int)] w fun e w' => ∃ a' n' cap', e = .returned (.slice a' n' cap') ∧ Buf 5 B w' a' n' cap' (l ++ padded pad v) ∧ Below B w w' ∧ n' = n + (padded pad v).length := by
  have hb0 : Buf 5 B w a n cap (l ++ List.replicate 0 48) := by simpa using hb
  clear hb
  have hul := Num.utoa_len v 12 (by omega) hv
  have hsz : (⟨(Num.utoa v).toArray⟩ : ByteArray).size = (Num.utoa v).length := by simp [ByteArray.size]
  go_enter Try.func19, Try.ntmps19
  go_wp2_with fail
  go_loopg [0, 7] pad (fun g bv kv wr => ∃ (k : Nat) (a' : Option Addr) (cap' : Nat), g = pad - k ∧ k ≤ pad ∧ kv = .int .i64 k ∧ bv = .slice a' (n + k) cap' ∧ Hid (Buf 5 B wr a' (n + k) cap' (l ++ List.replicate k 48)) ∧ Below B w wr)
  case atStart => exact ⟨0, _, _, rfl, by omega, rfl, rfl, hb0, Below.refl _ _⟩
  case round =>
    obtain ⟨k, a', cap', rfl, hk, rfl, rfl, HBF, hbl⟩ := hrel
    clear hb0
    have hsz := hbl.size
    have hbf := HBF.out
    by_cases hk2 : k < pad
    · go_wp2_with (at_builtin; refine wpList_app tB rfl (.tmp 13) (.tmp 14) rfl [48] _ one_48 1 1 rfl rfl rfl hbf (by omega) (by omega) ?_; intro a3 cap3 w3 hb3 hB3)
      rw [pad_step] at hb3
      go_roundg (pad - (k + 1))
      case rel => exact ⟨k + 1, a3, cap3, rfl, by omega, by go_num, rfl, hb3, hbl.trans hB3⟩
      case measure => omega
    · obtain rfl : k = pad := by omega
      go_wp2_with fail
      refine (utoa_any _ v hv).mono ?_
      rintro e w1 ⟨rfl, hb1⟩
      have hbf1 := hbf.kept hb1
      have hs1 := hb1.size
      go_wp2_with fail
      refine (appendText w1 B a' (n + k) cap' _ ⟨(Num.utoa v).toArray⟩ hbf1 (by omega) (by omega) (by omega)).mono ?_
      rintro e w2 ⟨a2, cap2, rfl, hb2, hB2⟩
      go_wp2_with fail
      go_ret
      refine ⟨_, _, _, rfl, ?_, (hbl.trans (hb1.mono (by omega))).trans hB2, ?_⟩
      · rw [List.append_assoc] at hb2; exact hb2
      · simp [padded]; omega
end Go.Proofs.Qxb6600050a
