/-
  FnOffsetReadsBackWhatWasWritten (6): zzOffsetInRange (23), zzOffsetSeconds (24), zzBytes (22), and the law.
-/
import Derived.Test.Qxb6600050aOfWalk
namespace Go.Proofs.Qxb6600050a
open Go.RowKit
set_option linter.unusedSimpArgs false

theorem ret_i {a b : Int} (h : a = b) : Ending.returned (.int .i64 a) = .returned (.int .i64 b) := by rw [h]
/-- The offset's parts are in their ranges. -/
def OffOk (sg h m sec fm : Int) : Prop := 0 ≤ sg ∧ sg ≤ 2 ∧ 0 ≤ fm ∧ fm ≤ 2 ∧ 0 ≤ h ∧ h < 168 ∧ (1 ≤ fm → 0 ≤ m ∧ m ≤ 59) ∧ (fm = 2 → 0 ≤ sec ∧ sec ≤ 60)

set_option maxRecDepth 100000 in
set_option maxHeartbeats 1000000 in
theorem inRange_yes (sg h m sec fm : Int) (w : World) (hk : OffOk sg h m sec fm) :
    Calls Try.prog 23 #[.int .i64 sg, .int .i64 h, .int .i64 m, .int .i64 sec, .int .i64 fm] w fun e w' => e = .returned (.bool true) ∧ w' = w := by
  obtain ⟨h1, h2, h3, h4, h5, h6, h7, h8⟩ := hk
  rcases (show fm = 0 ∨ fm = 1 ∨ fm = 2 by omega) with rfl | rfl | rfl
  · clear h7 h8
    go_enter Try.func23, Try.ntmps23
    go_wp2
    go_ret
    exact ⟨rfl, rfl⟩
  · obtain ⟨h9, h10⟩ := h7 (by omega)
    clear h8
    go_enter Try.func23, Try.ntmps23
    go_wp2
    go_ret
    exact ⟨rfl, rfl⟩
  · obtain ⟨h9, h10⟩ := h7 (by omega)
    obtain ⟨h11, h12⟩ := h8 rfl
    go_enter Try.func23, Try.ntmps23
    go_wp2
    go_ret
    exact ⟨rfl, rfl⟩

set_option maxRecDepth 100000 in
set_option maxHeartbeats 1000000 in
theorem inRange_no (sg h m sec fm : Int) (w : World) (hk : ¬ OffOk sg h m sec fm) :
    Calls Try.prog 23 #[.int .i64 sg, .int .i64 h, .int .i64 m, .int .i64 sec, .int .i64 fm] w fun e w' => e = .returned (.bool false) ∧ w' = w := by
  have hc : (sg < 0) ∨ (0 ≤ sg ∧ 2 < sg) ∨ (0 ≤ sg ∧ sg ≤ 2 ∧ fm < 0) ∨ (0 ≤ sg ∧ sg ≤ 2 ∧ 0 ≤ fm ∧ 2 < fm) ∨ (0 ≤ sg ∧ sg ≤ 2 ∧ 0 ≤ fm ∧ fm ≤ 2 ∧ h < 0) ∨ (0 ≤ sg ∧ sg ≤ 2 ∧ 0 ≤ fm ∧ fm ≤ 2 ∧ 0 ≤ h ∧ 168 ≤ h)
      ∨ (0 ≤ sg ∧ sg ≤ 2 ∧ 1 ≤ fm ∧ fm ≤ 2 ∧ 0 ≤ h ∧ h < 168 ∧ m < 0) ∨ (0 ≤ sg ∧ sg ≤ 2 ∧ 1 ≤ fm ∧ fm ≤ 2 ∧ 0 ≤ h ∧ h < 168 ∧ 0 ≤ m ∧ 59 < m)
      ∨ (0 ≤ sg ∧ sg ≤ 2 ∧ fm = 2 ∧ 0 ≤ h ∧ h < 168 ∧ 0 ≤ m ∧ m ≤ 59 ∧ sec < 0) ∨ (0 ≤ sg ∧ sg ≤ 2 ∧ fm = 2 ∧ 0 ≤ h ∧ h < 168 ∧ 0 ≤ m ∧ m ≤ 59 ∧ 0 ≤ sec ∧ 60 < sec) := by
    by_cases a1 : sg < 0
    · exact .inl a1
    refine .inr ?_
    by_cases a2 : 2 < sg
    · exact .inl ⟨by omega, a2⟩
    refine .inr ?_
    by_cases a3 : fm < 0
    · exact .inl ⟨by omega, by omega, a3⟩
    refine .inr ?_
    by_cases a4 : 2 < fm
    · exact .inl ⟨by omega, by omega, by omega, a4⟩
    refine .inr ?_
    by_cases a5 : h < 0
    · exact .inl ⟨by omega, by omega, by omega, by omega, a5⟩
    refine .inr ?_
    by_cases a6 : 168 ≤ h
    · exact .inl ⟨by omega, by omega, by omega, by omega, by omega, a6⟩
    refine .inr ?_
    by_cases a7 : 1 ≤ fm ∧ m < 0
    · exact .inl ⟨by omega, by omega, a7.1, by omega, by omega, by omega, a7.2⟩
    refine .inr ?_
    by_cases a8 : 1 ≤ fm ∧ 59 < m
    · exact .inl ⟨by omega, by omega, a8.1, by omega, by omega, by omega, by omega, a8.2⟩
    refine .inr ?_
    by_cases a9 : fm = 2 ∧ sec < 0
    · exact .inl ⟨by omega, by omega, a9.1, by omega, by omega, by omega, by omega, a9.2⟩
    refine .inr ?_
    by_cases a10 : fm = 2 ∧ 60 < sec
    · exact ⟨by omega, by omega, a10.1, by omega, by omega, by omega, by omega, by omega, a10.2⟩
    exact absurd ⟨by omega, by omega, by omega, by omega, by omega, by omega, fun _ => by omega, fun _ => by omega⟩ hk
  clear hk
  rcases hc with h1 | ⟨h1, h2⟩ | ⟨h1, h2, h3⟩ | ⟨h1, h2, h3, h4⟩ | ⟨h1, h2, h3, h4, h5⟩ | ⟨h1, h2, h3, h4, h5, h6⟩ | ⟨h1, h2, h3, h4, h5, h6, h7⟩ | ⟨h1, h2, h3, h4, h5, h6, h7, h8⟩ | ⟨h1, h2, rfl, h5, h6, h7, h8, h9⟩ | ⟨h1, h2, rfl, h5, h6, h7, h8, h9, h10⟩
  all_goals
    go_enter Try.func23, Try.ntmps23
    go_wp2
    go_ret
    exact ⟨rfl, rfl⟩

theorem secs_00 (w : World) (h : Nat) (m : Int) (sec : Int) (hh : h ≤ 167) :
    Calls Try.prog 24 #[.int .i64 0, .int .i64 (h : Int), .int .i64 m, .int .i64 sec, .int .i64 0] w fun e w' => e = .returned (.int .i64 ((h : Int) * 3600)) ∧ w' = w := by
  go_enter Try.func24, Try.ntmps24
  go_wp2
  go_ret
  exact ⟨ret_i (by omega), rfl⟩

theorem secs_01 (w : World) (h : Nat) (m : Nat) (sec : Int) (hh : h ≤ 167) (hm : m ≤ 59) :
    Calls Try.prog 24 #[.int .i64 0, .int .i64 (h : Int), .int .i64 (m : Int), .int .i64 sec, .int .i64 1] w fun e w' => e = .returned (.int .i64 ((h : Int) * 3600 + (m : Int) * 60)) ∧ w' = w := by
  go_enter Try.func24, Try.ntmps24
  go_wp2
  go_ret
  exact ⟨ret_i (by omega), rfl⟩

theorem secs_02 (w : World) (h : Nat) (m : Nat) (sec : Nat) (hh : h ≤ 167) (hm : m ≤ 59) (hsec : sec ≤ 60) :
    Calls Try.prog 24 #[.int .i64 0, .int .i64 (h : Int), .int .i64 (m : Int), .int .i64 (sec : Int), .int .i64 2] w fun e w' => e = .returned (.int .i64 ((h : Int) * 3600 + (m : Int) * 60 + (sec : Int))) ∧ w' = w := by
  go_enter Try.func24, Try.ntmps24
  go_wp2
  go_ret
  exact ⟨ret_i (by omega), rfl⟩

theorem secs_10 (w : World) (h : Nat) (m : Int) (sec : Int) (hh : h ≤ 167) :
    Calls Try.prog 24 #[.int .i64 1, .int .i64 (h : Int), .int .i64 m, .int .i64 sec, .int .i64 0] w fun e w' => e = .returned (.int .i64 ((h : Int) * 3600)) ∧ w' = w := by
  go_enter Try.func24, Try.ntmps24
  go_wp2
  go_ret
  exact ⟨ret_i (by omega), rfl⟩

theorem secs_11 (w : World) (h : Nat) (m : Nat) (sec : Int) (hh : h ≤ 167) (hm : m ≤ 59) :
    Calls Try.prog 24 #[.int .i64 1, .int .i64 (h : Int), .int .i64 (m : Int), .int .i64 sec, .int .i64 1] w fun e w' => e = .returned (.int .i64 ((h : Int) * 3600 + (m : Int) * 60)) ∧ w' = w := by
  go_enter Try.func24, Try.ntmps24
  go_wp2
  go_ret
  exact ⟨ret_i (by omega), rfl⟩

theorem secs_12 (w : World) (h : Nat) (m : Nat) (sec : Nat) (hh : h ≤ 167) (hm : m ≤ 59) (hsec : sec ≤ 60) :
    Calls Try.prog 24 #[.int .i64 1, .int .i64 (h : Int), .int .i64 (m : Int), .int .i64 (sec : Int), .int .i64 2] w fun e w' => e = .returned (.int .i64 ((h : Int) * 3600 + (m : Int) * 60 + (sec : Int))) ∧ w' = w := by
  go_enter Try.func24, Try.ntmps24
  go_wp2
  go_ret
  exact ⟨ret_i (by omega), rfl⟩

theorem secs_20 (w : World) (h : Nat) (m : Int) (sec : Int) (hh : h ≤ 167) :
    Calls Try.prog 24 #[.int .i64 2, .int .i64 (h : Int), .int .i64 m, .int .i64 sec, .int .i64 0] w fun e w' => e = .returned (.int .i64 (-((h : Int) * 3600))) ∧ w' = w := by
  go_enter Try.func24, Try.ntmps24
  go_wp2
  go_ret
  exact ⟨ret_i (by omega), rfl⟩

theorem secs_21 (w : World) (h : Nat) (m : Nat) (sec : Int) (hh : h ≤ 167) (hm : m ≤ 59) :
    Calls Try.prog 24 #[.int .i64 2, .int .i64 (h : Int), .int .i64 (m : Int), .int .i64 sec, .int .i64 1] w fun e w' => e = .returned (.int .i64 (-((h : Int) * 3600 + (m : Int) * 60))) ∧ w' = w := by
  go_enter Try.func24, Try.ntmps24
  go_wp2
  go_ret
  exact ⟨ret_i (by omega), rfl⟩

theorem secs_22 (w : World) (h : Nat) (m : Nat) (sec : Nat) (hh : h ≤ 167) (hm : m ≤ 59) (hsec : sec ≤ 60) :
    Calls Try.prog 24 #[.int .i64 2, .int .i64 (h : Int), .int .i64 (m : Int), .int .i64 (sec : Int), .int .i64 2] w fun e w' => e = .returned (.int .i64 (-((h : Int) * 3600 + (m : Int) * 60 + (sec : Int)))) ∧ w' = w := by
  go_enter Try.func24, Try.ntmps24
  go_wp2
  go_ret
  exact ⟨ret_i (by omega), rfl⟩

theorem zz22_yes (p tail : ByteArray) (sg h m sec fm pH pM pS : Int) (w : World) (hs : p.size + tail.size ≤ 1048576) :
    Calls Try.prog 22 #[.string p, .int .i64 sg, .int .i64 h, .int .i64 m, .int .i64 sec, .int .i64 fm, .int .i64 pH, .int .i64 pM, .int .i64 pS, .string tail] w fun e w' => e = .returned (.bool true) ∧ w' = w := by
  go_enter Try.func22, Try.ntmps22
  go_wp2
  go_ret
  exact ⟨rfl, rfl⟩
theorem zz22_no (p tail : ByteArray) (sg h m sec fm pH pM pS : Int) (w : World) (h1 : p.size ≤ maxLen) (h2 : tail.size ≤ maxLen) (hs : 1048576 < p.size + tail.size) :
    Calls Try.prog 22 #[.string p, .int .i64 sg, .int .i64 h, .int .i64 m, .int .i64 sec, .int .i64 fm, .int .i64 pH, .int .i64 pM, .int .i64 pS, .string tail] w fun e w' => e = .returned (.bool false) ∧ w' = w := by
  unfold maxLen at h1 h2
  rcases (show 1048576 < p.size ∨ (p.size ≤ 1048576 ∧ 1048576 < tail.size) ∨ (p.size ≤ 1048576 ∧ tail.size ≤ 1048576 ∧ 1048576 < p.size + tail.size) by omega) with h3 | ⟨h3, h4⟩ | ⟨h3, h4, h5⟩
  all_goals
    go_enter Try.func22, Try.ntmps22
    go_wp2
    go_ret
    exact ⟨rfl, rfl⟩

set_option maxRecDepth 100000 in
set_option maxHeartbeats 2000000 in
theorem law6_nil (p tail : ByteArray) (sg h m sec fm V : Int) (pH pM pS : Nat) (T TX : List UInt8) (w : World) (HTX : Hid (p.data.toList ++ T ++ tail.data.toList = TX)) (hsz : p.size + tail.size ≤ 1048576) (hpH : pH ≤ 4096) (hpM : pM ≤ 4096) (hpS : pS ≤ 4096) (hTl : T.length ≤ 100000) (ht : tail.size < 1)
    (H23 : Hid (∀ w : World, Calls Try.prog 23 #[.int .i64 sg, .int .i64 h, .int .i64 m, .int .i64 sec, .int .i64 fm] w fun e w' => e = .returned (.bool true) ∧ w' = w))
    (H24 : Hid (∀ w : World, Calls Try.prog 24 #[.int .i64 sg, .int .i64 h, .int .i64 m, .int .i64 sec, .int .i64 fm] w fun e w' => e = .returned (.int .i64 V) ∧ w' = w))
    (H25 : Hid (∀ (w : World) (B : Nat) (a : Option Addr) (n cap : Nat) (l : List UInt8), Buf 5 B w a n cap l → B ≤ w.heap.size → n ≤ 4194304 → Calls Try.prog 25 #[.slice a n cap, .int .i64 sg, .int .i64 h, .int .i64 m, .int .i64 sec, .int .i64 fm, .int .i64 (pH : Int), .int .i64 (pM : Int), .int .i64 (pS : Int)] w fun e w' => ∃ a' n' cap', e = .returned (.slice a' n' cap') ∧ Buf 5 B w' a' n' cap' (l ++ T) ∧ Below B w w'))
    (H26 : Hid (∀ (w : World) (j : Nat), j = p.size + T.length → Calls Try.prog 26 #[.string ⟨TX.toArray⟩, .int .i64 (p.size : Int)] w fun e w' => e = .returned (.tuple #[.int .i64 V, .int .i64 (j : Int), .bool true]) ∧ Below w.heap.size w w')) :
    Calls Try.prog 6 #[.string p, .int .i64 sg, .int .i64 h, .int .i64 m, .int .i64 sec, .int .i64 fm, .int .i64 (pH : Int), .int .i64 (pM : Int), .int .i64 (pS : Int), .string tail] w fun e w' => e = .returned (.bool true) ∧ Below w.heap.size w w' := by
  have hb0 := Buf.nil 5 w.heap.size w
  have HP : Hid (p.data.toList.length = p.size) := (Lib.size_eq p).symm
  go_enter Try.func6, Try.ntmps6
  go_wp2_with (first | (go_at_call 22; refine (zz22_yes p tail _ _ _ _ _ _ _ _ _ hsz).mono ?_; rintro e w' ⟨rfl, hw⟩; have hw' := hw.symm; subst hw'; clear hw) | (go_at_call 23; refine (H23.out _).mono ?_; rintro e w' ⟨rfl, hw⟩; have hw' := hw.symm; subst hw'; clear hw) | (go_at_call 14; refine (isDigit_any _ _).mono ?_; rintro e w' ⟨rfl, hw⟩; have hw' := hw.symm; subst hw'; clear hw) | (go_at_call 24; refine (H24.out _).mono ?_; rintro e w' ⟨rfl, hw⟩; have hw' := hw.symm; subst hw'; clear hw) | (go_at_call_of 20 (Value.string p); refine (appendText _ w.heap.size none 0 0 [] p hb0 (Nat.le_refl _) (by omega) (by omega)).mono ?_; rintro e w1 ⟨a1, cap1, rfl, hb1, hB1⟩; have hs1 := hB1.size; rw [List.nil_append, Nat.zero_add] at hb1) | (go_at_call 25; refine (H25.out _ w.heap.size _ _ _ _ hb1 (by omega) (by omega)).mono ?_; rintro e w2 ⟨a2, n2, cap2, rfl, hb2, hB2⟩; have hs2 := hB2.size; have HN : Hid (n2 = p.size + T.length) := (by have h0 := hb2.len; rw [List.length_append, HP.out] at h0; exact h0); have hn2 : n2 ≤ 2097152 := (by have h0 := HN.out; omega)) | (go_at_call_of 20 (Value.string tail); refine (appendText _ w.heap.size a2 n2 cap2 _ tail hb2 (by omega) (by omega) (by omega)).mono ?_; rintro e w3 ⟨a3, cap3, rfl, hb3, hB3⟩; have hs3 := hB3.size; rw [HTX.out] at hb3; have hcv := hb3.str tB Try.underlying9) | (go_at_call 26; refine (H26.out _ n2 HN.out).mono ?_; rintro e w4 ⟨rfl, hb4⟩; have hbel : Below w.heap.size w w4 := ((hB1.trans hB2).trans hB3).trans (hb4.mono (by omega)); clear hb4))
  go_ret
  exact ⟨rfl, hbel⟩

set_option maxRecDepth 100000 in
set_option maxHeartbeats 2000000 in
theorem law6_more (p tail : ByteArray) (sg h m sec fm V : Int) (pH pM pS : Nat) (T TX : List UInt8) (w : World) (HTX : Hid (p.data.toList ++ T ++ tail.data.toList = TX)) (hsz : p.size + tail.size ≤ 1048576) (hpH : pH ≤ 4096) (hpM : pM ≤ 4096) (hpS : pS ≤ 4096) (hTl : T.length ≤ 100000) (ht : 0 < tail.size) (hd : digB ((tail[0]'ht).toNat : Int) = false) (hc : (((tail[0]'ht).toNat : Int) == 58) = false)
    (H23 : Hid (∀ w : World, Calls Try.prog 23 #[.int .i64 sg, .int .i64 h, .int .i64 m, .int .i64 sec, .int .i64 fm] w fun e w' => e = .returned (.bool true) ∧ w' = w))
    (H24 : Hid (∀ w : World, Calls Try.prog 24 #[.int .i64 sg, .int .i64 h, .int .i64 m, .int .i64 sec, .int .i64 fm] w fun e w' => e = .returned (.int .i64 V) ∧ w' = w))
    (H25 : Hid (∀ (w : World) (B : Nat) (a : Option Addr) (n cap : Nat) (l : List UInt8), Buf 5 B w a n cap l → B ≤ w.heap.size → n ≤ 4194304 → Calls Try.prog 25 #[.slice a n cap, .int .i64 sg, .int .i64 h, .int .i64 m, .int .i64 sec, .int .i64 fm, .int .i64 (pH : Int), .int .i64 (pM : Int), .int .i64 (pS : Int)] w fun e w' => ∃ a' n' cap', e = .returned (.slice a' n' cap') ∧ Buf 5 B w' a' n' cap' (l ++ T) ∧ Below B w w'))
    (H26 : Hid (∀ (w : World) (j : Nat), j = p.size + T.length → Calls Try.prog 26 #[.string ⟨TX.toArray⟩, .int .i64 (p.size : Int)] w fun e w' => e = .returned (.tuple #[.int .i64 V, .int .i64 (j : Int), .bool true]) ∧ Below w.heap.size w w')) :
    Calls Try.prog 6 #[.string p, .int .i64 sg, .int .i64 h, .int .i64 m, .int .i64 sec, .int .i64 fm, .int .i64 (pH : Int), .int .i64 (pM : Int), .int .i64 (pS : Int), .string tail] w fun e w' => e = .returned (.bool true) ∧ Below w.heap.size w w' := by
  have hb0 := Buf.nil 5 w.heap.size w
  have HP : Hid (p.data.toList.length = p.size) := (Lib.size_eq p).symm
  go_enter Try.func6, Try.ntmps6
  go_wp2_with (first | (go_at_call 22; refine (zz22_yes p tail _ _ _ _ _ _ _ _ _ hsz).mono ?_; rintro e w' ⟨rfl, hw⟩; have hw' := hw.symm; subst hw'; clear hw) | (go_at_call 23; refine (H23.out _).mono ?_; rintro e w' ⟨rfl, hw⟩; have hw' := hw.symm; subst hw'; clear hw) | (go_at_call 14; refine (isDigit_any _ _).mono ?_; rintro e w' ⟨rfl, hw⟩; have hw' := hw.symm; subst hw'; clear hw) | (go_at_call 24; refine (H24.out _).mono ?_; rintro e w' ⟨rfl, hw⟩; have hw' := hw.symm; subst hw'; clear hw) | (go_at_call_of 20 (Value.string p); refine (appendText _ w.heap.size none 0 0 [] p hb0 (Nat.le_refl _) (by omega) (by omega)).mono ?_; rintro e w1 ⟨a1, cap1, rfl, hb1, hB1⟩; have hs1 := hB1.size; rw [List.nil_append, Nat.zero_add] at hb1) | (go_at_call 25; refine (H25.out _ w.heap.size _ _ _ _ hb1 (by omega) (by omega)).mono ?_; rintro e w2 ⟨a2, n2, cap2, rfl, hb2, hB2⟩; have hs2 := hB2.size; have HN : Hid (n2 = p.size + T.length) := (by have h0 := hb2.len; rw [List.length_append, HP.out] at h0; exact h0); have hn2 : n2 ≤ 2097152 := (by have h0 := HN.out; omega)) | (go_at_call_of 20 (Value.string tail); refine (appendText _ w.heap.size a2 n2 cap2 _ tail hb2 (by omega) (by omega) (by omega)).mono ?_; rintro e w3 ⟨a3, cap3, rfl, hb3, hB3⟩; have hs3 := hB3.size; rw [HTX.out] at hb3; have hcv := hb3.str tB Try.underlying9) | (go_at_call 26; refine (H26.out _ n2 HN.out).mono ?_; rintro e w4 ⟨rfl, hb4⟩; have hbel : Below w.heap.size w w4 := ((hB1.trans hB2).trans hB3).trans (hb4.mono (by omega)); clear hb4))
  go_ret
  exact ⟨rfl, hbel⟩
end Go.Proofs.Qxb6600050a
