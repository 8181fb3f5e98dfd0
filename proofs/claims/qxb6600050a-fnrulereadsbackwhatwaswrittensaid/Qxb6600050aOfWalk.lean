/-
  zzAppendOffset (25), offset (34), ZZOffsetB1 (26), walked at each sign and form.
-/
import Derived.Test.Qxb6600050aOfRd
import Derived.Deep.RegionWith
namespace Go.Proofs.Qxb6600050a
open Go.RowKit
set_option linter.unusedSimpArgs false

theorem one_43 : [Value.int .u8 43] = [(43 : UInt8)].map cel := rfl
theorem one_45 : [Value.int .u8 45] = [(45 : UInt8)].map cel := rfl
theorem one_58 : [Value.int .u8 58] = [(58 : UInt8)].map cel := rfl
theorem ret_vb {a b : Int} (h : a = b) : Ending.returned (.tuple #[.int .i64 a, .bool true]) = .returned (.tuple #[.int .i64 b, .bool true]) := by rw [h]

set_option maxRecDepth 100000 in
set_option maxHeartbeats 1000000 in
theorem app_off_00 (w : World) (B : Nat) (a : Option Addr) (n cap : Nat) (l : List UInt8) (h : Nat) (m : Int) (sec : Int) (pH pM pS : Nat) (hb0 : Buf 5 B w a n cap l) (hB0 : B ≤ w.heap.size) (hn : n ≤ 4194304) (hh : h ≤ 1000) (hpH : pH ≤ 4096) :
    Calls Try.prog 25 #[.slice a n cap, .int .i64 0, .int .i64 (h : Int), .int .i64 m, .int .i64 sec, .int .i64 0, .int .i64 (pH : Int), .int .i64 (pM : Int), .int .i64 (pS : Int)] w fun e w' => ∃ a' n' cap', e = .returned (.slice a' n' cap') ∧ Buf 5 B w' a' n' cap' (l ++ (padded pH h)) ∧ Below B w w' := by
  go_enter Try.func25, Try.ntmps25
  go_wp2_with (first | (go_at_call_of 19 (Value.int IntKind.i64 (h : Int)); refine (appendPadded _ B _ _ _ _ h pH hb0 (by omega) (by omega) (by omega) (by omega)).mono ?_; rintro e w1 ⟨a1, n1, cap1, rfl, hb1, hB1, hn1⟩; have hs1 := hB1.size; have hq1 : n1 ≤ n + 1 * 4200 := (by have := padded_len pH h (by omega); omega); clear hn1))
  go_ret
  exact ⟨_, _, _, rfl, by simpa [List.append_assoc] using hb1, hB1⟩

set_option maxRecDepth 100000 in
set_option maxHeartbeats 1000000 in
theorem off_00 (w : World) (g : Nat) (s : ByteArray) (i : Nat) (h pH : Nat) (r : List UInt8) (j : Nat) (hj : Hid (j = i + ((padded pH h)).length)) (hr : Rd w g s i) (hs : s.size ≤ 16777216) (hF : From s i ((padded pH h) ++ r)) (hnd : NoDig r) (hnc : NotAt 58 r) (hh : h ≤ 167) :
    Calls Try.prog 34 #[.pointer (some ⟨g, 0, none⟩)] w fun e w' => e = .returned (.tuple #[.int .i64 ((h : Int) * 3600), .bool true]) ∧ Moved g s j w w' := by
  have HF0 : Hid (From s i (padded pH h ++ (r))) := by
    show From s i (padded pH h ++ (r))
    first
      | exact hF
      | (have h0 := hF; simp only [List.append_assoc] at h0 ⊢; exact h0)
  have HN0_45 : Hid (NotAt 45 (padded pH h ++ (r))) := notAt_padded 45 (by decide) _ _ _
  have HN0_43 : Hid (NotAt 43 (padded pH h ++ (r))) := notAt_padded 43 (by decide) _ _ _
  have HD0 : Hid (NoDig (r)) := hnd
  obtain ⟨i1, HI1, HF1⟩ : ∃ q, Hid (q = i + (padded pH h).length) ∧ Hid (From s q (r)) := ⟨_, rfl, HF0.out.step⟩
  have HN1_58 : Hid (NotAt 58 (r)) := hnc
  have hE : Hid (i1 = j) := by
    show i1 = j
    rw [hj.out]
    have z1 := HI1.out; first | omega | (simp only [List.length_append, List.length_cons, List.length_nil]; omega)
  clear hj hF hnd hnc
  go_enter Try.func34, Try.ntmps34
  go_wp2_with fail
  refine (expect_skip _ g s i 45 _ hr hs HF0.out HN0_45.out).mono ?_
  rintro e w1 ⟨rfl, hm1⟩
  go_wp2_with fail
  refine (expect_skip _ g s i 43 _ hm1.rd hs HF0.out HN0_43.out).mono ?_
  rintro e w2 ⟨rfl, hm2⟩
  go_wp2_with fail
  refine (number_take _ g s i 0 167 pH h _ hm2.rd hs HF0.out HD0.out (by omega) (by omega) (by omega) (by omega)).mono ?_
  rintro e w3 ⟨rfl, hm3⟩
  rw [← HI1.out] at hm3
  go_wp2_with fail
  refine (expect_skip _ g s i1 58 _ hm3.rd hs HF1.out HN1_58.out).mono ?_
  rintro e w4 ⟨rfl, hm4⟩
  go_wp2_with fail
  go_ret2
  refine ⟨ret_vb (by omega), ?_⟩
  rw [← hE.out]
  exact (((hm1).trans hm2).trans hm3).trans hm4

set_option maxRecDepth 100000 in
set_option maxHeartbeats 1000000 in
theorem app_off_01 (w : World) (B : Nat) (a : Option Addr) (n cap : Nat) (l : List UInt8) (h : Nat) (m : Nat) (sec : Int) (pH pM pS : Nat) (hb0 : Buf 5 B w a n cap l) (hB0 : B ≤ w.heap.size) (hn : n ≤ 4194304) (hh : h ≤ 1000) (hm : m ≤ 1000) (hpH : pH ≤ 4096) (hpM : pM ≤ 4096) :
    Calls Try.prog 25 #[.slice a n cap, .int .i64 0, .int .i64 (h : Int), .int .i64 (m : Int), .int .i64 sec, .int .i64 1, .int .i64 (pH : Int), .int .i64 (pM : Int), .int .i64 (pS : Int)] w fun e w' => ∃ a' n' cap', e = .returned (.slice a' n' cap') ∧ Buf 5 B w' a' n' cap' (l ++ (padded pH h ++ ([58] ++ (padded pM m)))) ∧ Below B w w' := by
  go_enter Try.func25, Try.ntmps25
  go_wp2_with (first | (go_at_call_of 19 (Value.int IntKind.i64 (h : Int)); refine (appendPadded _ B _ _ _ _ h pH hb0 (by omega) (by omega) (by omega) (by omega)).mono ?_; rintro e w1 ⟨a1, n1, cap1, rfl, hb1, hB1, hn1⟩; have hs1 := hB1.size; have hq1 : n1 ≤ n + 1 * 4200 := (by have := padded_len pH h (by omega); omega); clear hn1) | (at_builtin; refine wpList_app tB rfl (.tmp 35) (.tmp 36) rfl [58] _ one_58 1 1 rfl rfl rfl hb1 (by omega) (by omega) ?_; intro a2 cap2 w2 hb2 hB2; have hs2 := hB2.size) | (go_at_call_of 19 (Value.int IntKind.i64 (m : Int)); refine (appendPadded _ B _ _ _ _ m pM hb2 (by omega) (by omega) (by omega) (by omega)).mono ?_; rintro e w3 ⟨a3, n3, cap3, rfl, hb3, hB3, hn3⟩; have hs3 := hB3.size; have hq3 : n3 ≤ n + 3 * 4200 := (by have := padded_len pM m (by omega); omega); clear hn3))
  go_ret
  exact ⟨_, _, _, rfl, by simpa [List.append_assoc] using hb3, ((hB1).trans hB2).trans hB3⟩

set_option maxRecDepth 100000 in
set_option maxHeartbeats 1000000 in
theorem off_01 (w : World) (g : Nat) (s : ByteArray) (i : Nat) (h m pH pM : Nat) (r : List UInt8) (j : Nat) (hj : Hid (j = i + ((padded pH h ++ ([58] ++ (padded pM m)))).length)) (hr : Rd w g s i) (hs : s.size ≤ 16777216) (hF : From s i ((padded pH h ++ ([58] ++ (padded pM m))) ++ r)) (hnd : NoDig r) (hnc : NotAt 58 r) (hh : h ≤ 167) (hm : m ≤ 59) :
    Calls Try.prog 34 #[.pointer (some ⟨g, 0, none⟩)] w fun e w' => e = .returned (.tuple #[.int .i64 ((h : Int) * 3600 + (m : Int) * 60), .bool true]) ∧ Moved g s j w w' := by
  have HF0 : Hid (From s i (padded pH h ++ ([58] ++ (padded pM m ++ (r))))) := by
    show From s i (padded pH h ++ ([58] ++ (padded pM m ++ (r))))
    first
      | exact hF
      | (have h0 := hF; simp only [List.append_assoc] at h0 ⊢; exact h0)
  have HN0_45 : Hid (NotAt 45 (padded pH h ++ ([58] ++ (padded pM m ++ (r))))) := notAt_padded 45 (by decide) _ _ _
  have HN0_43 : Hid (NotAt 43 (padded pH h ++ ([58] ++ (padded pM m ++ (r))))) := notAt_padded 43 (by decide) _ _ _
  have HD0 : Hid (NoDig ([58] ++ (padded pM m ++ (r)))) := NoDig.cons (by decide)
  obtain ⟨i1, HI1, HF1⟩ : ∃ q, Hid (q = i + (padded pH h).length) ∧ Hid (From s q ([58] ++ (padded pM m ++ (r)))) := ⟨_, rfl, HF0.out.step⟩
  obtain ⟨i2, HI2, HF2⟩ : ∃ q, Hid (q = i1 + 1) ∧ Hid (From s q (padded pM m ++ (r))) := ⟨_, rfl, HF1.out.one⟩
  have HD2 : Hid (NoDig (r)) := hnd
  obtain ⟨i3, HI3, HF3⟩ : ∃ q, Hid (q = i2 + (padded pM m).length) ∧ Hid (From s q (r)) := ⟨_, rfl, HF2.out.step⟩
  have HN3_58 : Hid (NotAt 58 (r)) := hnc
  have hE : Hid (i3 = j) := by
    show i3 = j
    rw [hj.out]
    have z1 := HI1.out; have z2 := HI2.out; have z3 := HI3.out; first | omega | (simp only [List.length_append, List.length_cons, List.length_nil]; omega)
  clear hj hF hnd hnc
  go_enter Try.func34, Try.ntmps34
  go_wp2_with fail
  refine (expect_skip _ g s i 45 _ hr hs HF0.out HN0_45.out).mono ?_
  rintro e w1 ⟨rfl, hm1⟩
  go_wp2_with fail
  refine (expect_skip _ g s i 43 _ hm1.rd hs HF0.out HN0_43.out).mono ?_
  rintro e w2 ⟨rfl, hm2⟩
  go_wp2_with fail
  refine (number_take _ g s i 0 167 pH h _ hm2.rd hs HF0.out HD0.out (by omega) (by omega) (by omega) (by omega)).mono ?_
  rintro e w3 ⟨rfl, hm3⟩
  rw [← HI1.out] at hm3
  go_wp2_with fail
  refine (expect_take _ g s i1 58 _ hm3.rd hs HF1.out).mono ?_
  rintro e w4 ⟨rfl, hm4⟩
  rw [← HI2.out] at hm4
  go_wp2_with fail
  refine (number_take _ g s i2 0 59 pM m _ hm4.rd hs HF2.out HD2.out (by omega) (by omega) (by omega) (by omega)).mono ?_
  rintro e w5 ⟨rfl, hm5⟩
  rw [← HI3.out] at hm5
  go_wp2_with fail
  refine (expect_skip _ g s i3 58 _ hm5.rd hs HF3.out HN3_58.out).mono ?_
  rintro e w6 ⟨rfl, hm6⟩
  go_wp2_with fail
  go_ret2
  refine ⟨ret_vb (by omega), ?_⟩
  rw [← hE.out]
  exact (((((hm1).trans hm2).trans hm3).trans hm4).trans hm5).trans hm6

set_option maxRecDepth 100000 in
set_option maxHeartbeats 1000000 in
theorem app_off_02 (w : World) (B : Nat) (a : Option Addr) (n cap : Nat) (l : List UInt8) (h : Nat) (m : Nat) (sec : Nat) (pH pM pS : Nat) (hb0 : Buf 5 B w a n cap l) (hB0 : B ≤ w.heap.size) (hn : n ≤ 4194304) (hh : h ≤ 1000) (hm : m ≤ 1000) (hsec : sec ≤ 1000) (hpH : pH ≤ 4096) (hpM : pM ≤ 4096) (hpS : pS ≤ 4096) :
    Calls Try.prog 25 #[.slice a n cap, .int .i64 0, .int .i64 (h : Int), .int .i64 (m : Int), .int .i64 (sec : Int), .int .i64 2, .int .i64 (pH : Int), .int .i64 (pM : Int), .int .i64 (pS : Int)] w fun e w' => ∃ a' n' cap', e = .returned (.slice a' n' cap') ∧ Buf 5 B w' a' n' cap' (l ++ (padded pH h ++ ([58] ++ (padded pM m ++ ([58] ++ (padded pS sec)))))) ∧ Below B w w' := by
  go_enter Try.func25, Try.ntmps25
  go_wp2_with (first | (go_at_call_of 19 (Value.int IntKind.i64 (h : Int)); refine (appendPadded _ B _ _ _ _ h pH hb0 (by omega) (by omega) (by omega) (by omega)).mono ?_; rintro e w1 ⟨a1, n1, cap1, rfl, hb1, hB1, hn1⟩; have hs1 := hB1.size; have hq1 : n1 ≤ n + 1 * 4200 := (by have := padded_len pH h (by omega); omega); clear hn1) | (at_builtin; refine wpList_app tB rfl (.tmp 35) (.tmp 36) rfl [58] _ one_58 1 1 rfl rfl rfl hb1 (by omega) (by omega) ?_; intro a2 cap2 w2 hb2 hB2; have hs2 := hB2.size) | (go_at_call_of 19 (Value.int IntKind.i64 (m : Int)); refine (appendPadded _ B _ _ _ _ m pM hb2 (by omega) (by omega) (by omega) (by omega)).mono ?_; rintro e w3 ⟨a3, n3, cap3, rfl, hb3, hB3, hn3⟩; have hs3 := hB3.size; have hq3 : n3 ≤ n + 3 * 4200 := (by have := padded_len pM m (by omega); omega); clear hn3) | (at_builtin; refine wpList_app tB rfl (.tmp 44) (.tmp 45) rfl [58] _ one_58 1 1 rfl rfl rfl hb3 (by omega) (by omega) ?_; intro a4 cap4 w4 hb4 hB4; have hs4 := hB4.size) | (go_at_call_of 19 (Value.int IntKind.i64 (sec : Int)); refine (appendPadded _ B _ _ _ _ sec pS hb4 (by omega) (by omega) (by omega) (by omega)).mono ?_; rintro e w5 ⟨a5, n5, cap5, rfl, hb5, hB5, hn5⟩; have hs5 := hB5.size; have hq5 : n5 ≤ n + 5 * 4200 := (by have := padded_len pS sec (by omega); omega); clear hn5))
  go_ret
  exact ⟨_, _, _, rfl, by simpa [List.append_assoc] using hb5, ((((hB1).trans hB2).trans hB3).trans hB4).trans hB5⟩

set_option maxRecDepth 100000 in
set_option maxHeartbeats 1000000 in
theorem off_02 (w : World) (g : Nat) (s : ByteArray) (i : Nat) (h m sec pH pM pS : Nat) (r : List UInt8) (j : Nat) (hj : Hid (j = i + ((padded pH h ++ ([58] ++ (padded pM m ++ ([58] ++ (padded pS sec)))))).length)) (hr : Rd w g s i) (hs : s.size ≤ 16777216) (hF : From s i ((padded pH h ++ ([58] ++ (padded pM m ++ ([58] ++ (padded pS sec))))) ++ r)) (hnd : NoDig r) (hh : h ≤ 167) (hm : m ≤ 59) (hsec : sec ≤ 60) :
    Calls Try.prog 34 #[.pointer (some ⟨g, 0, none⟩)] w fun e w' => e = .returned (.tuple #[.int .i64 ((h : Int) * 3600 + (m : Int) * 60 + (sec : Int)), .bool true]) ∧ Moved g s j w w' := by
  have HF0 : Hid (From s i (padded pH h ++ ([58] ++ (padded pM m ++ ([58] ++ (padded pS sec ++ (r))))))) := by
    show From s i (padded pH h ++ ([58] ++ (padded pM m ++ ([58] ++ (padded pS sec ++ (r))))))
    first
      | exact hF
      | (have h0 := hF; simp only [List.append_assoc] at h0 ⊢; exact h0)
  have HN0_45 : Hid (NotAt 45 (padded pH h ++ ([58] ++ (padded pM m ++ ([58] ++ (padded pS sec ++ (r))))))) := notAt_padded 45 (by decide) _ _ _
  have HN0_43 : Hid (NotAt 43 (padded pH h ++ ([58] ++ (padded pM m ++ ([58] ++ (padded pS sec ++ (r))))))) := notAt_padded 43 (by decide) _ _ _
  have HD0 : Hid (NoDig ([58] ++ (padded pM m ++ ([58] ++ (padded pS sec ++ (r)))))) := NoDig.cons (by decide)
  obtain ⟨i1, HI1, HF1⟩ : ∃ q, Hid (q = i + (padded pH h).length) ∧ Hid (From s q ([58] ++ (padded pM m ++ ([58] ++ (padded pS sec ++ (r)))))) := ⟨_, rfl, HF0.out.step⟩
  obtain ⟨i2, HI2, HF2⟩ : ∃ q, Hid (q = i1 + 1) ∧ Hid (From s q (padded pM m ++ ([58] ++ (padded pS sec ++ (r))))) := ⟨_, rfl, HF1.out.one⟩
  have HD2 : Hid (NoDig ([58] ++ (padded pS sec ++ (r)))) := NoDig.cons (by decide)
  obtain ⟨i3, HI3, HF3⟩ : ∃ q, Hid (q = i2 + (padded pM m).length) ∧ Hid (From s q ([58] ++ (padded pS sec ++ (r)))) := ⟨_, rfl, HF2.out.step⟩
  obtain ⟨i4, HI4, HF4⟩ : ∃ q, Hid (q = i3 + 1) ∧ Hid (From s q (padded pS sec ++ (r))) := ⟨_, rfl, HF3.out.one⟩
  have HD4 : Hid (NoDig (r)) := hnd
  obtain ⟨i5, HI5, HF5⟩ : ∃ q, Hid (q = i4 + (padded pS sec).length) ∧ Hid (From s q (r)) := ⟨_, rfl, HF4.out.step⟩
  have hE : Hid (i5 = j) := by
    show i5 = j
    rw [hj.out]
    have z1 := HI1.out; have z2 := HI2.out; have z3 := HI3.out; have z4 := HI4.out; have z5 := HI5.out; first | omega | (simp only [List.length_append, List.length_cons, List.length_nil]; omega)
  clear hj hF hnd
  go_enter Try.func34, Try.ntmps34
  go_wp2_with fail
  refine (expect_skip _ g s i 45 _ hr hs HF0.out HN0_45.out).mono ?_
  rintro e w1 ⟨rfl, hm1⟩
  go_wp2_with fail
  refine (expect_skip _ g s i 43 _ hm1.rd hs HF0.out HN0_43.out).mono ?_
  rintro e w2 ⟨rfl, hm2⟩
  go_wp2_with fail
  refine (number_take _ g s i 0 167 pH h _ hm2.rd hs HF0.out HD0.out (by omega) (by omega) (by omega) (by omega)).mono ?_
  rintro e w3 ⟨rfl, hm3⟩
  rw [← HI1.out] at hm3
  go_wp2_with fail
  refine (expect_take _ g s i1 58 _ hm3.rd hs HF1.out).mono ?_
  rintro e w4 ⟨rfl, hm4⟩
  rw [← HI2.out] at hm4
  go_wp2_with fail
  refine (number_take _ g s i2 0 59 pM m _ hm4.rd hs HF2.out HD2.out (by omega) (by omega) (by omega) (by omega)).mono ?_
  rintro e w5 ⟨rfl, hm5⟩
  rw [← HI3.out] at hm5
  go_wp2_with fail
  refine (expect_take _ g s i3 58 _ hm5.rd hs HF3.out).mono ?_
  rintro e w6 ⟨rfl, hm6⟩
  rw [← HI4.out] at hm6
  go_wp2_with fail
  refine (number_take _ g s i4 0 60 pS sec _ hm6.rd hs HF4.out HD4.out (by omega) (by omega) (by omega) (by omega)).mono ?_
  rintro e w7 ⟨rfl, hm7⟩
  rw [← HI5.out] at hm7
  go_wp2_with fail
  go_ret2
  refine ⟨ret_vb (by omega), ?_⟩
  rw [← hE.out]
  exact ((((((hm1).trans hm2).trans hm3).trans hm4).trans hm5).trans hm6).trans hm7

set_option maxRecDepth 100000 in
set_option maxHeartbeats 1000000 in
theorem app_off_10 (w : World) (B : Nat) (a : Option Addr) (n cap : Nat) (l : List UInt8) (h : Nat) (m : Int) (sec : Int) (pH pM pS : Nat) (hb0 : Buf 5 B w a n cap l) (hB0 : B ≤ w.heap.size) (hn : n ≤ 4194304) (hh : h ≤ 1000) (hpH : pH ≤ 4096) :
    Calls Try.prog 25 #[.slice a n cap, .int .i64 1, .int .i64 (h : Int), .int .i64 m, .int .i64 sec, .int .i64 0, .int .i64 (pH : Int), .int .i64 (pM : Int), .int .i64 (pS : Int)] w fun e w' => ∃ a' n' cap', e = .returned (.slice a' n' cap') ∧ Buf 5 B w' a' n' cap' (l ++ ([43] ++ (padded pH h))) ∧ Below B w w' := by
  go_enter Try.func25, Try.ntmps25
  go_wp2_with (first | (at_builtin; refine wpList_app tB rfl (.tmp 21) (.tmp 22) rfl [43] _ one_43 1 1 rfl rfl rfl hb0 (by omega) (by omega) ?_; intro a1 cap1 w1 hb1 hB1; have hs1 := hB1.size) | (go_at_call_of 19 (Value.int IntKind.i64 (h : Int)); refine (appendPadded _ B _ _ _ _ h pH hb1 (by omega) (by omega) (by omega) (by omega)).mono ?_; rintro e w2 ⟨a2, n2, cap2, rfl, hb2, hB2, hn2⟩; have hs2 := hB2.size; have hq2 : n2 ≤ n + 2 * 4200 := (by have := padded_len pH h (by omega); omega); clear hn2))
  go_ret
  exact ⟨_, _, _, rfl, by simpa [List.append_assoc] using hb2, (hB1).trans hB2⟩

set_option maxRecDepth 100000 in
set_option maxHeartbeats 1000000 in
theorem off_10 (w : World) (g : Nat) (s : ByteArray) (i : Nat) (h pH : Nat) (r : List UInt8) (j : Nat) (hj : Hid (j = i + (([43] ++ (padded pH h))).length)) (hr : Rd w g s i) (hs : s.size ≤ 16777216) (hF : From s i (([43] ++ (padded pH h)) ++ r)) (hnd : NoDig r) (hnc : NotAt 58 r) (hh : h ≤ 167) :
    Calls Try.prog 34 #[.pointer (some ⟨g, 0, none⟩)] w fun e w' => e = .returned (.tuple #[.int .i64 ((h : Int) * 3600), .bool true]) ∧ Moved g s j w w' := by
  have HF0 : Hid (From s i ([43] ++ (padded pH h ++ (r)))) := by
    show From s i ([43] ++ (padded pH h ++ (r)))
    first
      | exact hF
      | (have h0 := hF; simp only [List.append_assoc] at h0 ⊢; exact h0)
  have HN0_45 : Hid (NotAt 45 ([43] ++ (padded pH h ++ (r)))) := NotAt.cons (by decide)
  obtain ⟨i1, HI1, HF1⟩ : ∃ q, Hid (q = i + 1) ∧ Hid (From s q (padded pH h ++ (r))) := ⟨_, rfl, HF0.out.one⟩
  have HD1 : Hid (NoDig (r)) := hnd
  obtain ⟨i2, HI2, HF2⟩ : ∃ q, Hid (q = i1 + (padded pH h).length) ∧ Hid (From s q (r)) := ⟨_, rfl, HF1.out.step⟩
  have HN2_58 : Hid (NotAt 58 (r)) := hnc
  have hE : Hid (i2 = j) := by
    show i2 = j
    rw [hj.out]
    have z1 := HI1.out; have z2 := HI2.out; first | omega | (simp only [List.length_append, List.length_cons, List.length_nil]; omega)
  clear hj hF hnd hnc
  go_enter Try.func34, Try.ntmps34
  go_wp2_with fail
  refine (expect_skip _ g s i 45 _ hr hs HF0.out HN0_45.out).mono ?_
  rintro e w1 ⟨rfl, hm1⟩
  go_wp2_with fail
  refine (expect_take _ g s i 43 _ hm1.rd hs HF0.out).mono ?_
  rintro e w2 ⟨rfl, hm2⟩
  rw [← HI1.out] at hm2
  go_wp2_with fail
  refine (number_take _ g s i1 0 167 pH h _ hm2.rd hs HF1.out HD1.out (by omega) (by omega) (by omega) (by omega)).mono ?_
  rintro e w3 ⟨rfl, hm3⟩
  rw [← HI2.out] at hm3
  go_wp2_with fail
  refine (expect_skip _ g s i2 58 _ hm3.rd hs HF2.out HN2_58.out).mono ?_
  rintro e w4 ⟨rfl, hm4⟩
  go_wp2_with fail
  go_ret2
  refine ⟨ret_vb (by omega), ?_⟩
  rw [← hE.out]
  exact (((hm1).trans hm2).trans hm3).trans hm4

set_option maxRecDepth 100000 in
set_option maxHeartbeats 1000000 in
theorem app_off_11 (w : World) (B : Nat) (a : Option Addr) (n cap : Nat) (l : List UInt8) (h : Nat) (m : Nat) (sec : Int) (pH pM pS : Nat) (hb0 : Buf 5 B w a n cap l) (hB0 : B ≤ w.heap.size) (hn : n ≤ 4194304) (hh : h ≤ 1000) (hm : m ≤ 1000) (hpH : pH ≤ 4096) (hpM : pM ≤ 4096) :
    Calls Try.prog 25 #[.slice a n cap, .int .i64 1, .int .i64 (h : Int), .int .i64 (m : Int), .int .i64 sec, .int .i64 1, .int .i64 (pH : Int), .int .i64 (pM : Int), .int .i64 (pS : Int)] w fun e w' => ∃ a' n' cap', e = .returned (.slice a' n' cap') ∧ Buf 5 B w' a' n' cap' (l ++ ([43] ++ (padded pH h ++ ([58] ++ (padded pM m))))) ∧ Below B w w' := by
  go_enter Try.func25, Try.ntmps25
  go_wp2_with (first | (at_builtin; refine wpList_app tB rfl (.tmp 21) (.tmp 22) rfl [43] _ one_43 1 1 rfl rfl rfl hb0 (by omega) (by omega) ?_; intro a1 cap1 w1 hb1 hB1; have hs1 := hB1.size) | (go_at_call_of 19 (Value.int IntKind.i64 (h : Int)); refine (appendPadded _ B _ _ _ _ h pH hb1 (by omega) (by omega) (by omega) (by omega)).mono ?_; rintro e w2 ⟨a2, n2, cap2, rfl, hb2, hB2, hn2⟩; have hs2 := hB2.size; have hq2 : n2 ≤ n + 2 * 4200 := (by have := padded_len pH h (by omega); omega); clear hn2) | (at_builtin; refine wpList_app tB rfl (.tmp 35) (.tmp 36) rfl [58] _ one_58 1 1 rfl rfl rfl hb2 (by omega) (by omega) ?_; intro a3 cap3 w3 hb3 hB3; have hs3 := hB3.size) | (go_at_call_of 19 (Value.int IntKind.i64 (m : Int)); refine (appendPadded _ B _ _ _ _ m pM hb3 (by omega) (by omega) (by omega) (by omega)).mono ?_; rintro e w4 ⟨a4, n4, cap4, rfl, hb4, hB4, hn4⟩; have hs4 := hB4.size; have hq4 : n4 ≤ n + 4 * 4200 := (by have := padded_len pM m (by omega); omega); clear hn4))
  go_ret
  exact ⟨_, _, _, rfl, by simpa [List.append_assoc] using hb4, (((hB1).trans hB2).trans hB3).trans hB4⟩

set_option maxRecDepth 100000 in
set_option maxHeartbeats 1000000 in
theorem off_11 (w : World) (g : Nat) (s : ByteArray) (i : Nat) (h m pH pM : Nat) (r : List UInt8) (j : Nat) (hj : Hid (j = i + (([43] ++ (padded pH h ++ ([58] ++ (padded pM m))))).length)) (hr : Rd w g s i) (hs : s.size ≤ 16777216) (hF : From s i (([43] ++ (padded pH h ++ ([58] ++ (padded pM m)))) ++ r)) (hnd : NoDig r) (hnc : NotAt 58 r) (hh : h ≤ 167) (hm : m ≤ 59) :
    Calls Try.prog 34 #[.pointer (some ⟨g, 0, none⟩)] w fun e w' => e = .returned (.tuple #[.int .i64 ((h : Int) * 3600 + (m : Int) * 60), .bool true]) ∧ Moved g s j w w' := by
  have HF0 : Hid (From s i ([43] ++ (padded pH h ++ ([58] ++ (padded pM m ++ (r)))))) := by
    show From s i ([43] ++ (padded pH h ++ ([58] ++ (padded pM m ++ (r)))))
    first
      | exact hF
      | (have h0 := hF; simp only [List.append_assoc] at h0 ⊢; exact h0)
  have HN0_45 : Hid (NotAt 45 ([43] ++ (padded pH h ++ ([58] ++ (padded pM m ++ (r)))))) := NotAt.cons (by decide)
  obtain ⟨i1, HI1, HF1⟩ : ∃ q, Hid (q = i + 1) ∧ Hid (From s q (padded pH h ++ ([58] ++ (padded pM m ++ (r))))) := ⟨_, rfl, HF0.out.one⟩
  have HD1 : Hid (NoDig ([58] ++ (padded pM m ++ (r)))) := NoDig.cons (by decide)
  obtain ⟨i2, HI2, HF2⟩ : ∃ q, Hid (q = i1 + (padded pH h).length) ∧ Hid (From s q ([58] ++ (padded pM m ++ (r)))) := ⟨_, rfl, HF1.out.step⟩
  obtain ⟨i3, HI3, HF3⟩ : ∃ q, Hid (q = i2 + 1) ∧ Hid (From s q (padded pM m ++ (r))) := ⟨_, rfl, HF2.out.one⟩
  have HD3 : Hid (NoDig (r)) := hnd
  obtain ⟨i4, HI4, HF4⟩ : ∃ q, Hid (q = i3 + (padded pM m).length) ∧ Hid (From s q (r)) := ⟨_, rfl, HF3.out.step⟩
  have HN4_58 : Hid (NotAt 58 (r)) := hnc
  have hE : Hid (i4 = j) := by
    show i4 = j
    rw [hj.out]
    have z1 := HI1.out; have z2 := HI2.out; have z3 := HI3.out; have z4 := HI4.out; first | omega | (simp only [List.length_append, List.length_cons, List.length_nil]; omega)
  clear hj hF hnd hnc
  go_enter Try.func34, Try.ntmps34
  go_wp2_with fail
  refine (expect_skip _ g s i 45 _ hr hs HF0.out HN0_45.out).mono ?_
  rintro e w1 ⟨rfl, hm1⟩
  go_wp2_with fail
  refine (expect_take _ g s i 43 _ hm1.rd hs HF0.out).mono ?_
  rintro e w2 ⟨rfl, hm2⟩
  rw [← HI1.out] at hm2
  go_wp2_with fail
  refine (number_take _ g s i1 0 167 pH h _ hm2.rd hs HF1.out HD1.out (by omega) (by omega) (by omega) (by omega)).mono ?_
  rintro e w3 ⟨rfl, hm3⟩
  rw [← HI2.out] at hm3
  go_wp2_with fail
  refine (expect_take _ g s i2 58 _ hm3.rd hs HF2.out).mono ?_
  rintro e w4 ⟨rfl, hm4⟩
  rw [← HI3.out] at hm4
  go_wp2_with fail
  refine (number_take _ g s i3 0 59 pM m _ hm4.rd hs HF3.out HD3.out (by omega) (by omega) (by omega) (by omega)).mono ?_
  rintro e w5 ⟨rfl, hm5⟩
  rw [← HI4.out] at hm5
  go_wp2_with fail
  refine (expect_skip _ g s i4 58 _ hm5.rd hs HF4.out HN4_58.out).mono ?_
  rintro e w6 ⟨rfl, hm6⟩
  go_wp2_with fail
  go_ret2
  refine ⟨ret_vb (by omega), ?_⟩
  rw [← hE.out]
  exact (((((hm1).trans hm2).trans hm3).trans hm4).trans hm5).trans hm6

set_option maxRecDepth 100000 in
set_option maxHeartbeats 1000000 in
theorem app_off_12 (w : World) (B : Nat) (a : Option Addr) (n cap : Nat) (l : List UInt8) (h : Nat) (m : Nat) (sec : Nat) (pH pM pS : Nat) (hb0 : Buf 5 B w a n cap l) (hB0 : B ≤ w.heap.size) (hn : n ≤ 4194304) (hh : h ≤ 1000) (hm : m ≤ 1000) (hsec : sec ≤ 1000) (hpH : pH ≤ 4096) (hpM : pM ≤ 4096) (hpS : pS ≤ 4096) :
    Calls Try.prog 25 #[.slice a n cap, .int .i64 1, .int .i64 (h : Int), .int .i64 (m : Int), .int .i64 (sec : Int), .int .i64 2, .int .i64 (pH : Int), .int .i64 (pM : Int), .int .i64 (pS : Int)] w fun e w' => ∃ a' n' cap', e = .returned (.slice a' n' cap') ∧ Buf 5 B w' a' n' cap' (l ++ ([43] ++ (padded pH h ++ ([58] ++ (padded pM m ++ ([58] ++ (padded pS sec))))))) ∧ Below B w w' := by
  go_enter Try.func25, Try.ntmps25
  go_wp2_with (first | (at_builtin; refine wpList_app tB rfl (.tmp 21) (.tmp 22) rfl [43] _ one_43 1 1 rfl rfl rfl hb0 (by omega) (by omega) ?_; intro a1 cap1 w1 hb1 hB1; have hs1 := hB1.size) | (go_at_call_of 19 (Value.int IntKind.i64 (h : Int)); refine (appendPadded _ B _ _ _ _ h pH hb1 (by omega) (by omega) (by omega) (by omega)).mono ?_; rintro e w2 ⟨a2, n2, cap2, rfl, hb2, hB2, hn2⟩; have hs2 := hB2.size; have hq2 : n2 ≤ n + 2 * 4200 := (by have := padded_len pH h (by omega); omega); clear hn2) | (at_builtin; refine wpList_app tB rfl (.tmp 35) (.tmp 36) rfl [58] _ one_58 1 1 rfl rfl rfl hb2 (by omega) (by omega) ?_; intro a3 cap3 w3 hb3 hB3; have hs3 := hB3.size) | (go_at_call_of 19 (Value.int IntKind.i64 (m : Int)); refine (appendPadded _ B _ _ _ _ m pM hb3 (by omega) (by omega) (by omega) (by omega)).mono ?_; rintro e w4 ⟨a4, n4, cap4, rfl, hb4, hB4, hn4⟩; have hs4 := hB4.size; have hq4 : n4 ≤ n + 4 * 4200 := (by have := padded_len pM m (by omega); omega); clear hn4) | (at_builtin; refine wpList_app tB rfl (.tmp 44) (.tmp 45) rfl [58] _ one_58 1 1 rfl rfl rfl hb4 (by omega) (by omega) ?_; intro a5 cap5 w5 hb5 hB5; have hs5 := hB5.size) | (go_at_call_of 19 (Value.int IntKind.i64 (sec : Int)); refine (appendPadded _ B _ _ _ _ sec pS hb5 (by omega) (by omega) (by omega) (by omega)).mono ?_; rintro e w6 ⟨a6, n6, cap6, rfl, hb6, hB6, hn6⟩; have hs6 := hB6.size; have hq6 : n6 ≤ n + 6 * 4200 := (by have := padded_len pS sec (by omega); omega); clear hn6))
  go_ret
  exact ⟨_, _, _, rfl, by simpa [List.append_assoc] using hb6, (((((hB1).trans hB2).trans hB3).trans hB4).trans hB5).trans hB6⟩

set_option maxRecDepth 100000 in
set_option maxHeartbeats 1000000 in
theorem off_12 (w : World) (g : Nat) (s : ByteArray) (i : Nat) (h m sec pH pM pS : Nat) (r : List UInt8) (j : Nat) (hj : Hid (j = i + (([43] ++ (padded pH h ++ ([58] ++ (padded pM m ++ ([58] ++ (padded pS sec))))))).length)) (hr : Rd w g s i) (hs : s.size ≤ 16777216) (hF : From s i (([43] ++ (padded pH h ++ ([58] ++ (padded pM m ++ ([58] ++ (padded pS sec)))))) ++ r)) (hnd : NoDig r) (hh : h ≤ 167) (hm : m ≤ 59) (hsec : sec ≤ 60) :
    Calls Try.prog 34 #[.pointer (some ⟨g, 0, none⟩)] w fun e w' => e = .returned (.tuple #[.int .i64 ((h : Int) * 3600 + (m : Int) * 60 + (sec : Int)), .bool true]) ∧ Moved g s j w w' := by
  have HF0 : Hid (From s i ([43] ++ (padded pH h ++ ([58] ++ (padded pM m ++ ([58] ++ (padded pS sec ++ (r)))))))) := by
    show From s i ([43] ++ (padded pH h ++ ([58] ++ (padded pM m ++ ([58] ++ (padded pS sec ++ (r)))))))
    first
      | exact hF
      | (have h0 := hF; simp only [List.append_assoc] at h0 ⊢; exact h0)
  have HN0_45 : Hid (NotAt 45 ([43] ++ (padded pH h ++ ([58] ++ (padded pM m ++ ([58] ++ (padded pS sec ++ (r)))))))) := NotAt.cons (by decide)
  obtain ⟨i1, HI1, HF1⟩ : ∃ q, Hid (q = i + 1) ∧ Hid (From s q (padded pH h ++ ([58] ++ (padded pM m ++ ([58] ++ (padded pS sec ++ (r))))))) := ⟨_, rfl, HF0.out.one⟩
  have HD1 : Hid (NoDig ([58] ++ (padded pM m ++ ([58] ++ (padded pS sec ++ (r)))))) := NoDig.cons (by decide)
  obtain ⟨i2, HI2, HF2⟩ : ∃ q, Hid (q = i1 + (padded pH h).length) ∧ Hid (From s q ([58] ++ (padded pM m ++ ([58] ++ (padded pS sec ++ (r)))))) := ⟨_, rfl, HF1.out.step⟩
  obtain ⟨i3, HI3, HF3⟩ : ∃ q, Hid (q = i2 + 1) ∧ Hid (From s q (padded pM m ++ ([58] ++ (padded pS sec ++ (r))))) := ⟨_, rfl, HF2.out.one⟩
  have HD3 : Hid (NoDig ([58] ++ (padded pS sec ++ (r)))) := NoDig.cons (by decide)
  obtain ⟨i4, HI4, HF4⟩ : ∃ q, Hid (q = i3 + (padded pM m).length) ∧ Hid (From s q ([58] ++ (padded pS sec ++ (r)))) := ⟨_, rfl, HF3.out.step⟩
  obtain ⟨i5, HI5, HF5⟩ : ∃ q, Hid (q = i4 + 1) ∧ Hid (From s q (padded pS sec ++ (r))) := ⟨_, rfl, HF4.out.one⟩
  have HD5 : Hid (NoDig (r)) := hnd
  obtain ⟨i6, HI6, HF6⟩ : ∃ q, Hid (q = i5 + (padded pS sec).length) ∧ Hid (From s q (r)) := ⟨_, rfl, HF5.out.step⟩
  have hE : Hid (i6 = j) := by
    show i6 = j
    rw [hj.out]
    have z1 := HI1.out; have z2 := HI2.out; have z3 := HI3.out; have z4 := HI4.out; have z5 := HI5.out; have z6 := HI6.out; first | omega | (simp only [List.length_append, List.length_cons, List.length_nil]; omega)
  clear hj hF hnd
  go_enter Try.func34, Try.ntmps34
  go_wp2_with fail
  refine (expect_skip _ g s i 45 _ hr hs HF0.out HN0_45.out).mono ?_
  rintro e w1 ⟨rfl, hm1⟩
  go_wp2_with fail
  refine (expect_take _ g s i 43 _ hm1.rd hs HF0.out).mono ?_
  rintro e w2 ⟨rfl, hm2⟩
  rw [← HI1.out] at hm2
  go_wp2_with fail
  refine (number_take _ g s i1 0 167 pH h _ hm2.rd hs HF1.out HD1.out (by omega) (by omega) (by omega) (by omega)).mono ?_
  rintro e w3 ⟨rfl, hm3⟩
  rw [← HI2.out] at hm3
  go_wp2_with fail
  refine (expect_take _ g s i2 58 _ hm3.rd hs HF2.out).mono ?_
  rintro e w4 ⟨rfl, hm4⟩
  rw [← HI3.out] at hm4
  go_wp2_with fail
  refine (number_take _ g s i3 0 59 pM m _ hm4.rd hs HF3.out HD3.out (by omega) (by omega) (by omega) (by omega)).mono ?_
  rintro e w5 ⟨rfl, hm5⟩
  rw [← HI4.out] at hm5
  go_wp2_with fail
  refine (expect_take _ g s i4 58 _ hm5.rd hs HF4.out).mono ?_
  rintro e w6 ⟨rfl, hm6⟩
  rw [← HI5.out] at hm6
  go_wp2_with fail
  refine (number_take _ g s i5 0 60 pS sec _ hm6.rd hs HF5.out HD5.out (by omega) (by omega) (by omega) (by omega)).mono ?_
  rintro e w7 ⟨rfl, hm7⟩
  rw [← HI6.out] at hm7
  go_wp2_with fail
  go_ret2
  refine ⟨ret_vb (by omega), ?_⟩
  rw [← hE.out]
  exact ((((((hm1).trans hm2).trans hm3).trans hm4).trans hm5).trans hm6).trans hm7

set_option maxRecDepth 100000 in
set_option maxHeartbeats 1000000 in
theorem app_off_20 (w : World) (B : Nat) (a : Option Addr) (n cap : Nat) (l : List UInt8) (h : Nat) (m : Int) (sec : Int) (pH pM pS : Nat) (hb0 : Buf 5 B w a n cap l) (hB0 : B ≤ w.heap.size) (hn : n ≤ 4194304) (hh : h ≤ 1000) (hpH : pH ≤ 4096) :
    Calls Try.prog 25 #[.slice a n cap, .int .i64 2, .int .i64 (h : Int), .int .i64 m, .int .i64 sec, .int .i64 0, .int .i64 (pH : Int), .int .i64 (pM : Int), .int .i64 (pS : Int)] w fun e w' => ∃ a' n' cap', e = .returned (.slice a' n' cap') ∧ Buf 5 B w' a' n' cap' (l ++ ([45] ++ (padded pH h))) ∧ Below B w w' := by
  go_enter Try.func25, Try.ntmps25
  go_wp2_with (first | (at_builtin; refine wpList_app tB rfl (.tmp 26) (.tmp 27) rfl [45] _ one_45 1 1 rfl rfl rfl hb0 (by omega) (by omega) ?_; intro a1 cap1 w1 hb1 hB1; have hs1 := hB1.size) | (go_at_call_of 19 (Value.int IntKind.i64 (h : Int)); refine (appendPadded _ B _ _ _ _ h pH hb1 (by omega) (by omega) (by omega) (by omega)).mono ?_; rintro e w2 ⟨a2, n2, cap2, rfl, hb2, hB2, hn2⟩; have hs2 := hB2.size; have hq2 : n2 ≤ n + 2 * 4200 := (by have := padded_len pH h (by omega); omega); clear hn2))
  go_ret
  exact ⟨_, _, _, rfl, by simpa [List.append_assoc] using hb2, (hB1).trans hB2⟩

set_option maxRecDepth 100000 in
set_option maxHeartbeats 1000000 in
theorem off_20 (w : World) (g : Nat) (s : ByteArray) (i : Nat) (h pH : Nat) (r : List UInt8) (j : Nat) (hj : Hid (j = i + (([45] ++ (padded pH h))).length)) (hr : Rd w g s i) (hs : s.size ≤ 16777216) (hF : From s i (([45] ++ (padded pH h)) ++ r)) (hnd : NoDig r) (hnc : NotAt 58 r) (hh : h ≤ 167) :
    Calls Try.prog 34 #[.pointer (some ⟨g, 0, none⟩)] w fun e w' => e = .returned (.tuple #[.int .i64 (-((h : Int) * 3600)), .bool true]) ∧ Moved g s j w w' := by
  have HF0 : Hid (From s i ([45] ++ (padded pH h ++ (r)))) := by
    show From s i ([45] ++ (padded pH h ++ (r)))
    first
      | exact hF
      | (have h0 := hF; simp only [List.append_assoc] at h0 ⊢; exact h0)
  obtain ⟨i1, HI1, HF1⟩ : ∃ q, Hid (q = i + 1) ∧ Hid (From s q (padded pH h ++ (r))) := ⟨_, rfl, HF0.out.one⟩
  have HD1 : Hid (NoDig (r)) := hnd
  obtain ⟨i2, HI2, HF2⟩ : ∃ q, Hid (q = i1 + (padded pH h).length) ∧ Hid (From s q (r)) := ⟨_, rfl, HF1.out.step⟩
  have HN2_58 : Hid (NotAt 58 (r)) := hnc
  have hE : Hid (i2 = j) := by
    show i2 = j
    rw [hj.out]
    have z1 := HI1.out; have z2 := HI2.out; first | omega | (simp only [List.length_append, List.length_cons, List.length_nil]; omega)
  clear hj hF hnd hnc
  go_enter Try.func34, Try.ntmps34
  go_wp2_with fail
  refine (expect_take _ g s i 45 _ hr hs HF0.out).mono ?_
  rintro e w1 ⟨rfl, hm1⟩
  rw [← HI1.out] at hm1
  go_wp2_with fail
  refine (number_take _ g s i1 0 167 pH h _ hm1.rd hs HF1.out HD1.out (by omega) (by omega) (by omega) (by omega)).mono ?_
  rintro e w2 ⟨rfl, hm2⟩
  rw [← HI2.out] at hm2
  go_wp2_with fail
  refine (expect_skip _ g s i2 58 _ hm2.rd hs HF2.out HN2_58.out).mono ?_
  rintro e w3 ⟨rfl, hm3⟩
  go_wp2_with fail
  go_ret2
  refine ⟨ret_vb (by omega), ?_⟩
  rw [← hE.out]
  exact ((hm1).trans hm2).trans hm3

set_option maxRecDepth 100000 in
set_option maxHeartbeats 1000000 in
theorem app_off_21 (w : World) (B : Nat) (a : Option Addr) (n cap : Nat) (l : List UInt8) (h : Nat) (m : Nat) (sec : Int) (pH pM pS : Nat) (hb0 : Buf 5 B w a n cap l) (hB0 : B ≤ w.heap.size) (hn : n ≤ 4194304) (hh : h ≤ 1000) (hm : m ≤ 1000) (hpH : pH ≤ 4096) (hpM : pM ≤ 4096) :
    Calls Try.prog 25 #[.slice a n cap, .int .i64 2, .int .i64 (h : Int), .int .i64 (m : Int), .int .i64 sec, .int .i64 1, .int .i64 (pH : Int), .int .i64 (pM : Int), .int .i64 (pS : Int)] w fun e w' => ∃ a' n' cap', e = .returned (.slice a' n' cap') ∧ Buf 5 B w' a' n' cap' (l ++ ([45] ++ (padded pH h ++ ([58] ++ (padded pM m))))) ∧ Below B w w' := by
  go_enter Try.func25, Try.ntmps25
  go_wp2_with (first | (at_builtin; refine wpList_app tB rfl (.tmp 26) (.tmp 27) rfl [45] _ one_45 1 1 rfl rfl rfl hb0 (by omega) (by omega) ?_; intro a1 cap1 w1 hb1 hB1; have hs1 := hB1.size) | (go_at_call_of 19 (Value.int IntKind.i64 (h : Int)); refine (appendPadded _ B _ _ _ _ h pH hb1 (by omega) (by omega) (by omega) (by omega)).mono ?_; rintro e w2 ⟨a2, n2, cap2, rfl, hb2, hB2, hn2⟩; have hs2 := hB2.size; have hq2 : n2 ≤ n + 2 * 4200 := (by have := padded_len pH h (by omega); omega); clear hn2) | (at_builtin; refine wpList_app tB rfl (.tmp 35) (.tmp 36) rfl [58] _ one_58 1 1 rfl rfl rfl hb2 (by omega) (by omega) ?_; intro a3 cap3 w3 hb3 hB3; have hs3 := hB3.size) | (go_at_call_of 19 (Value.int IntKind.i64 (m : Int)); refine (appendPadded _ B _ _ _ _ m pM hb3 (by omega) (by omega) (by omega) (by omega)).mono ?_; rintro e w4 ⟨a4, n4, cap4, rfl, hb4, hB4, hn4⟩; have hs4 := hB4.size; have hq4 : n4 ≤ n + 4 * 4200 := (by have := padded_len pM m (by omega); omega); clear hn4))
  go_ret
  exact ⟨_, _, _, rfl, by simpa [List.append_assoc] using hb4, (((hB1).trans hB2).trans hB3).trans hB4⟩

set_option maxRecDepth 100000 in
set_option maxHeartbeats 1000000 in
theorem off_21 (w : World) (g : Nat) (s : ByteArray) (i : Nat) (h m pH pM : Nat) (r : List UInt8) (j : Nat) (hj : Hid (j = i + (([45] ++ (padded pH h ++ ([58] ++ (padded pM m))))).length)) (hr : Rd w g s i) (hs : s.size ≤ 16777216) (hF : From s i (([45] ++ (padded pH h ++ ([58] ++ (padded pM m)))) ++ r)) (hnd : NoDig r) (hnc : NotAt 58 r) (hh : h ≤ 167) (hm : m ≤ 59) :
    Calls Try.prog 34 #[.pointer (some ⟨g, 0, none⟩)] w fun e w' => e = .returned (.tuple #[.int .i64 (-((h : Int) * 3600 + (m : Int) * 60)), .bool true]) ∧ Moved g s j w w' := by
  have HF0 : Hid (From s i ([45] ++ (padded pH h ++ ([58] ++ (padded pM m ++ (r)))))) := by
    show From s i ([45] ++ (padded pH h ++ ([58] ++ (padded pM m ++ (r)))))
    first
      | exact hF
      | (have h0 := hF; simp only [List.append_assoc] at h0 ⊢; exact h0)
  obtain ⟨i1, HI1, HF1⟩ : ∃ q, Hid (q = i + 1) ∧ Hid (From s q (padded pH h ++ ([58] ++ (padded pM m ++ (r))))) := ⟨_, rfl, HF0.out.one⟩
  have HD1 : Hid (NoDig ([58] ++ (padded pM m ++ (r)))) := NoDig.cons (by decide)
  obtain ⟨i2, HI2, HF2⟩ : ∃ q, Hid (q = i1 + (padded pH h).length) ∧ Hid (From s q ([58] ++ (padded pM m ++ (r)))) := ⟨_, rfl, HF1.out.step⟩
  obtain ⟨i3, HI3, HF3⟩ : ∃ q, Hid (q = i2 + 1) ∧ Hid (From s q (padded pM m ++ (r))) := ⟨_, rfl, HF2.out.one⟩
  have HD3 : Hid (NoDig (r)) := hnd
  obtain ⟨i4, HI4, HF4⟩ : ∃ q, Hid (q = i3 + (padded pM m).length) ∧ Hid (From s q (r)) := ⟨_, rfl, HF3.out.step⟩
  have HN4_58 : Hid (NotAt 58 (r)) := hnc
  have hE : Hid (i4 = j) := by
    show i4 = j
    rw [hj.out]
    have z1 := HI1.out; have z2 := HI2.out; have z3 := HI3.out; have z4 := HI4.out; first | omega | (simp only [List.length_append, List.length_cons, List.length_nil]; omega)
  clear hj hF hnd hnc
  go_enter Try.func34, Try.ntmps34
  go_wp2_with fail
  refine (expect_take _ g s i 45 _ hr hs HF0.out).mono ?_
  rintro e w1 ⟨rfl, hm1⟩
  rw [← HI1.out] at hm1
  go_wp2_with fail
  refine (number_take _ g s i1 0 167 pH h _ hm1.rd hs HF1.out HD1.out (by omega) (by omega) (by omega) (by omega)).mono ?_
  rintro e w2 ⟨rfl, hm2⟩
  rw [← HI2.out] at hm2
  go_wp2_with fail
  refine (expect_take _ g s i2 58 _ hm2.rd hs HF2.out).mono ?_
  rintro e w3 ⟨rfl, hm3⟩
  rw [← HI3.out] at hm3
  go_wp2_with fail
  refine (number_take _ g s i3 0 59 pM m _ hm3.rd hs HF3.out HD3.out (by omega) (by omega) (by omega) (by omega)).mono ?_
  rintro e w4 ⟨rfl, hm4⟩
  rw [← HI4.out] at hm4
  go_wp2_with fail
  refine (expect_skip _ g s i4 58 _ hm4.rd hs HF4.out HN4_58.out).mono ?_
  rintro e w5 ⟨rfl, hm5⟩
  go_wp2_with fail
  go_ret2
  refine ⟨ret_vb (by omega), ?_⟩
  rw [← hE.out]
  exact ((((hm1).trans hm2).trans hm3).trans hm4).trans hm5

set_option maxRecDepth 100000 in
set_option maxHeartbeats 1000000 in
theorem app_off_22 (w : World) (B : Nat) (a : Option Addr) (n cap : Nat) (l : List UInt8) (h : Nat) (m : Nat) (sec : Nat) (pH pM pS : Nat) (hb0 : Buf 5 B w a n cap l) (hB0 : B ≤ w.heap.size) (hn : n ≤ 4194304) (hh : h ≤ 1000) (hm : m ≤ 1000) (hsec : sec ≤ 1000) (hpH : pH ≤ 4096) (hpM : pM ≤ 4096) (hpS : pS ≤ 4096) :
    Calls Try.prog 25 #[.slice a n cap, .int .i64 2, .int .i64 (h : Int), .int .i64 (m : Int), .int .i64 (sec : Int), .int .i64 2, .int .i64 (pH : Int), .int .i64 (pM : Int), .int .i64 (pS : Int)] w fun e w' => ∃ a' n' cap', e = .returned (.slice a' n' cap') ∧ Buf 5 B w' a' n' cap' (l ++ ([45] ++ (padded pH h ++ ([58] ++ (padded pM m ++ ([58] ++ (padded pS sec))))))) ∧ Below B w w' := by
  go_enter Try.func25, Try.ntmps25
  go_wp2_with (first | (at_builtin; refine wpList_app tB rfl (.tmp 26) (.tmp 27) rfl [45] _ one_45 1 1 rfl rfl rfl hb0 (by omega) (by omega) ?_; intro a1 cap1 w1 hb1 hB1; have hs1 := hB1.size) | (go_at_call_of 19 (Value.int IntKind.i64 (h : Int)); refine (appendPadded _ B _ _ _ _ h pH hb1 (by omega) (by omega) (by omega) (by omega)).mono ?_; rintro e w2 ⟨a2, n2, cap2, rfl, hb2, hB2, hn2⟩; have hs2 := hB2.size; have hq2 : n2 ≤ n + 2 * 4200 := (by have := padded_len pH h (by omega); omega); clear hn2) | (at_builtin; refine wpList_app tB rfl (.tmp 35) (.tmp 36) rfl [58] _ one_58 1 1 rfl rfl rfl hb2 (by omega) (by omega) ?_; intro a3 cap3 w3 hb3 hB3; have hs3 := hB3.size) | (go_at_call_of 19 (Value.int IntKind.i64 (m : Int)); refine (appendPadded _ B _ _ _ _ m pM hb3 (by omega) (by omega) (by omega) (by omega)).mono ?_; rintro e w4 ⟨a4, n4, cap4, rfl, hb4, hB4, hn4⟩; have hs4 := hB4.size; have hq4 : n4 ≤ n + 4 * 4200 := (by have := padded_len pM m (by omega); omega); clear hn4) | (at_builtin; refine wpList_app tB rfl (.tmp 44) (.tmp 45) rfl [58] _ one_58 1 1 rfl rfl rfl hb4 (by omega) (by omega) ?_; intro a5 cap5 w5 hb5 hB5; have hs5 := hB5.size) | (go_at_call_of 19 (Value.int IntKind.i64 (sec : Int)); refine (appendPadded _ B _ _ _ _ sec pS hb5 (by omega) (by omega) (by omega) (by omega)).mono ?_; rintro e w6 ⟨a6, n6, cap6, rfl, hb6, hB6, hn6⟩; have hs6 := hB6.size; have hq6 : n6 ≤ n + 6 * 4200 := (by have := padded_len pS sec (by omega); omega); clear hn6))
  go_ret
  exact ⟨_, _, _, rfl, by simpa [List.append_assoc] using hb6, (((((hB1).trans hB2).trans hB3).trans hB4).trans hB5).trans hB6⟩

set_option maxRecDepth 100000 in
set_option maxHeartbeats 1000000 in
theorem off_22 (w : World) (g : Nat) (s : ByteArray) (i : Nat) (h m sec pH pM pS : Nat) (r : List UInt8) (j : Nat) (hj : Hid (j = i + (([45] ++ (padded pH h ++ ([58] ++ (padded pM m ++ ([58] ++ (padded pS sec))))))).length)) (hr : Rd w g s i) (hs : s.size ≤ 16777216) (hF : From s i (([45] ++ (padded pH h ++ ([58] ++ (padded pM m ++ ([58] ++ (padded pS sec)))))) ++ r)) (hnd : NoDig r) (hh : h ≤ 167) (hm : m ≤ 59) (hsec : sec ≤ 60) :
    Calls Try.prog 34 #[.pointer (some ⟨g, 0, none⟩)] w fun e w' => e = .returned (.tuple #[.int .i64 (-((h : Int) * 3600 + (m : Int) * 60 + (sec : Int))), .bool true]) ∧ Moved g s j w w' := by
  have HF0 : Hid (From s i ([45] ++ (padded pH h ++ ([58] ++ (padded pM m ++ ([58] ++ (padded pS sec ++ (r)))))))) := by
    show From s i ([45] ++ (padded pH h ++ ([58] ++ (padded pM m ++ ([58] ++ (padded pS sec ++ (r)))))))
    first
      | exact hF
      | (have h0 := hF; simp only [List.append_assoc] at h0 ⊢; exact h0)
  obtain ⟨i1, HI1, HF1⟩ : ∃ q, Hid (q = i + 1) ∧ Hid (From s q (padded pH h ++ ([58] ++ (padded pM m ++ ([58] ++ (padded pS sec ++ (r))))))) := ⟨_, rfl, HF0.out.one⟩
  have HD1 : Hid (NoDig ([58] ++ (padded pM m ++ ([58] ++ (padded pS sec ++ (r)))))) := NoDig.cons (by decide)
  obtain ⟨i2, HI2, HF2⟩ : ∃ q, Hid (q = i1 + (padded pH h).length) ∧ Hid (From s q ([58] ++ (padded pM m ++ ([58] ++ (padded pS sec ++ (r)))))) := ⟨_, rfl, HF1.out.step⟩
  obtain ⟨i3, HI3, HF3⟩ : ∃ q, Hid (q = i2 + 1) ∧ Hid (From s q (padded pM m ++ ([58] ++ (padded pS sec ++ (r))))) := ⟨_, rfl, HF2.out.one⟩
  have HD3 : Hid (NoDig ([58] ++ (padded pS sec ++ (r)))) := NoDig.cons (by decide)
  obtain ⟨i4, HI4, HF4⟩ : ∃ q, Hid (q = i3 + (padded pM m).length) ∧ Hid (From s q ([58] ++ (padded pS sec ++ (r)))) := ⟨_, rfl, HF3.out.step⟩
  obtain ⟨i5, HI5, HF5⟩ : ∃ q, Hid (q = i4 + 1) ∧ Hid (From s q (padded pS sec ++ (r))) := ⟨_, rfl, HF4.out.one⟩
  have HD5 : Hid (NoDig (r)) := hnd
  obtain ⟨i6, HI6, HF6⟩ : ∃ q, Hid (q = i5 + (padded pS sec).length) ∧ Hid (From s q (r)) := ⟨_, rfl, HF5.out.step⟩
  have hE : Hid (i6 = j) := by
    show i6 = j
    rw [hj.out]
    have z1 := HI1.out; have z2 := HI2.out; have z3 := HI3.out; have z4 := HI4.out; have z5 := HI5.out; have z6 := HI6.out; first | omega | (simp only [List.length_append, List.length_cons, List.length_nil]; omega)
  clear hj hF hnd
  go_enter Try.func34, Try.ntmps34
  go_wp2_with fail
  refine (expect_take _ g s i 45 _ hr hs HF0.out).mono ?_
  rintro e w1 ⟨rfl, hm1⟩
  rw [← HI1.out] at hm1
  go_wp2_with fail
  refine (number_take _ g s i1 0 167 pH h _ hm1.rd hs HF1.out HD1.out (by omega) (by omega) (by omega) (by omega)).mono ?_
  rintro e w2 ⟨rfl, hm2⟩
  rw [← HI2.out] at hm2
  go_wp2_with fail
  refine (expect_take _ g s i2 58 _ hm2.rd hs HF2.out).mono ?_
  rintro e w3 ⟨rfl, hm3⟩
  rw [← HI3.out] at hm3
  go_wp2_with fail
  refine (number_take _ g s i3 0 59 pM m _ hm3.rd hs HF3.out HD3.out (by omega) (by omega) (by omega) (by omega)).mono ?_
  rintro e w4 ⟨rfl, hm4⟩
  rw [← HI4.out] at hm4
  go_wp2_with fail
  refine (expect_take _ g s i4 58 _ hm4.rd hs HF4.out).mono ?_
  rintro e w5 ⟨rfl, hm5⟩
  rw [← HI5.out] at hm5
  go_wp2_with fail
  refine (number_take _ g s i5 0 60 pS sec _ hm5.rd hs HF5.out HD5.out (by omega) (by omega) (by omega) (by omega)).mono ?_
  rintro e w6 ⟨rfl, hm6⟩
  rw [← HI6.out] at hm6
  go_wp2_with fail
  go_ret2
  refine ⟨ret_vb (by omega), ?_⟩
  rw [← hE.out]
  exact (((((hm1).trans hm2).trans hm3).trans hm4).trans hm5).trans hm6

set_option maxHeartbeats 1000000 in
theorem zz26_of (s : ByteArray) (i j : Nat) (v : Int) (ok : Bool) (w : World)
    (h34 : ∀ (W : World), Rd W w.heap.size s i → Calls Try.prog 34 #[.pointer (some ⟨w.heap.size, 0, none⟩)] W fun e w' => e = .returned (.tuple #[.int .i64 v, .bool ok]) ∧ Moved w.heap.size s j W w') :
    Calls Try.prog 26 #[.string s, .int .i64 (i : Int)] w fun e w' => e = .returned (.tuple #[.int .i64 v, .int .i64 (j : Int), .bool ok]) ∧ Below w.heap.size w w' := by
  have H34 := (show Hid _ from h34)
  clear h34
  go_enter Try.func26, Try.ntmps26
  go_wp2_with fail
  refine (H34.out _ (rd_new w s i)).mono ?_
  rintro e w1 ⟨rfl, hm⟩
  have c1 := hm.rd.c1
  have hb := hm.below
  clear hm
  go_wp2_with fail
  go_quiet (fail)
  go_wp2_with fail
  go_ret3
  exact ⟨rfl, below_drewN hb _⟩
end Go.Proofs.Qxb6600050a
