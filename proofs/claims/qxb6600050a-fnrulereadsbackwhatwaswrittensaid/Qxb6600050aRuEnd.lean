/-
  FnRuleReadsBackWhatWasWritten (9): the ways out, and all together.
-/
import Derived.Test.Qxb6600050aRuInst
import Derived.Deep.DeepCutAuto
namespace Go.Proofs.Qxb6600050a
open Go.RowKit

set_option maxRecDepth 100000 in
theorem out9_big (p tail : ByteArray) (kd d wk mo : Int) (ha : Bool) (sg h m sec fm : Int) (w : World) (h1 : p.size ≤ maxLen) (h2 : tail.size ≤ maxLen) (hs : 1048576 < p.size + tail.size) :
    Calls Try.prog 9 #[.string p, .int .i64 kd, .int .i64 d, .int .i64 wk, .int .i64 mo, .bool ha, .int .i64 sg, .int .i64 h, .int .i64 m, .int .i64 sec, .int .i64 fm, .string tail] w fun e w' => e = .returned (.bool true) ∧ Below w.heap.size w w' := by
  go_enter Try.func9, Try.ntmps9
  go_wp2_with fail
  refine (zz29_no p tail _ _ _ _ _ _ _ _ _ _ _ h1 h2 hs).mono ?_
  rintro e w' ⟨rfl, rfl⟩
  go_wp2_with fail
  go_ret
  exact ⟨rfl, Below.refl _ _⟩

set_option maxRecDepth 100000 in
set_option maxHeartbeats 2000000 in
theorem out9_kind (p tail : ByteArray) (kd d wk mo : Int) (ha : Bool) (sg h m sec fm : Int) (w : World) (hsz : p.size + tail.size ≤ 1048576) (hc : (kd < 0) ∨ (0 ≤ kd ∧ 2 < kd)) :
    Calls Try.prog 9 #[.string p, .int .i64 kd, .int .i64 d, .int .i64 wk, .int .i64 mo, .bool ha, .int .i64 sg, .int .i64 h, .int .i64 m, .int .i64 sec, .int .i64 fm, .string tail] w fun e w' => e = .returned (.bool true) ∧ Below w.heap.size w w' := by
  rcases hc with h1 | ⟨h1, h2⟩
  all_goals
    go_enter Try.func9, Try.ntmps9
    go_wp2_with (first | (go_at_call 29; refine (zz29_yes p tail _ _ _ _ _ _ _ _ _ _ _ hsz).mono ?_; rintro e w' ⟨rfl, hw⟩; have hw' := hw.symm; subst hw'; clear hw))
    go_ret
    exact ⟨rfl, Below.refl _ _⟩

set_option maxRecDepth 100000 in
set_option maxHeartbeats 2000000 in
theorem out9_d0 (p tail : ByteArray) (d wk mo : Int) (ha : Bool) (sg h m sec fm : Int) (w : World) (hsz : p.size + tail.size ≤ 1048576) (hc : (d < 1) ∨ (1 ≤ d ∧ 365 < d)) :
    Calls Try.prog 9 #[.string p, .int .i64 0, .int .i64 d, .int .i64 wk, .int .i64 mo, .bool ha, .int .i64 sg, .int .i64 h, .int .i64 m, .int .i64 sec, .int .i64 fm, .string tail] w fun e w' => e = .returned (.bool true) ∧ Below w.heap.size w w' := by
  rcases hc with h1 | ⟨h1, h2⟩
  all_goals
    go_enter Try.func9, Try.ntmps9
    go_wp2_with (first | (go_at_call 29; refine (zz29_yes p tail _ _ _ _ _ _ _ _ _ _ _ hsz).mono ?_; rintro e w' ⟨rfl, hw⟩; have hw' := hw.symm; subst hw'; clear hw))
    go_ret
    exact ⟨rfl, Below.refl _ _⟩

set_option maxRecDepth 100000 in
set_option maxHeartbeats 2000000 in
theorem out9_d1 (p tail : ByteArray) (d wk mo : Int) (ha : Bool) (sg h m sec fm : Int) (w : World) (hsz : p.size + tail.size ≤ 1048576) (hc : (mo < 1) ∨ (1 ≤ mo ∧ 12 < mo) ∨ (1 ≤ mo ∧ mo ≤ 12 ∧ wk < 1) ∨ (1 ≤ mo ∧ mo ≤ 12 ∧ 1 ≤ wk ∧ 5 < wk) ∨ (1 ≤ mo ∧ mo ≤ 12 ∧ 1 ≤ wk ∧ wk ≤ 5 ∧ d < 0) ∨ (1 ≤ mo ∧ mo ≤ 12 ∧ 1 ≤ wk ∧ wk ≤ 5 ∧ 0 ≤ d ∧ 6 < d)) :
    Calls Try.prog 9 #[.string p, .int .i64 1, .int .i64 d, .int .i64 wk, .int .i64 mo, .bool ha, .int .i64 sg, .int .i64 h, .int .i64 m, .int .i64 sec, .int .i64 fm, .string tail] w fun e w' => e = .returned (.bool true) ∧ Below w.heap.size w w' := by
  rcases hc with h1 | ⟨h1, h2⟩ | ⟨h1, h2, h3⟩ | ⟨h1, h2, h3, h4⟩ | ⟨h1, h2, h3, h4, h5⟩ | ⟨h1, h2, h3, h4, h5, h6⟩
  all_goals
    go_enter Try.func9, Try.ntmps9
    go_wp2_with (first | (go_at_call 29; refine (zz29_yes p tail _ _ _ _ _ _ _ _ _ _ _ hsz).mono ?_; rintro e w' ⟨rfl, hw⟩; have hw' := hw.symm; subst hw'; clear hw))
    go_ret
    exact ⟨rfl, Below.refl _ _⟩

set_option maxRecDepth 100000 in
set_option maxHeartbeats 2000000 in
theorem out9_d2 (p tail : ByteArray) (d wk mo : Int) (ha : Bool) (sg h m sec fm : Int) (w : World) (hsz : p.size + tail.size ≤ 1048576) (hc : (d < 0) ∨ (0 ≤ d ∧ 365 < d)) :
    Calls Try.prog 9 #[.string p, .int .i64 2, .int .i64 d, .int .i64 wk, .int .i64 mo, .bool ha, .int .i64 sg, .int .i64 h, .int .i64 m, .int .i64 sec, .int .i64 fm, .string tail] w fun e w' => e = .returned (.bool true) ∧ Below w.heap.size w w' := by
  rcases hc with h1 | ⟨h1, h2⟩
  all_goals
    go_enter Try.func9, Try.ntmps9
    go_wp2_with (first | (go_at_call 29; refine (zz29_yes p tail _ _ _ _ _ _ _ _ _ _ _ hsz).mono ?_; rintro e w' ⟨rfl, hw⟩; have hw' := hw.symm; subst hw'; clear hw))
    go_ret
    exact ⟨rfl, Below.refl _ _⟩

set_option maxRecDepth 100000 in
set_option maxHeartbeats 4000000 in
theorem out9_e0 (p tail : ByteArray) (d wk mo : Int) (ha : Bool) (sg h m sec fm : Int) (w : World) (hsz : p.size + tail.size ≤ 1048576) (k1 : 1 ≤ d) (k2 : d ≤ 365) (hyp : (ha = true ∧ ¬ OffOk sg h m sec fm) ∨ ((ha = true → OffOk sg h m sec fm) ∧ ∃ ht : 0 < tail.size, digB ((tail[0]'ht).toNat : Int) = true ∨ (digB ((tail[0]'ht).toNat : Int) = false ∧ (((tail[0]'ht).toNat : Int) == 47) = true) ∨ (digB ((tail[0]'ht).toNat : Int) = false ∧ (((tail[0]'ht).toNat : Int) == 47) = false ∧ (((tail[0]'ht).toNat : Int) == 58) = true) ∨ (digB ((tail[0]'ht).toNat : Int) = false ∧ (((tail[0]'ht).toNat : Int) == 47) = false ∧ (((tail[0]'ht).toNat : Int) == 58) = false ∧ (((tail[0]'ht).toNat : Int) == 46) = true))) :
    Calls Try.prog 9 #[.string p, .int .i64 0, .int .i64 d, .int .i64 wk, .int .i64 mo, .bool ha, .int .i64 sg, .int .i64 h, .int .i64 m, .int .i64 sec, .int .i64 fm, .string tail] w fun e w' => e = .returned (.bool true) ∧ Below w.heap.size w w' := by
  have HY := (show Hid _ from hyp)
  clear hyp
  go_enter Try.func9, Try.ntmps9
  go_upto_region 13 with (go_at_call 29; refine (zz29_yes p tail _ _ _ _ _ _ _ _ _ _ _ hsz).mono ?_; rintro e w' ⟨rfl, hw⟩; have hw' := hw.symm; subst hw'; clear hw)
  rcases HY.out with ⟨rfl, hk⟩ | ⟨hk, ht, hc⟩
  · have HK := (show Hid _ from hk)
    clear hk HY
    go_wp2_with (go_at_call 23; refine (inRange_no _ _ _ _ _ _ HK.out).mono ?_; rintro e w' ⟨rfl, hw⟩; have hw' := hw.symm; subst hw'; clear hw)
    go_ret
    exact ⟨rfl, Below.refl _ _⟩
  · have HC := (show Hid _ from hc)
    clear hc HY
    cases ha
    · clear hk
      go_upto_region 15 with fail
      rcases HC.out with t1 | ⟨t1, t2⟩ | ⟨t1, t2, t3⟩ | ⟨t1, t2, t3, t4⟩
      all_goals
        clear HC
        go_wp2_with (go_at_call 14; refine (isDigit_any _ _).mono ?_; rintro e w' ⟨rfl, hw⟩; have hw' := hw.symm; subst hw'; clear hw)
        go_ret
        exact ⟨rfl, Below.refl _ _⟩
    · have HK := (show Hid _ from hk rfl)
      clear hk
      go_upto_region 15 with (go_at_call 23; refine (inRange_yes _ _ _ _ _ _ HK.out).mono ?_; rintro e w' ⟨rfl, hw⟩; have hw' := hw.symm; subst hw'; clear hw)
      rcases HC.out with t1 | ⟨t1, t2⟩ | ⟨t1, t2, t3⟩ | ⟨t1, t2, t3, t4⟩
      all_goals
        clear HC
        go_wp2_with (go_at_call 14; refine (isDigit_any _ _).mono ?_; rintro e w' ⟨rfl, hw⟩; have hw' := hw.symm; subst hw'; clear hw)
        go_ret
        exact ⟨rfl, Below.refl _ _⟩

set_option maxRecDepth 100000 in
set_option maxHeartbeats 4000000 in
theorem out9_e1 (p tail : ByteArray) (d wk mo : Int) (ha : Bool) (sg h m sec fm : Int) (w : World) (hsz : p.size + tail.size ≤ 1048576) (k1 : 1 ≤ mo) (k2 : mo ≤ 12) (k3 : 1 ≤ wk) (k4 : wk ≤ 5) (k5 : 0 ≤ d) (k6 : d ≤ 6) (hyp : (ha = true ∧ ¬ OffOk sg h m sec fm) ∨ ((ha = true → OffOk sg h m sec fm) ∧ ∃ ht : 0 < tail.size, digB ((tail[0]'ht).toNat : Int) = true ∨ (digB ((tail[0]'ht).toNat : Int) = false ∧ (((tail[0]'ht).toNat : Int) == 47) = true) ∨ (digB ((tail[0]'ht).toNat : Int) = false ∧ (((tail[0]'ht).toNat : Int) == 47) = false ∧ (((tail[0]'ht).toNat : Int) == 58) = true) ∨ (digB ((tail[0]'ht).toNat : Int) = false ∧ (((tail[0]'ht).toNat : Int) == 47) = false ∧ (((tail[0]'ht).toNat : Int) == 58) = false ∧ (((tail[0]'ht).toNat : Int) == 46) = true))) :
    Calls Try.prog 9 #[.string p, .int .i64 1, .int .i64 d, .int .i64 wk, .int .i64 mo, .bool ha, .int .i64 sg, .int .i64 h, .int .i64 m, .int .i64 sec, .int .i64 fm, .string tail] w fun e w' => e = .returned (.bool true) ∧ Below w.heap.size w w' := by
  have HY := (show Hid _ from hyp)
  clear hyp
  go_enter Try.func9, Try.ntmps9
  go_upto_region 13 with (go_at_call 29; refine (zz29_yes p tail _ _ _ _ _ _ _ _ _ _ _ hsz).mono ?_; rintro e w' ⟨rfl, hw⟩; have hw' := hw.symm; subst hw'; clear hw)
  rcases HY.out with ⟨rfl, hk⟩ | ⟨hk, ht, hc⟩
  · have HK := (show Hid _ from hk)
    clear hk HY
    go_wp2_with (go_at_call 23; refine (inRange_no _ _ _ _ _ _ HK.out).mono ?_; rintro e w' ⟨rfl, hw⟩; have hw' := hw.symm; subst hw'; clear hw)
    go_ret
    exact ⟨rfl, Below.refl _ _⟩
  · have HC := (show Hid _ from hc)
    clear hc HY
    cases ha
    · clear hk
      go_upto_region 15 with fail
      rcases HC.out with t1 | ⟨t1, t2⟩ | ⟨t1, t2, t3⟩ | ⟨t1, t2, t3, t4⟩
      all_goals
        clear HC
        go_wp2_with (go_at_call 14; refine (isDigit_any _ _).mono ?_; rintro e w' ⟨rfl, hw⟩; have hw' := hw.symm; subst hw'; clear hw)
        go_ret
        exact ⟨rfl, Below.refl _ _⟩
    · have HK := (show Hid _ from hk rfl)
      clear hk
      go_upto_region 15 with (go_at_call 23; refine (inRange_yes _ _ _ _ _ _ HK.out).mono ?_; rintro e w' ⟨rfl, hw⟩; have hw' := hw.symm; subst hw'; clear hw)
      rcases HC.out with t1 | ⟨t1, t2⟩ | ⟨t1, t2, t3⟩ | ⟨t1, t2, t3, t4⟩
      all_goals
        clear HC
        go_wp2_with (go_at_call 14; refine (isDigit_any _ _).mono ?_; rintro e w' ⟨rfl, hw⟩; have hw' := hw.symm; subst hw'; clear hw)
        go_ret
        exact ⟨rfl, Below.refl _ _⟩

set_option maxRecDepth 100000 in
set_option maxHeartbeats 4000000 in
theorem out9_e2 (p tail : ByteArray) (d wk mo : Int) (ha : Bool) (sg h m sec fm : Int) (w : World) (hsz : p.size + tail.size ≤ 1048576) (k1 : 0 ≤ d) (k2 : d ≤ 365) (hyp : (ha = true ∧ ¬ OffOk sg h m sec fm) ∨ ((ha = true → OffOk sg h m sec fm) ∧ ∃ ht : 0 < tail.size, digB ((tail[0]'ht).toNat : Int) = true ∨ (digB ((tail[0]'ht).toNat : Int) = false ∧ (((tail[0]'ht).toNat : Int) == 47) = true) ∨ (digB ((tail[0]'ht).toNat : Int) = false ∧ (((tail[0]'ht).toNat : Int) == 47) = false ∧ (((tail[0]'ht).toNat : Int) == 58) = true) ∨ (digB ((tail[0]'ht).toNat : Int) = false ∧ (((tail[0]'ht).toNat : Int) == 47) = false ∧ (((tail[0]'ht).toNat : Int) == 58) = false ∧ (((tail[0]'ht).toNat : Int) == 46) = true))) :
    Calls Try.prog 9 #[.string p, .int .i64 2, .int .i64 d, .int .i64 wk, .int .i64 mo, .bool ha, .int .i64 sg, .int .i64 h, .int .i64 m, .int .i64 sec, .int .i64 fm, .string tail] w fun e w' => e = .returned (.bool true) ∧ Below w.heap.size w w' := by
  have HY := (show Hid _ from hyp)
  clear hyp
  go_enter Try.func9, Try.ntmps9
  go_upto_region 13 with (go_at_call 29; refine (zz29_yes p tail _ _ _ _ _ _ _ _ _ _ _ hsz).mono ?_; rintro e w' ⟨rfl, hw⟩; have hw' := hw.symm; subst hw'; clear hw)
  rcases HY.out with ⟨rfl, hk⟩ | ⟨hk, ht, hc⟩
  · have HK := (show Hid _ from hk)
    clear hk HY
    go_wp2_with (go_at_call 23; refine (inRange_no _ _ _ _ _ _ HK.out).mono ?_; rintro e w' ⟨rfl, hw⟩; have hw' := hw.symm; subst hw'; clear hw)
    go_ret
    exact ⟨rfl, Below.refl _ _⟩
  · have HC := (show Hid _ from hc)
    clear hc HY
    cases ha
    · clear hk
      go_upto_region 15 with fail
      rcases HC.out with t1 | ⟨t1, t2⟩ | ⟨t1, t2, t3⟩ | ⟨t1, t2, t3, t4⟩
      all_goals
        clear HC
        go_wp2_with (go_at_call 14; refine (isDigit_any _ _).mono ?_; rintro e w' ⟨rfl, hw⟩; have hw' := hw.symm; subst hw'; clear hw)
        go_ret
        exact ⟨rfl, Below.refl _ _⟩
    · have HK := (show Hid _ from hk rfl)
      clear hk
      go_upto_region 15 with (go_at_call 23; refine (inRange_yes _ _ _ _ _ _ HK.out).mono ?_; rintro e w' ⟨rfl, hw⟩; have hw' := hw.symm; subst hw'; clear hw)
      rcases HC.out with t1 | ⟨t1, t2⟩ | ⟨t1, t2, t3⟩ | ⟨t1, t2, t3, t4⟩
      all_goals
        clear HC
        go_wp2_with (go_at_call 14; refine (isDigit_any _ _).mono ?_; rintro e w' ⟨rfl, hw⟩; have hw' := hw.symm; subst hw'; clear hw)
        go_ret
        exact ⟨rfl, Below.refl _ _⟩

/-- The tail is as the law asks, or its first byte tells why not. -/
theorem tail_or (tail : ByteArray) : TailOk tail.data.toList ∨ ∃ ht : 0 < tail.size, digB ((tail[0]'ht).toNat : Int) = true ∨ (digB ((tail[0]'ht).toNat : Int) = false ∧ (((tail[0]'ht).toNat : Int) == 47) = true) ∨ (digB ((tail[0]'ht).toNat : Int) = false ∧ (((tail[0]'ht).toNat : Int) == 47) = false ∧ (((tail[0]'ht).toNat : Int) == 58) = true) ∨ (digB ((tail[0]'ht).toNat : Int) = false ∧ (((tail[0]'ht).toNat : Int) == 47) = false ∧ (((tail[0]'ht).toNat : Int) == 58) = false ∧ (((tail[0]'ht).toNat : Int) == 46) = true) := by
  by_cases ht : 0 < tail.size
  · cases h1 : digB ((tail[0]'ht).toNat : Int) with
    | true => exact .inr ⟨ht, .inl h1⟩
    | false =>
      cases h2 : (((tail[0]'ht).toNat : Int) == 47) with
      | true => exact .inr ⟨ht, .inr (.inl ⟨h1, h2⟩)⟩
      | false =>
        cases h3 : (((tail[0]'ht).toNat : Int) == 58) with
        | true => exact .inr ⟨ht, .inr (.inr (.inl ⟨h1, h2, h3⟩))⟩
        | false =>
          cases h4 : (((tail[0]'ht).toNat : Int) == 46) with
          | true => exact .inr ⟨ht, .inr (.inr (.inr ⟨h1, h2, h3, h4⟩))⟩
          | false =>
            have hc := drop_cons tail 0 ht
            rw [List.drop_zero] at hc
            refine .inl ⟨?_, ?_, ?_, ?_⟩
            · rw [hc]; exact NoDig.cons (by rw [isD_digB]; exact h1)
            · rw [hc]; exact NotAt.cons (fun e => by rw [e] at h2; cases h2)
            · rw [hc]; exact NotAt.cons (fun e => by rw [e] at h3; cases h3)
            · rw [hc]; exact NotAt.cons (fun e => by rw [e] at h4; cases h4)
  · have hn : tail.data.toList = [] := List.eq_nil_of_length_eq_zero (by rw [← Lib.size_eq]; omega)
    refine .inl ⟨?_, ?_, ?_, ?_⟩ <;> (rw [hn]; intro d r e; cases e)

theorem law9 (p tail : ByteArray) (kd d wk mo : Int) (ha : Bool) (sg h m sec fm : Int) (w : World) (h1 : p.size ≤ maxLen) (h2 : tail.size ≤ maxLen) :
    Calls Try.prog 9 #[.string p, .int .i64 kd, .int .i64 d, .int .i64 wk, .int .i64 mo, .bool ha, .int .i64 sg, .int .i64 h, .int .i64 m, .int .i64 sec, .int .i64 fm, .string tail] w fun e w' => e = .returned (.bool true) ∧ Below w.heap.size w w' := by
  by_cases hsz : p.size + tail.size ≤ 1048576
  · by_cases a1 : kd < 0
    · exact out9_kind p tail kd d wk mo ha sg h m sec fm w hsz (.inl a1)
    by_cases a2 : 2 < kd
    · exact out9_kind p tail kd d wk mo ha sg h m sec fm w hsz (.inr ⟨by omega, a2⟩)
    rcases (show kd = 0 ∨ kd = 1 ∨ kd = 2 by omega) with rfl | rfl | rfl
    · by_cases b1 : d < 1
      · exact out9_d0 p tail d wk mo ha sg h m sec fm w hsz (.inl b1)
      by_cases b2 : 365 < d
      · exact out9_d0 p tail d wk mo ha sg h m sec fm w hsz (.inr ⟨by omega, b2⟩)
      rcases tail_or tail with hT | ⟨ht, hc⟩
      · cases ha
        · exact r9_00 p tail d wk mo sg h m sec fm w hsz (by omega) (by omega) hT
        · by_cases hk : OffOk sg h m sec fm
          · exact r9_01 p tail d wk mo sg h m sec fm w hsz (by omega) (by omega) hT hk
          · exact out9_e0 p tail d wk mo true sg h m sec fm w hsz (by omega) (by omega) (.inl ⟨rfl, hk⟩)
      · by_cases hk : ha = true → OffOk sg h m sec fm
        · exact out9_e0 p tail d wk mo ha sg h m sec fm w hsz (by omega) (by omega) (.inr ⟨hk, ht, hc⟩)
        · cases ha
          · exact absurd (fun h => by cases h) hk
          · exact out9_e0 p tail d wk mo true sg h m sec fm w hsz (by omega) (by omega) (.inl ⟨rfl, fun h => hk (fun _ => h)⟩)
    · by_cases b1 : mo < 1
      · exact out9_d1 p tail d wk mo ha sg h m sec fm w hsz (.inl b1)
      by_cases b2 : 12 < mo
      · exact out9_d1 p tail d wk mo ha sg h m sec fm w hsz (.inr (.inl ⟨by omega, b2⟩))
      by_cases b3 : wk < 1
      · exact out9_d1 p tail d wk mo ha sg h m sec fm w hsz (.inr (.inr (.inl ⟨by omega, by omega, b3⟩)))
      by_cases b4 : 5 < wk
      · exact out9_d1 p tail d wk mo ha sg h m sec fm w hsz (.inr (.inr (.inr (.inl ⟨by omega, by omega, by omega, b4⟩))))
      by_cases b5 : d < 0
      · exact out9_d1 p tail d wk mo ha sg h m sec fm w hsz (.inr (.inr (.inr (.inr (.inl ⟨by omega, by omega, by omega, by omega, b5⟩)))))
      by_cases b6 : 6 < d
      · exact out9_d1 p tail d wk mo ha sg h m sec fm w hsz (.inr (.inr (.inr (.inr (.inr ⟨by omega, by omega, by omega, by omega, by omega, b6⟩)))))
      rcases tail_or tail with hT | ⟨ht, hc⟩
      · cases ha
        · exact r9_10 p tail d wk mo sg h m sec fm w hsz (by omega) (by omega) (by omega) (by omega) (by omega) (by omega) hT
        · by_cases hk : OffOk sg h m sec fm
          · exact r9_11 p tail d wk mo sg h m sec fm w hsz (by omega) (by omega) (by omega) (by omega) (by omega) (by omega) hT hk
          · exact out9_e1 p tail d wk mo true sg h m sec fm w hsz (by omega) (by omega) (by omega) (by omega) (by omega) (by omega) (.inl ⟨rfl, hk⟩)
      · by_cases hk : ha = true → OffOk sg h m sec fm
        · exact out9_e1 p tail d wk mo ha sg h m sec fm w hsz (by omega) (by omega) (by omega) (by omega) (by omega) (by omega) (.inr ⟨hk, ht, hc⟩)
        · cases ha
          · exact absurd (fun h => by cases h) hk
          · exact out9_e1 p tail d wk mo true sg h m sec fm w hsz (by omega) (by omega) (by omega) (by omega) (by omega) (by omega) (.inl ⟨rfl, fun h => hk (fun _ => h)⟩)
    · by_cases b1 : d < 0
      · exact out9_d2 p tail d wk mo ha sg h m sec fm w hsz (.inl b1)
      by_cases b2 : 365 < d
      · exact out9_d2 p tail d wk mo ha sg h m sec fm w hsz (.inr ⟨by omega, b2⟩)
      rcases tail_or tail with hT | ⟨ht, hc⟩
      · cases ha
        · exact r9_20 p tail d wk mo sg h m sec fm w hsz (by omega) (by omega) hT
        · by_cases hk : OffOk sg h m sec fm
          · exact r9_21 p tail d wk mo sg h m sec fm w hsz (by omega) (by omega) hT hk
          · exact out9_e2 p tail d wk mo true sg h m sec fm w hsz (by omega) (by omega) (.inl ⟨rfl, hk⟩)
      · by_cases hk : ha = true → OffOk sg h m sec fm
        · exact out9_e2 p tail d wk mo ha sg h m sec fm w hsz (by omega) (by omega) (.inr ⟨hk, ht, hc⟩)
        · cases ha
          · exact absurd (fun h => by cases h) hk
          · exact out9_e2 p tail d wk mo true sg h m sec fm w hsz (by omega) (by omega) (.inl ⟨rfl, fun h => hk (fun _ => h)⟩)
  · exact out9_big p tail kd d wk mo ha sg h m sec fm w h1 h2 (by omega)
end Go.Proofs.Qxb6600050a
