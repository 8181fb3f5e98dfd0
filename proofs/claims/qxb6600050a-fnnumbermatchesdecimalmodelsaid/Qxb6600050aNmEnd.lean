/-
  FnNumberMatchesDecimalModel (3): all together.
-/
import Derived.Test.Qxb6600050aNmLaw
namespace Go.Proofs.Qxb6600050a
open Go.RowKit

theorem nm_in (s : ByteArray) (i : Nat) (least most : Int) (w : World) (hs : s.size ≤ 1048576) (hi : i ≤ s.size) (hm : most ≤ 100000000) :
    Calls Try.prog 3 #[.string s, .int .i64 (i : Int), .int .i64 least, .int .i64 most] w fun e w' => e = .returned (.bool true) ∧ Below w.heap.size w w' := by
  obtain ⟨j, hij, hj, hd, he⟩ := run_end s i hi
  have hd1 : ∀ k (h : k < j), i ≤ k → digB ((s[k]'(by omega)).toNat : Int) = true := fun k h hk => hd k (by omega) h hk
  by_cases hji : j = i
  · subst hji
    refine nm_nodigits s j j least most w hs hij hj hm hd he rfl ?_
    refine zz13_of s j j least most 0 false w ?_
    intro W hR
    have := number_ok W w.heap.size s j j least most hR (by omega) (Nat.le_refl _) hi hm (fun k h hk => by omega) he (fun k h1 h2 => by omega)
    rw [vl_nil] at this
    simpa using this
  have hlt : i < j := by omega
  by_cases hm0 : 0 ≤ most
  · by_cases hov : most < (vl s i j : Int)
    · obtain ⟨k, h1, h2, h3, h4⟩ := first_over s i j most hm0 hij hj hov
      refine nm_over s i j least most w hs hij hj hm hd he hlt hm0 k h1 h2 hov ?_
      refine zz13_of s i k least most 0 false w ?_
      intro W hR
      exact number_fail W w.heap.size s i k least most hR (by omega) h1 (by omega) hm (fun q h hq => hd1 q (by omega) hq) h3 h4
    · have hok := fun (W : World) (hR : Rd W w.heap.size s i) => number_ok W w.heap.size s i j least most hR (by omega) hij hj hm hd1 he (fun k h1 h2 => by have := vl_mono s i k j (by omega) h2 hj; omega)
      by_cases hle : least ≤ (vl s i j : Int)
      · refine nm_fit1 s i j least most w hs hij hj hm hd he hlt hm0 (by omega) hle ?_
        refine zz13_of s i j least most _ true w ?_
        intro W hR
        have := hok W hR
        rw [decide_eq_true hlt, decide_eq_true hle] at this
        exact this
      · refine nm_fit0 s i j least most w hs hij hj hm hd he hlt hm0 (by omega) (by omega) ?_
        refine zz13_of s i j least most _ false w ?_
        intro W hR
        have := hok W hR
        rw [decide_eq_false hle, Bool.and_false] at this
        exact this
  · refine nm_neg s i j least most w hs hij hj hm hd he hlt (by omega) ?_
    refine zz13_of s i i least most 0 false w ?_
    intro W hR
    exact number_fail W w.heap.size s i i least most hR (by omega) (Nat.le_refl _) (by omega) hm (fun q h hq => hd1 q (by omega) hq) (fun k h1 h2 => by omega) (by show most < _; omega)

set_option maxRecDepth 100000 in
set_option maxHeartbeats 1000000 in
theorem nm_walk (s : ByteArray) (i least most : Int) (w : World) (hsm : s.size ≤ maxLen) :
    Calls Try.prog 3 #[.string s, .int .i64 i, .int .i64 least, .int .i64 most] w fun e w' => e = .returned (.bool true) ∧ Below w.heap.size w w' := by
  have hsm' := hsm
  unfold maxLen at hsm'
  by_cases h1 : 1048576 < s.size
  · go_enter Try.func3, Try.ntmps3
    go_wp2_with (go_at_call 12; refine (zz12_no s _ _ _ _ h1).mono ?_; rintro e w' ⟨rfl, hw⟩; have hw' := hw.symm; subst hw')
    go_ret
    exact ⟨rfl, Below.refl _ _⟩
  have hs : s.size ≤ 1048576 := by omega
  clear h1
  by_cases h2 : i < 0
  · go_enter Try.func3, Try.ntmps3
    go_wp2_with (go_at_call 12; refine (zz12_yes s _ _ _ _ hs).mono ?_; rintro e w' ⟨rfl, hw⟩; have hw' := hw.symm; subst hw')
    go_ret
    exact ⟨rfl, Below.refl _ _⟩
  by_cases h3 : (s.size : Int) < i
  · go_enter Try.func3, Try.ntmps3
    go_wp2_with (go_at_call 12; refine (zz12_yes s _ _ _ _ hs).mono ?_; rintro e w' ⟨rfl, hw⟩; have hw' := hw.symm; subst hw')
    go_ret
    exact ⟨rfl, Below.refl _ _⟩
  by_cases h4 : 100000000 < most
  · go_enter Try.func3, Try.ntmps3
    go_wp2_with (go_at_call 12; refine (zz12_yes s _ _ _ _ hs).mono ?_; rintro e w' ⟨rfl, hw⟩; have hw' := hw.symm; subst hw')
    go_ret
    exact ⟨rfl, Below.refl _ _⟩
  obtain ⟨n, rfl⟩ : ∃ n : Nat, i = (n : Int) := ⟨i.toNat, by omega⟩
  exact nm_in s n least most w hs (by omega) (by omega)
end Go.Proofs.Qxb6600050a
