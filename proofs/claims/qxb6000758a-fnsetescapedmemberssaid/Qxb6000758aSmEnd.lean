/-
  FnSetEscapedMembers (8): the early ways out, and all together.
-/
import Derived.Test.Qxb6000758aSmLaw
namespace Go.Proofs.Qxb6000758a
open Go.RowKit

set_option maxRecDepth 100000 in
theorem sm_out_big (f p neg : Bool) (ms tail : ByteArray) (w : World) (hm : ms.size ≤ maxLen) (ht : tail.size ≤ maxLen) (h : 65536 < ms.size ∨ 65536 < tail.size) :
    Calls Try.prog 8 #[.bool f, .bool p, .bool neg, .string ms, .string tail] w fun e w' => e = .returned (.bool true) ∧ Below w.heap.size w w' := by
  have hm' := hm
  have ht' := ht
  unfold maxLen at hm' ht'
  rcases (show 65536 < ms.size ∨ (ms.size ≤ 65536 ∧ 65536 < tail.size) by omega) with h' | h'
  all_goals
    clear h
    go_enter Try.func8, Try.ntmps8
    go_wp2_with fail
    refine (zz21_any f p neg ms tail _ hm ht).mono ?_
    rintro e w' ⟨⟨r, rfl⟩, rfl⟩
    cases r
    · go_wp2_with fail
      go_ret
      exact ⟨rfl, Below.refl _ _⟩
    · go_wp2_with fail
      go_ret
      exact ⟨rfl, Below.refl _ _⟩

set_option maxRecDepth 100000 in
theorem sm_out_nil (f p neg : Bool) (ms tail : ByteArray) (w : World) (hm : ms.size = 0) (ht : tail.size ≤ 65536) :
    Calls Try.prog 8 #[.bool f, .bool p, .bool neg, .string ms, .string tail] w fun e w' => e = .returned (.bool true) ∧ Below w.heap.size w w' := by
  go_enter Try.func8, Try.ntmps8
  go_wp2_with fail
  refine (zz21_yes f p neg ms tail _ (by omega) ht).mono ?_
  rintro e w' ⟨rfl, rfl⟩
  go_wp2_with fail
  go_ret
  exact ⟨rfl, Below.refl _ _⟩

theorem sm_walk (f p neg : Bool) (ms tail : ByteArray) (w : World) (hm : ms.size ≤ maxLen) (ht : tail.size ≤ maxLen) :
    Calls Try.prog 8 #[.bool f, .bool p, .bool neg, .string ms, .string tail] w fun e w' => e = .returned (.bool true) ∧ Below w.heap.size w w' := by
  by_cases h : 65536 < ms.size ∨ 65536 < tail.size
  · exact sm_out_big f p neg ms tail w hm ht h
  by_cases h0 : ms.size = 0
  · exact sm_out_nil f p neg ms tail w h0 (by omega)
  cases p
  · cases neg
    · exact sm_walk_in_00 f ms tail w (by omega) (by omega) (by omega)
    · exact sm_walk_in_10 f ms tail w (by omega) (by omega) (by omega)
  · obtain ⟨J, h1, h2, h3⟩ := first_47 (memF ms.data.toList) ms.size
    by_cases hJ : J < ms.size
    · cases neg
      · exact sm_walk_no_01 f ms tail w (by omega) (by omega) (by omega) J hJ h2 (h3 hJ)
      · exact sm_walk_no_11 f ms tail w (by omega) (by omega) (by omega) J hJ h2 (h3 hJ)
    · have e : J = ms.size := by omega
      subst e
      cases neg
      · exact sm_walk_yes_01 f ms tail w (by omega) (by omega) (by omega) h2
      · exact sm_walk_yes_11 f ms tail w (by omega) (by omega) (by omega) h2
end Go.Proofs.Qxb6000758a
