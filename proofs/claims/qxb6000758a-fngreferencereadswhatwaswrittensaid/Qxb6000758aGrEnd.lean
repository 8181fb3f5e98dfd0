/-
  FnGReferenceReadsWhatWasWritten (5): the early ways out, and all together.
-/
import Derived.Test.Qxb6000758aGrLaw
namespace Go.Proofs.Qxb6000758a
open Go.RowKit

theorem gr_walk (br ng : Bool) (body tail : ByteArray) (w : World) (hbm : body.size ≤ maxLen) (htm : tail.size ≤ maxLen) :
    Calls Try.prog 5 #[.bool br, .bool ng, .string body, .string tail] w fun e w' => e = .returned (.bool true) ∧ Below w.heap.size w w' := by
  have hbm' := hbm
  have htm' := htm
  unfold maxLen at hbm' htm'
  by_cases hb1 : 65536 < body.size
  · go_enter Try.func5, Try.ntmps5
    go_wp2_with fail
    refine (zz15_any br ng body tail _ hbm htm).mono ?_
    rintro e w' ⟨⟨r, rfl⟩, rfl⟩
    cases r
    · go_wp2_with fail
      go_ret
      exact ⟨rfl, Below.refl _ _⟩
    · go_wp2_with fail
      go_ret
      exact ⟨rfl, Below.refl _ _⟩
  by_cases ht1 : 65536 < tail.size
  · go_enter Try.func5, Try.ntmps5
    go_wp2_with fail
    refine (zz15_any br ng body tail _ hbm htm).mono ?_
    rintro e w' ⟨⟨r, rfl⟩, rfl⟩
    cases r
    · go_wp2_with fail
      go_ret
      exact ⟨rfl, Below.refl _ _⟩
    · go_wp2_with fail
      go_ret
      exact ⟨rfl, Below.refl _ _⟩
  have hb2 : body.size ≤ 65536 := by omega
  have ht2 : tail.size ≤ 65536 := by omega
  by_cases hz : 0 < body.size
  · cases br <;> cases ng
    · exact gr_walk_00 body tail w hb2 ht2 hz
    · exact gr_walk_01 body tail w hb2 ht2 hz
    · exact gr_walk_10 body tail w hb2 ht2 hz
    · exact gr_walk_11 body tail w hb2 ht2 hz
  · have hz0 : ((body.size : Int) == 0) = true := beq_iff_eq.2 (by omega)
    go_enter Try.func5, Try.ntmps5
    go_wp2_with fail
    refine (zz15_yes br ng body tail _ hb2 ht2).mono ?_
    rintro e w' ⟨rfl, rfl⟩
    go_wp2_with fail
    go_ret
    exact ⟨rfl, Below.refl _ _⟩
end Go.Proofs.Qxb6000758a
