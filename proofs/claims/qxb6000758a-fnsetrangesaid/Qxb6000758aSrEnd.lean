/-
  FnSetRange (9): the early ways out, and all together.
-/
import Derived.Test.Qxb6000758aSrLaw
namespace Go.Proofs.Qxb6000758a
open Go.RowKit

theorem sr_walk (f p neg : Bool) (bl bh : UInt8) (tail : ByteArray) (w : World) (htm : tail.size ≤ maxLen) :
    Calls Try.prog 9 #[.bool f, .bool p, .bool neg, .int .u8 (bl.toNat : Int), .int .u8 (bh.toNat : Int), .string tail] w fun e w' => e = .returned (.bool true) ∧ Below w.heap.size w w' := by
  have htm' := htm
  unfold maxLen at htm'
  by_cases ht1 : 65536 < tail.size
  · go_enter Try.func9, Try.ntmps9
    go_wp2_with fail
    refine (zz27_any f p neg _ _ tail _ htm).mono ?_
    rintro e w' ⟨⟨r, rfl⟩, rfl⟩
    cases r
    · go_wp2_with fail
      go_ret
      exact ⟨rfl, Below.refl _ _⟩
    · go_wp2_with fail
      go_ret
      exact ⟨rfl, Below.refl _ _⟩
  have ht2 : tail.size ≤ 65536 := by omega
  cases p
  · cases neg
    · exact sr_walk_in_00 f bl bh tail w ht2
    · exact sr_walk_in_10 f bl bh tail w ht2
  · by_cases hl : bl.toNat = 47
    · cases neg
      · exact sr_walk_lo_0 f bl bh tail w ht2 hl
      · exact sr_walk_lo_1 f bl bh tail w ht2 hl
    · by_cases hh : bh.toNat = 47
      · cases neg
        · exact sr_walk_hi_0 f bl bh tail w ht2 hl hh
        · exact sr_walk_hi_1 f bl bh tail w ht2 hl hh
      · cases neg
        · exact sr_walk_in_01 f bl bh tail w ht2 hl hh
        · exact sr_walk_in_11 f bl bh tail w ht2 hl hh

theorem sr_byte {x : Int} (h : (Lit.int .u8 x).wf = true) : ∃ b : UInt8, x = (b.toNat : Int) := by
  have h2 : 0 ≤ x ∧ x ≤ 255 := by
    simp [Lit.wf, IntKind.min, IntKind.max, IntKind.signed, IntKind.bits] at h; omega
  exact ⟨UInt8.ofNat x.toNat, by simp; omega⟩
theorem sr_walk_row (f p neg : Bool) (x y : Int) (tail : ByteArray) (w : World) (hx : (Lit.int .u8 x).wf = true) (hy : (Lit.int .u8 y).wf = true) (htm : tail.size ≤ maxLen) :
    Calls Try.prog 9 #[.bool f, .bool p, .bool neg, .int .u8 x, .int .u8 y, .string tail] w fun e w' => e = .returned (.bool true) ∧ Below w.heap.size w w' := by
  obtain ⟨bl, rfl⟩ := sr_byte hx
  obtain ⟨bh, rfl⟩ := sr_byte hy
  exact sr_walk f p neg bl bh tail w htm
end Go.Proofs.Qxb6000758a
