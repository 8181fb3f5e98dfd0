/-
  literal (38), wild (35), walked.
-/
import Derived.Test.Qxb6000758aSetOps
namespace Go.Proofs.Qxb6000758a
open Go.RowKit

/-- The mode's three fields, as a value. -/
def modeA (f p ip : Bool) : Array Value := #[.bool f, .bool p, .bool ip]

theorem clsA_none : clsA Cls.none = #[.int .u64 0, .int .u64 0, .int .u64 0, .int .u64 0] := by
  unfold clsA
  simp only [Cls.wd_none]; rfl
theorem blk_new (W : World) : Blk (W.alloc (.cells #[.int .u64 0, .int .u64 0, .int .u64 0, .int .u64 0] 42)) W.heap.size Cls.none := by
  unfold Blk
  rw [clsA_none]
  exact heap_alloc_new W _
theorem blk_box (W : World) (S : Nat → Bool) : Blk (W.alloc (.cells (clsA S) 42)) W.heap.size S := heap_alloc_new W _

theorem Blk.lt {w : World} {g : Nat} {S : Nat → Bool} (h : Blk w g S) : g < w.heap.size := (Array.getElem?_eq_some_iff.1 h).1
theorem Blk.alloc {w : World} {g : Nat} {S : Nat → Bool} (h : Blk w g S) (o : Obj) : Blk (w.alloc o) g S :=
  (Below.heap_alloc w o g h.lt).trans h
theorem Blk.below {w w' : World} {g B : Nat} {S : Nat → Bool} (h : Blk w g S) (hb : Below B w w') (hg : g < B) : Blk w' g S := (hb.block g hg).trans h
theorem Blk.other {w w' : World} {g j : Nat} {S : Nat → Bool} (h : Blk w g S) (hg : w.grownBy w' (some j)) (hne : g ≠ j) : Blk w' g S :=
  (hg.block g h.lt (by intro e; simp at e; exact hne e)).trans h

/-- All cells and marks of the blocks other than g are as they were. -/
theorem others {W w1 : World} {g : Nat} (h : W.grownBy w1 (some g)) : ∀ k, k < W.heap.size → k ≠ g → (∀ o, w1.cell? ⟨k, o, none⟩ = W.cell? ⟨k, o, none⟩) ∧ (∀ o, w1.frozen? ⟨k, o, none⟩ = W.frozen? ⟨k, o, none⟩) := by
  intro k hk hne
  have hb := h.block k hk (by intro e; simp at e; exact hne e)
  exact ⟨fun o => World.cell?_of_block hb, fun o => World.frozen?_of_block hb⟩

/-- letters' other case -/
def flip (b : Nat) : Nat := b ^^^ 32
theorem flip_lt (b : Nat) (hb : b < 256) : flip b < 256 := Nat.xor_lt_two_pow (n := 8) hb (by omega)
theorem flip_eq (b : Nat) (hb : b < 256) : bits BinOp.xor IntKind.u8 (b : Int) 32 = ((flip b : Nat) : Int) := by
  have h1 : (32 : Int) = ((32 : Nat) : Int) := rfl
  rw [h1, u8_xor_nat b 32 hb (by omega)]; rfl

def litS (f : Bool) (b : Nat) : Nat → Bool := if f && letB (b : Int) then Cls.add (Cls.add Cls.none b) (flip b) else Cls.add Cls.none b

set_option maxRecDepth 100000 in
set_option maxHeartbeats 1000000 in
theorem literal_any (w : World) (f p ip : Bool) (b : Nat) (hb : b < 256) :
    Calls Try.prog 38 #[.agg (modeA f p ip), .int .u8 (b : Int)] w fun e w' => e = .returned (.agg (clsA (litS f b))) ∧ Below w.heap.size w w' := by
  unfold modeA
  go_enter Try.func38, Try.ntmps38
  go_wp2_with fail
  refine (add_any _ (w.heap.size + 1 + 1) b Cls.none hb (by have := blk_new ((w.alloc (.cells #[.bool f, .bool p, .bool ip] 45)).alloc (.cells #[.int .u64 0, .int .u64 0, .int .u64 0, .int .u64 0] 42)); simpa using this)).mono ?_
  rintro e w1 ⟨rfl, hB, hG, hS⟩
  have hO0 := others hG w.heap.size (by simp; omega) (by omega)
  have hO1 := others hG (w.heap.size + 1) (by simp) (by omega)
  obtain ⟨hc0, hf0⟩ := hO0
  obtain ⟨hc1, hf1⟩ := hO1
  have hb1 : Below w.heap.size w w1 := ((((Below.refl _ _).alloc (Nat.le_refl _) _).alloc (by simp) _).alloc (by simp; omega) _).grown hG (by simp; omega) (fun k hk => by simp at hk; omega)
  have hs1 : w1.heap.size = w.heap.size + 3 := by rw [hS]; simp
  have HS : Hid (w1.heap.size = w.heap.size + 3) := hs1
  clear hG hS hs1
  cases f
  · have k0 := hB.cell 0 (by omega)
    have k1 := hB.cell 1 (by omega)
    have k2 := hB.cell 2 (by omega)
    have k3 := hB.cell 3 (by omega)
    clear hB
    go_wp2_with fail
    refine bodyPost_ret (v := .agg (clsA (Cls.add Cls.none b))) (by simp [results, Try.results38, go_sem, hc1, clsA]) rfl ⟨by simp [litS], ?_⟩
    exact (((hb1.setCell (by simp) _).setCell (by simp) _).setCell (by simp) _).setCell (by simp) _
  cases hl : letB (b : Int)
  · have k0 := hB.cell 0 (by omega)
    have k1 := hB.cell 1 (by omega)
    have k2 := hB.cell 2 (by omega)
    have k3 := hB.cell 3 (by omega)
    clear hB
    go_wp2_with (go_at_call 39; refine (isLetter_any _ _).mono ?_; rintro e w' ⟨rfl, hw⟩; have hw' := hw.symm; subst hw')
    refine bodyPost_ret (v := .agg (clsA (Cls.add Cls.none b))) (by simp [results, Try.results38, go_sem, hc1, clsA]) rfl ⟨by simp [litS, hl], ?_⟩
    exact (((hb1.setCell (by simp) _).setCell (by simp) _).setCell (by simp) _).setCell (by simp) _
  · have HB : Hid (Blk w1 (w.heap.size + 1 + 1) (Cls.add Cls.none b)) := hB
    clear hB
    have hfl := flip_lt b hb
    have HF : Hid (bits BinOp.xor IntKind.u8 (b : Int) 32 = ((flip b : Nat) : Int)) := flip_eq b hb
    go_wp2_with (go_at_call 39; refine (isLetter_any _ _).mono ?_; rintro e w' ⟨rfl, hw⟩; have hw' := hw.symm; subst hw')
    rw [HF.out]
    refine (add_any _ (w.heap.size + 1 + 1) (flip b) (Cls.add Cls.none b) hfl HB.out).mono ?_
    rintro e w2 ⟨rfl, hB2, hG2, hS2⟩
    obtain ⟨hc2, hf2⟩ := others hG2 (w.heap.size + 1) (by rw [HS.out]; omega) (by omega)
    have hc3 := fun o => (hc2 o).trans (hc1 o)
    have hf3 := fun o => (hf2 o).trans (hf1 o)
    have hb2 : Below w.heap.size w w2 := hb1.grown hG2 (by rw [HS.out]; omega) (fun k hk => by simp at hk; omega)
    have k0 := hB2.cell 0 (by omega)
    have k1 := hB2.cell 1 (by omega)
    have k2 := hB2.cell 2 (by omega)
    have k3 := hB2.cell 3 (by omega)
    clear hB2 hG2 hS2 hc2 hf2 hc1 hf1 hc0 hf0
    go_wp2_with fail
    refine bodyPost_ret (v := .agg (clsA (Cls.add (Cls.add Cls.none b) (flip b)))) (by simp [results, Try.results38, go_sem, hc3, clsA]) rfl ⟨by simp [litS, hl], ?_⟩
    exact (((hb2.setCell (by simp) _).setCell (by simp) _).setCell (by simp) _).setCell (by simp) _

def wildS (p : Bool) (S : Nat → Bool) : Nat → Bool := if p then Cls.del S 47 else S

set_option maxRecDepth 100000 in
set_option maxHeartbeats 1000000 in
theorem wild_any (w : World) (f p ip : Bool) (S : Nat → Bool) :
    Calls Try.prog 35 #[.agg (modeA f p ip), .agg (clsA S)] w fun e w' => e = .returned (.agg (clsA (wildS p S))) ∧ Below w.heap.size w w' := by
  unfold modeA
  cases p
  · unfold clsA
    go_enter Try.func35, Try.ntmps35
    go_wp2_with fail
    exact bodyPost_ret (v := .agg (clsA S)) (by simp [results, Try.results35, go_sem, clsA]) rfl ⟨rfl, (((Below.refl _ _).alloc (Nat.le_refl _) _).alloc (by simp) _).alloc (by simp; omega) _⟩
  · have hcl : Hid (clsA S = #[.int .u64 ((Cls.wd S 0 : Nat) : Int), .int .u64 ((Cls.wd S 1 : Nat) : Int), .int .u64 ((Cls.wd S 2 : Nat) : Int), .int .u64 ((Cls.wd S 3 : Nat) : Int)]) := rfl
    rw [hcl.out]
    go_enter Try.func35, Try.ntmps35
    go_wp2_with fail
    refine (remove_any _ (w.heap.size + 1) 47 S (by omega) ?_).mono ?_
    · have := (blk_box (w.alloc (.cells #[.bool f, .bool true, .bool ip] 45)) S).alloc (.cells #[.int .u64 0, .int .u64 0, .int .u64 0, .int .u64 0] 42)
      simpa [clsA] using this
    · rintro e w1 ⟨rfl, hB, hG, hS⟩
      obtain ⟨hc2, hf2⟩ := others hG (w.heap.size + 1 + 1) (by simp) (by omega)
      have hb1 : Below w.heap.size w w1 := ((((Below.refl _ _).alloc (Nat.le_refl _) _).alloc (by simp) _).alloc (by simp; omega) _).grown hG (by simp; omega) (fun k hk => by simp at hk; omega)
      have k0 := hB.cell 0 (by omega)
      have k1 := hB.cell 1 (by omega)
      have k2 := hB.cell 2 (by omega)
      have k3 := hB.cell 3 (by omega)
      clear hB hG hS
      go_wp2_with fail
      refine bodyPost_ret (v := .agg (clsA (Cls.del S 47))) (by simp [results, Try.results35, go_sem, hc2, clsA]) rfl ⟨by simp [wildS], ?_⟩
      exact (((hb1.setCell (by simp; omega) _).setCell (by simp; omega) _).setCell (by simp; omega) _).setCell (by simp; omega) _
end Go.Proofs.Qxb6000758a
