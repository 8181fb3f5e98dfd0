/-
  addRange (36), walked.
-/
import Derived.Test.Qxb6000758aSetMid
import Derived.Deep.RegionWith
namespace Go.Proofs.Qxb6000758a
open Go.RowKit

def lowN (c : Nat) : Nat := if 65 ≤ c ∧ c ≤ 90 then c + 32 else c
theorem low_eq (c : Nat) : lowI (c : Int) = ((lowN c : Nat) : Int) := by
  unfold lowI lowN; split <;> split <;> omega
theorem lowN_lt (c : Nat) (h : c < 256) : lowN c < 256 := by unfold lowN; split <;> omega
theorem lowerN_any (c : Nat) (w : World) (h1 : c < 256) :
    Calls Try.prog 42 #[.int .u8 (c : Int)] w fun e w' => e = .returned (.int .u8 ((lowN c : Nat) : Int)) ∧ w' = w := by
  have := lower_any (c : Int) w (by omega) (by omega)
  rw [low_eq] at this
  exact this

/-- The bytes from lo up to k, added. -/
def rng (S : Nat → Bool) (lo k : Nat) : Nat → Bool := fun x => S x || (decide (lo ≤ x) && decide (x < k))
/-- The bytes whose lower case lies from l up to k, added. -/
def fld (S : Nat → Bool) (l k : Nat) : Nat → Bool := fun x => S x || (decide (l ≤ lowN x) && decide (lowN x < k))

theorem clsA_congr {S T : Nat → Bool} (h : ∀ i, i < 256 → S i = T i) : clsA S = clsA T := by
  unfold clsA
  rw [Cls.wd_congr S T 0 (fun i hi => h _ (by omega)), Cls.wd_congr S T 1 (fun i hi => h _ (by omega)), Cls.wd_congr S T 2 (fun i hi => h _ (by omega)), Cls.wd_congr S T 3 (fun i hi => h _ (by omega))]
theorem Blk.congr {w : World} {g : Nat} {S T : Nat → Bool} (h : Blk w g S) (e : ∀ i, i < 256 → S i = T i) : Blk w g T := by
  unfold Blk at *; rw [h, clsA_congr e]

theorem rng_start (S : Nat → Bool) (lo : Nat) : ∀ i, i < 256 → S i = rng S lo lo i := by
  intro i _
  unfold rng
  have : (decide (lo ≤ i) && decide (i < lo)) = false := by simp
  rw [this]; simp
theorem rng_step (S : Nat → Bool) (lo k : Nat) (h : lo ≤ k) : ∀ i, i < 256 → Cls.add (rng S lo k) k i = rng S lo (k + 1) i := by
  intro i _
  unfold rng Cls.add
  rw [Bool.or_assoc]
  congr 1
  rw [Bool.eq_iff_iff]; simp; omega
theorem fld_start (S : Nat → Bool) (l : Nat) : ∀ i, i < 256 → S i = fld S l l i := by
  intro i _
  unfold fld
  have : (decide (l ≤ lowN i) && decide (lowN i < l)) = false := by simp
  rw [this]; simp

theorem flip_low : ∀ k, k < 256 → 97 ≤ k → k ≤ 122 → flip k = k - 32 := by
  intro k _ h1 h2
  have : ∀ j : Fin 26, (97 + j.val) ^^^ 32 = 97 + j.val - 32 := by decide
  have := this ⟨k - 97, by omega⟩
  simp only at this
  rw [show 97 + (k - 97) = k by omega] at this
  exact this
theorem flip_up : ∀ k, k < 256 → 65 ≤ k → k ≤ 90 → flip k = k + 32 := by
  intro k _ h1 h2
  have : ∀ j : Fin 26, (65 + j.val) ^^^ 32 = 65 + j.val + 32 := by decide
  have := this ⟨k - 65, by omega⟩
  simp only at this
  rw [show 65 + (k - 65) = k by omega] at this
  exact this

theorem lit_true (k i : Nat) (hk : k < 256) (hl : lowN k = k) : litS true k i = decide (lowN i = k) := by
  unfold litS
  cases hb : letB (k : Int)
  · simp only [Bool.and_false, Bool.false_eq_true, if_false, Cls.add, Cls.none, Bool.false_or]
    unfold letB at hb
    simp at hb
    rw [Bool.eq_iff_iff]; simp
    unfold lowN at *
    split at hl <;> split <;> omega
  · unfold letB at hb
    simp at hb
    have h97 : 97 ≤ k ∧ k ≤ 122 := by
      unfold lowN at hl; split at hl <;> omega
    simp only [Bool.and_true, if_true, Cls.add, Cls.none, Bool.false_or]
    rw [flip_low k hk h97.1 h97.2, Bool.eq_iff_iff]; simp
    unfold lowN
    split <;> omega
theorem fld_step (S : Nat → Bool) (l k : Nat) (h : l ≤ k) (hk : k < 256) (hl : lowN k = k) : ∀ i, i < 256 → Cls.union (fld S l k) (litS true k) i = fld S l (k + 1) i := by
  intro i _
  unfold Cls.union
  rw [lit_true k i hk hl]
  unfold fld
  rw [Bool.or_assoc]
  congr 1
  rw [Bool.eq_iff_iff]; simp; omega
theorem fld_skip (S : Nat → Bool) (l k : Nat) (hl : ¬ lowN k = k) : ∀ i, i < 256 → fld S l k i = fld S l (k + 1) i := by
  intro i _
  unfold fld
  congr 1
  have : ¬ lowN i = k := by
    unfold lowN at *
    intro e
    split at e <;> split at hl <;> omega
  rw [Bool.eq_iff_iff]; simp; omega

/-- What addRange gives. -/
def arS (f : Bool) (S : Nat → Bool) (lo hi : Nat) : Nat → Bool := fun x => (S x || (decide (lo ≤ x) && decide (x ≤ hi))) || (f && (decide (lowN lo ≤ lowN x) && decide (lowN x ≤ lowN hi)))
theorem rng_end (S : Nat → Bool) (lo hi k : Nat) (h2 : k ≤ hi + 1 ∨ k = lo) (h3 : hi < k) : ∀ i, i < 256 → rng S lo k i = arS false S lo hi i := by
  intro i _
  unfold rng arS
  simp only [Bool.false_and, Bool.or_false]
  congr 1
  rw [Bool.eq_iff_iff]; simp; omega
theorem fld_end (S : Nat → Bool) (lo hi k : Nat) (h2 : k ≤ lowN hi + 1 ∨ k = lowN lo) (h3 : lowN hi < k) : ∀ i, i < 256 → fld (arS false S lo hi) (lowN lo) k i = arS true S lo hi i := by
  intro i _
  unfold fld arS
  simp only [Bool.false_and, Bool.or_false, Bool.true_and]
  congr 1
  rw [Bool.eq_iff_iff]; simp; omega

/-- What the rounds of addRange know of memory: the box of the mode, of the set, of the result. -/
structure AR (f p ip : Bool) (w wr : World) (T : Nat → Bool) : Prop where
  mode : wr.heap[w.heap.size]? = some (.cells (modeA f p ip) 45 (0, 0))
  cls : Blk wr (w.heap.size + 1) T
  res : Blk wr (w.heap.size + 1 + 1) Cls.none
  below : Below w.heap.size w wr
  size : w.heap.size + 1 + 1 < wr.heap.size

variable {f p ip : Bool} {w wr w' : World} {S T : Nat → Bool}
theorem AR.congr (h : AR f p ip w wr S) (e : ∀ i, i < 256 → S i = T i) : AR f p ip w wr T := ⟨h.mode, h.cls.congr e, h.res, h.below, h.size⟩
theorem AR.start (w : World) (f p ip : Bool) (S : Nat → Bool) : AR f p ip w (((w.alloc (.cells (modeA f p ip) 45)).alloc (.cells (clsA S) 42)).alloc (.cells #[.int .u64 0, .int .u64 0, .int .u64 0, .int .u64 0] 42)) S := by
  refine ⟨?_, ?_, ?_, (((Below.refl _ _).alloc (Nat.le_refl _) _).alloc (by simp) _).alloc (by simp; omega) _, by simp⟩
  · rw [Below.heap_alloc _ _ _ (by simp; omega), Below.heap_alloc _ _ _ (by simp)]
    exact heap_alloc_new w _
  · have := (blk_box (w.alloc (.cells (modeA f p ip) 45)) S).alloc (.cells #[.int .u64 0, .int .u64 0, .int .u64 0, .int .u64 0] 42)
    simpa using this
  · have := blk_new ((w.alloc (.cells (modeA f p ip) 45)).alloc (.cells (clsA S) 42))
    simpa using this
theorem AR.add (h : AR f p ip w wr S) (hB : Blk w' (w.heap.size + 1) T) (hG : wr.grownBy w' (some (w.heap.size + 1))) : AR f p ip w w' T := by
  have hs := h.size
  exact ⟨(hG.block _ (by omega) (by simp)).trans h.mode, hB, h.res.other hG (by omega), h.below.grown hG (by omega) (fun k hk => by simp at hk; omega), Nat.lt_of_lt_of_le hs hG.size⟩
theorem AR.kept (h : AR f p ip w wr S) (hb : Below wr.heap.size wr w') : AR f p ip w w' S := by
  have hs := h.size
  exact ⟨(hb.block _ (by omega)).trans h.mode, h.cls.below hb (by omega), h.res.below hb hs, h.below.trans (hb.mono (by omega)), Nat.lt_of_lt_of_le hs hb.size⟩
theorem AR.drew (h : AR f p ip w wr S) : AR f p ip w wr.drew S := ⟨h.mode, h.cls, h.res, h.below.drew, h.size⟩
theorem AR.m0 (h : AR f p ip w wr S) : wr.cell? ⟨w.heap.size, 0, none⟩ = some (.bool f) := by rw [cell_of_row wr w.heap.size 0 _ 45 (0, 0) h.mode]; rfl
theorem AR.m1 (h : AR f p ip w wr S) : wr.cell? ⟨w.heap.size, 1, none⟩ = some (.bool p) := by rw [cell_of_row wr w.heap.size 1 _ 45 (0, 0) h.mode]; rfl
theorem AR.m2 (h : AR f p ip w wr S) : wr.cell? ⟨w.heap.size, 2, none⟩ = some (.bool ip) := by rw [cell_of_row wr w.heap.size 2 _ 45 (0, 0) h.mode]; rfl

/-- Four stores lay the set T into block g. -/
theorem Blk.store4 {w : World} {g : Nat} {S : Nat → Bool} (h : Blk w g S) (T : Nat → Bool) :
    Blk ((((w.setCell ⟨g, 0, none⟩ (.int .u64 ((Cls.wd T 0 : Nat) : Int))).setCell ⟨g, 1, none⟩ (.int .u64 ((Cls.wd T 1 : Nat) : Int))).setCell ⟨g, 2, none⟩ (.int .u64 ((Cls.wd T 2 : Nat) : Int))).setCell ⟨g, 3, none⟩ (.int .u64 ((Cls.wd T 3 : Nat) : Int))) g T := by
  unfold Blk at *
  rw [heap_setCell_same _ g 3 _ 42 _ (heap_setCell_same _ g 2 _ 42 _ (heap_setCell_same _ g 1 _ 42 _ (heap_setCell_same w g 0 _ 42 _ h)))]
  rfl
theorem AR.store4 (h : AR f p ip w wr S) (T : Nat → Bool) :
    AR f p ip w ((((wr.setCell ⟨w.heap.size + 1, 0, none⟩ (.int .u64 ((Cls.wd T 0 : Nat) : Int))).setCell ⟨w.heap.size + 1, 1, none⟩ (.int .u64 ((Cls.wd T 1 : Nat) : Int))).setCell ⟨w.heap.size + 1, 2, none⟩ (.int .u64 ((Cls.wd T 2 : Nat) : Int))).setCell ⟨w.heap.size + 1, 3, none⟩ (.int .u64 ((Cls.wd T 3 : Nat) : Int))) T := by
  refine ⟨?_, h.cls.store4 T, ?_, (((h.below.setCell (by simp) _).setCell (by simp) _).setCell (by simp) _).setCell (by simp) _, by simpa using h.size⟩
  · rw [heap_setCell_other _ _ _ _ (by simp), heap_setCell_other _ _ _ _ (by simp), heap_setCell_other _ _ _ _ (by simp), heap_setCell_other _ _ _ _ (by simp)]
    exact h.mode
  · unfold Blk
    rw [heap_setCell_other _ _ _ _ (by simp), heap_setCell_other _ _ _ _ (by simp), heap_setCell_other _ _ _ _ (by simp), heap_setCell_other _ _ _ _ (by simp)]
    exact h.res

/-- The contracts with the values written out. -/
theorem literal_out (w : World) (f p ip : Bool) (b : Nat) (hb : b < 256) :
    Calls Try.prog 38 #[.agg #[.bool f, .bool p, .bool ip], .int .u8 (b : Int)] w fun e w' => e = .returned (.agg #[.int .u64 ((Cls.wd (litS f b) 0 : Nat) : Int), .int .u64 ((Cls.wd (litS f b) 1 : Nat) : Int), .int .u64 ((Cls.wd (litS f b) 2 : Nat) : Int), .int .u64 ((Cls.wd (litS f b) 3 : Nat) : Int)]) ∧ Below w.heap.size w w' :=
  literal_any w f p ip b hb
theorem union_out (w : World) (S T : Nat → Bool) :
    Calls Try.prog 37 #[.agg #[.int .u64 ((Cls.wd S 0 : Nat) : Int), .int .u64 ((Cls.wd S 1 : Nat) : Int), .int .u64 ((Cls.wd S 2 : Nat) : Int), .int .u64 ((Cls.wd S 3 : Nat) : Int)], .agg #[.int .u64 ((Cls.wd T 0 : Nat) : Int), .int .u64 ((Cls.wd T 1 : Nat) : Int), .int .u64 ((Cls.wd T 2 : Nat) : Int), .int .u64 ((Cls.wd T 3 : Nat) : Int)]] w
      fun e w' => e = .returned (.agg #[.int .u64 ((Cls.wd (Cls.union S T) 0 : Nat) : Int), .int .u64 ((Cls.wd (Cls.union S T) 1 : Nat) : Int), .int .u64 ((Cls.wd (Cls.union S T) 2 : Nat) : Int), .int .u64 ((Cls.wd (Cls.union S T) 3 : Nat) : Int)]) ∧ Below w.heap.size w w' :=
  union_any w S T

set_option maxRecDepth 100000 in
set_option maxHeartbeats 2000000 in
theorem addRange_any (w : World) (f p ip : Bool) (S : Nat → Bool) (lo hi : Nat) (hlo : lo < 256) (hhi : hi < 256) :
    Calls Try.prog 36 #[.agg (modeA f p ip), .agg (clsA S), .int .u8 (lo : Int), .int .u8 (hi : Int)] w fun e w' => e = .returned (.agg (clsA (arS f S lo hi))) ∧ Below w.heap.size w w' := by
  have hst := AR.start w f p ip S
  unfold modeA clsA at hst
  unfold modeA
  rw [show clsA S = #[.int .u64 ((Cls.wd S 0 : Nat) : Int), .int .u64 ((Cls.wd S 1 : Nat) : Int), .int .u64 ((Cls.wd S 2 : Nat) : Int), .int .u64 ((Cls.wd S 3 : Nat) : Int)] from rfl]
  go_enter Try.func36, Try.ntmps36
  go_wp2_with fail
  go_loopg [9] (hi + 1 - lo) (fun n cv wr => ∃ k : Nat, n = hi + 1 - k ∧ lo ≤ k ∧ (k ≤ hi + 1 ∨ k = lo) ∧ k < 257 ∧ cv = .int .i64 k ∧ AR f p ip w wr (rng S lo k))
  case atStart => exact ⟨lo, rfl, by omega, by omega, by omega, rfl, hst.congr (rng_start S lo)⟩
  case round =>
    obtain ⟨k, rfl, hk1, hk2, hk3, rfl, har⟩ := hrel
    clear hst
    by_cases hk : k ≤ hi
    · go_wp2_with (go_at_call 41; refine (add_any _ (w.heap.size + 1) k _ (by omega) har.cls).mono ?_; rintro e w1 ⟨rfl, hB, hG, -⟩; have har1 := (har.add hB hG).congr (rng_step S lo k hk1); clear hB hG)
      go_roundg (hi + 1 - (k + 1))
      case rel => exact ⟨k + 1, rfl, by omega, by omega, by omega, by go_num, har1⟩
      case measure => omega
    · have har2 := har.congr (rng_end S lo hi k hk2 (by omega))
      clear har
      have m0 := har2.m0
      cases f
      · have k0 := har2.cls.cell 0 (by omega)
        have k1 := har2.cls.cell 1 (by omega)
        have k2 := har2.cls.cell 2 (by omega)
        have k3 := har2.cls.cell 3 (by omega)
        have r0 := har2.res.cell 0 (by omega)
        have r1 := har2.res.cell 1 (by omega)
        have r2 := har2.res.cell 2 (by omega)
        have r3 := har2.res.cell 3 (by omega)
        have rf := har2.res.free
        have hb2 := har2.below
        clear har2
        go_wp2_with fail
        refine bodyPost_ret (v := .agg (clsA (arS false S lo hi))) (by simp [results, Try.results36, go_sem, clsA, r0, r1, r2, r3]) rfl ⟨rfl, ?_⟩
        exact (((hb2.setCell (by simp; omega) _).setCell (by simp; omega) _).setCell (by simp; omega) _).setCell (by simp; omega) _
      · have hl1 := lowN_lt lo hlo
        have hl2 := lowN_lt hi hhi
        go_wp2_with (go_at_call 42; refine (lowerN_any _ _ hlo).mono ?_; rintro e w' ⟨rfl, hw⟩; have hw' := hw.symm; subst hw')
        clear m0
        go_loopg [10, 11] (lowN hi + 1 - lowN lo) (fun n cv _ wr => ∃ k : Nat, n = lowN hi + 1 - k ∧ lowN lo ≤ k ∧ (k ≤ lowN hi + 1 ∨ k = lowN lo) ∧ k < 257 ∧ cv = .int .i64 k ∧ AR true p ip w wr (fld (arS false S lo hi) (lowN lo) k))
        case atStart => exact ⟨lowN lo, rfl, by omega, by omega, by omega, rfl, har2.congr (fld_start _ _)⟩
        case round =>
          clear har2 hk1 hk2 hk3 hk
          rename Nat => gi
          obtain ⟨c, hgi, hk1, hk2, hk3, rfl, har⟩ := hrel
          subst hgi
          by_cases hk : c ≤ lowN hi
          · by_cases hlc : lowN c = c
            · have HL : Hid (lowN c = c) := hlc
              have hbq : (((lowN c : Nat) : Int) == (c : Int)) = true := by rw [hlc]; simp
              clear hlc
              go_wp2_with (first | (go_at_call_of 42 (Value.int IntKind.u8 (hi : Int)); refine (lowerN_any hi _ hhi).mono ?_; rintro e w' ⟨rfl, hw⟩; have hw' := hw.symm; subst hw') | (go_at_call_of 42 (Value.int IntKind.u8 (c : Int)); refine (lowerN_any c _ (by omega)).mono ?_; rintro e w' ⟨rfl, hw⟩; have hw' := hw.symm; subst hw'))
              have k0 := har.cls.cell 0 (by omega)
              have k1 := har.cls.cell 1 (by omega)
              have k2 := har.cls.cell 2 (by omega)
              have k3 := har.cls.cell 3 (by omega)
              have m0 := har.m0
              have m1 := har.m1
              have m2 := har.m2
              go_region_with (first | (go_at_call 38; refine (literal_out _ true p ip c (by omega)).mono ?_; rintro e w1 ⟨rfl, hb1⟩; have har1 := har.drew.kept hb1; have q0 := har1.cls.cell 0 (by omega); have q1 := har1.cls.cell 1 (by omega); have q2 := har1.cls.cell 2 (by omega); have q3 := har1.cls.cell 3 (by omega)) | (go_at_call 37; refine (union_out _ (fld (arS false S lo hi) (lowN lo) c) (litS true c)).mono ?_; rintro e w2 ⟨rfl, hb2⟩; have har2 := har1.kept hb2; have t0 := har2.cls.cell 0 (by omega); have t1 := har2.cls.cell 1 (by omega); have t2 := har2.cls.cell 2 (by omega); have t3 := har2.cls.cell 3 (by omega); have tf := har2.cls.free))
              all_goals
                have har3 := (har2.store4 (Cls.union (fld (arS false S lo hi) (lowN lo) c) (litS true c))).congr (fld_step _ _ c hk1 (by omega) HL.out)
                clear har har1 har2 hb1 hb2 k0 k1 k2 k3 q0 q1 q2 q3 t0 t1 t2 t3 tf m0 m1 m2
                go_wp2
                go_roundg (lowN hi + 1 - (c + 1))
                case rel => exact ⟨c + 1, rfl, by omega, by omega, by omega, by go_num, har3⟩
                case measure => omega
            · have hbq : (((lowN c : Nat) : Int) == (c : Int)) = false := beq_eq_false_iff_ne.2 (by omega)
              have har3 := har.congr (fld_skip _ _ c hlc)
              clear hlc har
              go_wp2_with (first | (go_at_call_of 42 (Value.int IntKind.u8 (hi : Int)); refine (lowerN_any hi _ hhi).mono ?_; rintro e w' ⟨rfl, hw⟩; have hw' := hw.symm; subst hw') | (go_at_call_of 42 (Value.int IntKind.u8 (c : Int)); refine (lowerN_any c _ (by omega)).mono ?_; rintro e w' ⟨rfl, hw⟩; have hw' := hw.symm; subst hw'))
              go_roundg (lowN hi + 1 - (c + 1))
              case rel => exact ⟨c + 1, rfl, by omega, by omega, by omega, by go_num, har3⟩
              case measure => omega
          · have har2 := har.congr (fld_end S lo hi c hk2 (by omega))
            clear har
            have k0 := har2.cls.cell 0 (by omega)
            have k1 := har2.cls.cell 1 (by omega)
            have k2 := har2.cls.cell 2 (by omega)
            have k3 := har2.cls.cell 3 (by omega)
            have r0 := har2.res.cell 0 (by omega)
            have r1 := har2.res.cell 1 (by omega)
            have r2 := har2.res.cell 2 (by omega)
            have r3 := har2.res.cell 3 (by omega)
            have rf := har2.res.free
            have hb2 := har2.below
            clear har2
            go_wp2_with (go_at_call 42; refine (lowerN_any hi _ hhi).mono ?_; rintro e w' ⟨rfl, hw⟩; have hw' := hw.symm; subst hw')
            refine bodyPost_ret (v := .agg (clsA (arS true S lo hi))) (by simp [results, Try.results36, go_sem, clsA, r0, r1, r2, r3]) rfl ⟨rfl, ?_⟩
            exact (((hb2.setCell (by simp; omega) _).setCell (by simp; omega) _).setCell (by simp; omega) _).setCell (by simp; omega) _
end Go.Proofs.Qxb6000758a
