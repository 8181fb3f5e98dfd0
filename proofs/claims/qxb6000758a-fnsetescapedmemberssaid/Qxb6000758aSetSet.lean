/-
  WildcardMode.set (31) at a text '[\\lo-\\hi]..' ('[^\\lo-\\hi]..'), walked.
-/
import Derived.Test.Qxb6000758aSetRng
import Derived.Deep.DeepCutAuto
import Derived.Deep.RegionHeld3
namespace Go.Proofs.Qxb6000758a
open Go.RowKit

/-- What set's rounds know of memory: the box of the mode, of the set. -/
structure ST (f p ip : Bool) (w wr : World) (T : Nat → Bool) : Prop where
  mode : wr.heap[w.heap.size]? = some (.cells (modeA f p ip) 45 (0, 0))
  cls : Blk wr (w.heap.size + 1) T
  below : Below w.heap.size w wr
  size : w.heap.size + 1 < wr.heap.size

variable {f p ip : Bool} {w wr w' : World} {S T : Nat → Bool}
theorem ST.congr (h : ST f p ip w wr S) (e : ∀ i, i < 256 → S i = T i) : ST f p ip w wr T := ⟨h.mode, h.cls.congr e, h.below, h.size⟩
theorem ST.start (w : World) (f p ip : Bool) : ST f p ip w ((w.alloc (.cells (modeA f p ip) 45)).alloc (.cells #[.int .u64 0, .int .u64 0, .int .u64 0, .int .u64 0] 42)) Cls.none := by
  refine ⟨?_, ?_, ((Below.refl _ _).alloc (Nat.le_refl _) _).alloc (by simp) _, by simp⟩
  · rw [Below.heap_alloc _ _ _ (by simp)]
    exact heap_alloc_new w _
  · have := blk_new (w.alloc (.cells (modeA f p ip) 45))
    simpa using this
theorem ST.kept (h : ST f p ip w wr S) (hb : Below wr.heap.size wr w') : ST f p ip w w' S := by
  have hs := h.size
  exact ⟨(hb.block _ (by omega)).trans h.mode, h.cls.below hb (by omega), h.below.trans (hb.mono (by omega)), Nat.lt_of_lt_of_le hs hb.size⟩
theorem ST.drew (h : ST f p ip w wr S) : ST f p ip w wr.drew S := ⟨h.mode, h.cls, h.below.drew, h.size⟩
theorem ST.m0 (h : ST f p ip w wr S) : wr.cell? ⟨w.heap.size, 0, none⟩ = some (.bool f) := by rw [cell_of_row wr w.heap.size 0 _ 45 (0, 0) h.mode]; rfl
theorem ST.m1 (h : ST f p ip w wr S) : wr.cell? ⟨w.heap.size, 1, none⟩ = some (.bool p) := by rw [cell_of_row wr w.heap.size 1 _ 45 (0, 0) h.mode]; rfl
theorem ST.m2 (h : ST f p ip w wr S) : wr.cell? ⟨w.heap.size, 2, none⟩ = some (.bool ip) := by rw [cell_of_row wr w.heap.size 2 _ 45 (0, 0) h.mode]; rfl
theorem ST.store4 (h : ST f p ip w wr S) (T : Nat → Bool) :
    ST f p ip w ((((wr.setCell ⟨w.heap.size + 1, 0, none⟩ (.int .u64 ((Cls.wd T 0 : Nat) : Int))).setCell ⟨w.heap.size + 1, 1, none⟩ (.int .u64 ((Cls.wd T 1 : Nat) : Int))).setCell ⟨w.heap.size + 1, 2, none⟩ (.int .u64 ((Cls.wd T 2 : Nat) : Int))).setCell ⟨w.heap.size + 1, 3, none⟩ (.int .u64 ((Cls.wd T 3 : Nat) : Int))) T := by
  refine ⟨?_, h.cls.store4 T, (((h.below.setCell (by simp) _).setCell (by simp) _).setCell (by simp) _).setCell (by simp) _, by simpa using h.size⟩
  rw [heap_setCell_other _ _ _ _ (by simp), heap_setCell_other _ _ _ _ (by simp), heap_setCell_other _ _ _ _ (by simp), heap_setCell_other _ _ _ _ (by simp)]
  exact h.mode

theorem addRange_out (w : World) (f p ip : Bool) (S : Nat → Bool) (lo hi : Nat) (hlo : lo < 256) (hhi : hi < 256) :
    Calls Try.prog 36 #[.agg #[.bool f, .bool p, .bool ip], .agg #[.int .u64 ((Cls.wd S 0 : Nat) : Int), .int .u64 ((Cls.wd S 1 : Nat) : Int), .int .u64 ((Cls.wd S 2 : Nat) : Int), .int .u64 ((Cls.wd S 3 : Nat) : Int)], .int .u8 (lo : Int), .int .u8 (hi : Int)] w
      fun e w' => e = .returned (.agg #[.int .u64 ((Cls.wd (arS f S lo hi) 0 : Nat) : Int), .int .u64 ((Cls.wd (arS f S lo hi) 1 : Nat) : Int), .int .u64 ((Cls.wd (arS f S lo hi) 2 : Nat) : Int), .int .u64 ((Cls.wd (arS f S lo hi) 3 : Nat) : Int)]) ∧ Below w.heap.size w w' :=
  addRange_any w f p ip S lo hi hlo hhi
theorem addRange_zero (w : World) (f p ip : Bool) (lo hi : Nat) (hlo : lo < 256) (hhi : hi < 256) :
    Calls Try.prog 36 #[.agg #[.bool f, .bool p, .bool ip], .agg #[.int .u64 0, .int .u64 0, .int .u64 0, .int .u64 0], .int .u8 (lo : Int), .int .u8 (hi : Int)] w
      fun e w' => e = .returned (.agg #[.int .u64 ((Cls.wd (arS f Cls.none lo hi) 0 : Nat) : Int), .int .u64 ((Cls.wd (arS f Cls.none lo hi) 1 : Nat) : Int), .int .u64 ((Cls.wd (arS f Cls.none lo hi) 2 : Nat) : Int), .int .u64 ((Cls.wd (arS f Cls.none lo hi) 3 : Nat) : Int)]) ∧ Below w.heap.size w w' := by
  have := addRange_any w f p ip Cls.none lo hi hlo hhi
  rw [clsA_none] at this
  exact this
theorem compl_out (w : World) (S : Nat → Bool) :
    Calls Try.prog 34 #[.agg #[.int .u64 ((Cls.wd S 0 : Nat) : Int), .int .u64 ((Cls.wd S 1 : Nat) : Int), .int .u64 ((Cls.wd S 2 : Nat) : Int), .int .u64 ((Cls.wd S 3 : Nat) : Int)]] w
      fun e w' => e = .returned (.agg #[.int .u64 ((Cls.wd (Cls.compl S) 0 : Nat) : Int), .int .u64 ((Cls.wd (Cls.compl S) 1 : Nat) : Int), .int .u64 ((Cls.wd (Cls.compl S) 2 : Nat) : Int), .int .u64 ((Cls.wd (Cls.compl S) 3 : Nat) : Int)]) ∧ Below w.heap.size w w' :=
  compl_any w S
theorem wild_out (w : World) (f p ip : Bool) (S : Nat → Bool) :
    Calls Try.prog 35 #[.agg #[.bool f, .bool p, .bool ip], .agg #[.int .u64 ((Cls.wd S 0 : Nat) : Int), .int .u64 ((Cls.wd S 1 : Nat) : Int), .int .u64 ((Cls.wd S 2 : Nat) : Int), .int .u64 ((Cls.wd S 3 : Nat) : Int)]] w
      fun e w' => e = .returned (.agg #[.int .u64 ((Cls.wd (wildS p S) 0 : Nat) : Int), .int .u64 ((Cls.wd (wildS p S) 1 : Nat) : Int), .int .u64 ((Cls.wd (wildS p S) 2 : Nat) : Int), .int .u64 ((Cls.wd (wildS p S) 3 : Nat) : Int)]) ∧ Below w.heap.size w w' :=
  wild_any w f p ip S

set_option maxRecDepth 100000 in
set_option maxHeartbeats 2000000 in
theorem set_range_0 (s : ByteArray) (w : World) (f p : Bool) (lo hi : Nat) (hlo : lo < 256) (hhi : hi < 256) (h1 : 7 ≤ s.size) (h2 : s.size ≤ 16777216) (b1 : ((s[1]'(by omega)).toNat : Int) = 92) (b2 : ((s[2]'(by omega)).toNat : Int) = (lo : Int)) (b3 : ((s[3]'(by omega)).toNat : Int) = 45) (b4 : ((s[4]'(by omega)).toNat : Int) = 92) (b5 : ((s[5]'(by omega)).toNat : Int) = (hi : Int)) (b6 : ((s[6]'(by omega)).toNat : Int) = 93) :
    Calls Try.prog 31 #[.agg #[.bool f, .bool p, .bool false], .string s] w fun e w' =>
      e = .returned (if p = true ∧ lo = 47 then .tuple #[.agg #[.int .u64 0, .int .u64 0, .int .u64 0, .int .u64 0], .int .i64 0, .int .i64 2]
        else if p = true ∧ hi = 47 then .tuple #[.agg #[.int .u64 0, .int .u64 0, .int .u64 0, .int .u64 0], .int .i64 0, .int .i64 5]
        else .tuple #[.agg (clsA (wildS p (arS f Cls.none lo hi))), .int .i64 7, .int .i64 0]) ∧ Below w.heap.size w w' := by
  have hst := ST.start w f p false
  unfold modeA at hst
  have hi5 : (5 : Int) < (s.size : Int) := by omega
  have hi5n : (0 : Int) ≤ 5 := by omega
  by_cases hp1 : p = true ∧ lo = 47
  · rw [if_pos hp1]
    obtain ⟨rfl, rfl⟩ := hp1
    go_enter Try.func31, Try.ntmps31
    go_wp2_with fail
    refine wp_loop_rounds 3 ?_
    rw [rounds_succ]
    go_wp2_with fail
    exact bodyPost_ret (v := .tuple #[.agg #[.int .u64 0, .int .u64 0, .int .u64 0, .int .u64 0], .int .i64 0, .int .i64 2]) (by simp [results, Try.results31, go_sem]) rfl ⟨rfl, ((Below.refl _ _).alloc (Nat.le_refl _) _).alloc (by simp) _⟩
  rw [if_neg hp1]
  by_cases hp2 : p = true ∧ hi = 47
  · rw [if_pos hp2]
    obtain ⟨rfl, rfl⟩ := hp2
    have hlo47 : ((lo : Int) == 47) = false := beq_eq_false_iff_ne.2 (by intro e; exact hp1 ⟨rfl, by omega⟩)
    clear hp1
    go_enter Try.func31, Try.ntmps31
    go_wp2_with fail
    refine wp_loop_rounds 3 ?_
    rw [rounds_succ]
    go_wp2_with fail
    exact bodyPost_ret (v := .tuple #[.agg #[.int .u64 0, .int .u64 0, .int .u64 0, .int .u64 0], .int .i64 0, .int .i64 5]) (by simp [results, Try.results31, go_sem]) rfl ⟨rfl, ((Below.refl _ _).alloc (Nat.le_refl _) _).alloc (by simp) _⟩
  rw [if_neg hp2]
  have hx1 : p = true → ((lo : Int) == 47) = false := fun e => beq_eq_false_iff_ne.2 (by intro h; exact hp1 ⟨e, by omega⟩)
  have hx2 : p = true → ((hi : Int) == 47) = false := fun e => beq_eq_false_iff_ne.2 (by intro h; exact hp2 ⟨e, by omega⟩)
  clear hp1 hp2
  cases p
  · clear hx1 hx2
    go_enter Try.func31, Try.ntmps31
    go_wp2_with fail
    refine wp_loop_rounds 3 ?_
    rw [rounds_succ]
    go_wp2_with fail
    go_cut [7, 9] (fun iv fv wc => iv = .int .i64 5 ∧ fv = .bool true ∧ ST f false false w wc (arS f Cls.none lo hi))
    case first =>
      go_region_with (go_at_call 36; refine (addRange_zero _ f _ false lo hi hlo hhi).mono ?_; rintro e w1 ⟨rfl, hb1⟩; have hst1 := hst.drew.kept hb1; have q0 := hst1.cls.cell 0 (by omega); have q1 := hst1.cls.cell 1 (by omega); have q2 := hst1.cls.cell 2 (by omega); have q3 := hst1.cls.cell 3 (by omega); have qf := hst1.cls.free)
      all_goals
        clear q0 q1 q2 q3 qf
        go_wp2
        go_meet
        case rel => exact ⟨rfl, rfl, hst1.store4 (arS f Cls.none lo hi)⟩
    case rest =>
      obtain ⟨rfl, rfl, hst2⟩ := hcut
      have q0 := hst2.cls.cell 0 (by omega)
      have q1 := hst2.cls.cell 1 (by omega)
      have q2 := hst2.cls.cell 2 (by omega)
      have q3 := hst2.cls.cell 3 (by omega)
      have qf := hst2.cls.free
      have m0 := hst2.m0
      have m1 := hst2.m1
      have m2 := hst2.m2
      clear hst
      go_wp2_with fail
      rw [rounds_succ]
      go_wp2_with (go_at_call 35; refine (wild_out _ f false false (arS f Cls.none lo hi)).mono ?_; rintro e w4 ⟨rfl, hb4⟩; have hst4 := hst2.kept hb4; have t0 := hst4.cls.cell 0 (by omega); have t1 := hst4.cls.cell 1 (by omega); have t2 := hst4.cls.cell 2 (by omega); have t3 := hst4.cls.cell 3 (by omega); have tf := hst4.cls.free)
      refine bodyPost_ret (v := .tuple #[.agg (clsA (wildS false (arS f Cls.none lo hi))), .int .i64 7, .int .i64 0]) (by simp [results, Try.results31, go_sem, clsA, t0, t1, t2, t3]) rfl ⟨rfl, ?_⟩
      exact (((hst4.below.setCell (by simp) _).setCell (by simp) _).setCell (by simp) _).setCell (by simp) _
  · have hlo47 := hx1 rfl
    have hhi47 := hx2 rfl
    clear hx1 hx2
    go_enter Try.func31, Try.ntmps31
    go_wp2_with fail
    refine wp_loop_rounds 3 ?_
    rw [rounds_succ]
    go_wp2_with fail
    go_cut [7, 9] (fun iv fv wc => iv = .int .i64 5 ∧ fv = .bool true ∧ ST f true false w wc (arS f Cls.none lo hi))
    case first =>
      go_region_with (go_at_call 36; refine (addRange_zero _ f _ false lo hi hlo hhi).mono ?_; rintro e w1 ⟨rfl, hb1⟩; have hst1 := hst.drew.kept hb1; have q0 := hst1.cls.cell 0 (by omega); have q1 := hst1.cls.cell 1 (by omega); have q2 := hst1.cls.cell 2 (by omega); have q3 := hst1.cls.cell 3 (by omega); have qf := hst1.cls.free)
      all_goals
        clear q0 q1 q2 q3 qf
        go_wp2
        go_meet
        case rel => exact ⟨rfl, rfl, hst1.store4 (arS f Cls.none lo hi)⟩
    case rest =>
      obtain ⟨rfl, rfl, hst2⟩ := hcut
      have q0 := hst2.cls.cell 0 (by omega)
      have q1 := hst2.cls.cell 1 (by omega)
      have q2 := hst2.cls.cell 2 (by omega)
      have q3 := hst2.cls.cell 3 (by omega)
      have qf := hst2.cls.free
      have m0 := hst2.m0
      have m1 := hst2.m1
      have m2 := hst2.m2
      clear hst
      go_wp2_with fail
      rw [rounds_succ]
      go_wp2_with (go_at_call 35; refine (wild_out _ f true false (arS f Cls.none lo hi)).mono ?_; rintro e w4 ⟨rfl, hb4⟩; have hst4 := hst2.kept hb4; have t0 := hst4.cls.cell 0 (by omega); have t1 := hst4.cls.cell 1 (by omega); have t2 := hst4.cls.cell 2 (by omega); have t3 := hst4.cls.cell 3 (by omega); have tf := hst4.cls.free)
      refine bodyPost_ret (v := .tuple #[.agg (clsA (wildS true (arS f Cls.none lo hi))), .int .i64 7, .int .i64 0]) (by simp [results, Try.results31, go_sem, clsA, t0, t1, t2, t3]) rfl ⟨rfl, ?_⟩
      exact (((hst4.below.setCell (by simp) _).setCell (by simp) _).setCell (by simp) _).setCell (by simp) _


set_option maxRecDepth 100000 in
set_option maxHeartbeats 2000000 in
theorem set_range_1 (s : ByteArray) (w : World) (f p : Bool) (lo hi : Nat) (hlo : lo < 256) (hhi : hi < 256) (h1 : 8 ≤ s.size) (h2 : s.size ≤ 16777216) (b1 : ((s[1]'(by omega)).toNat : Int) = 94) (b2 : ((s[2]'(by omega)).toNat : Int) = 92) (b3 : ((s[3]'(by omega)).toNat : Int) = (lo : Int)) (b4 : ((s[4]'(by omega)).toNat : Int) = 45) (b5 : ((s[5]'(by omega)).toNat : Int) = 92) (b6 : ((s[6]'(by omega)).toNat : Int) = (hi : Int)) (b7 : ((s[7]'(by omega)).toNat : Int) = 93) :
    Calls Try.prog 31 #[.agg #[.bool f, .bool p, .bool false], .string s] w fun e w' =>
      e = .returned (if p = true ∧ lo = 47 then .tuple #[.agg #[.int .u64 0, .int .u64 0, .int .u64 0, .int .u64 0], .int .i64 0, .int .i64 3]
        else if p = true ∧ hi = 47 then .tuple #[.agg #[.int .u64 0, .int .u64 0, .int .u64 0, .int .u64 0], .int .i64 0, .int .i64 6]
        else .tuple #[.agg (clsA (wildS p (Cls.compl (arS f Cls.none lo hi)))), .int .i64 8, .int .i64 0]) ∧ Below w.heap.size w w' := by
  have hst := ST.start w f p false
  unfold modeA at hst
  have hi5 : (6 : Int) < (s.size : Int) := by omega
  have hi5n : (0 : Int) ≤ 6 := by omega
  by_cases hp1 : p = true ∧ lo = 47
  · rw [if_pos hp1]
    obtain ⟨rfl, rfl⟩ := hp1
    go_enter Try.func31, Try.ntmps31
    go_wp2_with fail
    refine wp_loop_rounds 3 ?_
    rw [rounds_succ]
    go_wp2_with fail
    exact bodyPost_ret (v := .tuple #[.agg #[.int .u64 0, .int .u64 0, .int .u64 0, .int .u64 0], .int .i64 0, .int .i64 3]) (by simp [results, Try.results31, go_sem]) rfl ⟨rfl, ((Below.refl _ _).alloc (Nat.le_refl _) _).alloc (by simp) _⟩
  rw [if_neg hp1]
  by_cases hp2 : p = true ∧ hi = 47
  · rw [if_pos hp2]
    obtain ⟨rfl, rfl⟩ := hp2
    have hlo47 : ((lo : Int) == 47) = false := beq_eq_false_iff_ne.2 (by intro e; exact hp1 ⟨rfl, by omega⟩)
    clear hp1
    go_enter Try.func31, Try.ntmps31
    go_wp2_with fail
    refine wp_loop_rounds 3 ?_
    rw [rounds_succ]
    go_wp2_with fail
    exact bodyPost_ret (v := .tuple #[.agg #[.int .u64 0, .int .u64 0, .int .u64 0, .int .u64 0], .int .i64 0, .int .i64 6]) (by simp [results, Try.results31, go_sem]) rfl ⟨rfl, ((Below.refl _ _).alloc (Nat.le_refl _) _).alloc (by simp) _⟩
  rw [if_neg hp2]
  have hx1 : p = true → ((lo : Int) == 47) = false := fun e => beq_eq_false_iff_ne.2 (by intro h; exact hp1 ⟨e, by omega⟩)
  have hx2 : p = true → ((hi : Int) == 47) = false := fun e => beq_eq_false_iff_ne.2 (by intro h; exact hp2 ⟨e, by omega⟩)
  clear hp1 hp2
  cases p
  · clear hx1 hx2
    go_enter Try.func31, Try.ntmps31
    go_wp2_with fail
    refine wp_loop_rounds 3 ?_
    rw [rounds_succ]
    go_wp2_with fail
    go_cut [7, 9] (fun iv fv wc => iv = .int .i64 6 ∧ fv = .bool true ∧ ST f false false w wc (arS f Cls.none lo hi))
    case first =>
      go_region_with (go_at_call 36; refine (addRange_zero _ f _ false lo hi hlo hhi).mono ?_; rintro e w1 ⟨rfl, hb1⟩; have hst1 := hst.drew.kept hb1; have q0 := hst1.cls.cell 0 (by omega); have q1 := hst1.cls.cell 1 (by omega); have q2 := hst1.cls.cell 2 (by omega); have q3 := hst1.cls.cell 3 (by omega); have qf := hst1.cls.free)
      all_goals
        clear q0 q1 q2 q3 qf
        go_wp2
        go_meet
        case rel => exact ⟨rfl, rfl, hst1.store4 (arS f Cls.none lo hi)⟩
    case rest =>
      obtain ⟨rfl, rfl, hst2⟩ := hcut
      have q0 := hst2.cls.cell 0 (by omega)
      have q1 := hst2.cls.cell 1 (by omega)
      have q2 := hst2.cls.cell 2 (by omega)
      have q3 := hst2.cls.cell 3 (by omega)
      have qf := hst2.cls.free
      have m0 := hst2.m0
      have m1 := hst2.m1
      have m2 := hst2.m2
      clear hst
      go_wp2_with fail
      rw [rounds_succ]
      go_wp2_with (go_at_call 34; refine (compl_out _ (arS f Cls.none lo hi)).mono ?_; rintro e w3 ⟨rfl, hb3⟩; have hst3 := hst2.kept hb3; have r0 := hst3.cls.cell 0 (by omega); have r1 := hst3.cls.cell 1 (by omega); have r2 := hst3.cls.cell 2 (by omega); have r3 := hst3.cls.cell 3 (by omega); have rf := hst3.cls.free; have n0 := hst3.m0; have n1 := hst3.m1; have n2 := hst3.m2)
      have hstC := hst3.store4 (Cls.compl (arS f Cls.none lo hi))
      refine (wild_out _ f false false (Cls.compl (arS f Cls.none lo hi))).mono ?_
      rintro e w4 ⟨rfl, hb4⟩
      have hst4 := hstC.kept hb4
      have t0 := hst4.cls.cell 0 (by omega)
      have t1 := hst4.cls.cell 1 (by omega)
      have t2 := hst4.cls.cell 2 (by omega)
      have t3 := hst4.cls.cell 3 (by omega)
      have tf := hst4.cls.free
      clear hstC hst3 r0 r1 r2 r3 rf n0 n1 n2 q0 q1 q2 q3 qf m0 m1 m2 hb4 hb3
      go_wp2_with fail
      refine bodyPost_ret (v := .tuple #[.agg (clsA (wildS false (Cls.compl (arS f Cls.none lo hi)))), .int .i64 8, .int .i64 0]) (by simp [results, Try.results31, go_sem, clsA, t0, t1, t2, t3]) rfl ⟨rfl, ?_⟩
      exact (((hst4.below.setCell (by simp) _).setCell (by simp) _).setCell (by simp) _).setCell (by simp) _
  · have hlo47 := hx1 rfl
    have hhi47 := hx2 rfl
    clear hx1 hx2
    go_enter Try.func31, Try.ntmps31
    go_wp2_with fail
    refine wp_loop_rounds 3 ?_
    rw [rounds_succ]
    go_wp2_with fail
    go_cut [7, 9] (fun iv fv wc => iv = .int .i64 6 ∧ fv = .bool true ∧ ST f true false w wc (arS f Cls.none lo hi))
    case first =>
      go_region_with (go_at_call 36; refine (addRange_zero _ f _ false lo hi hlo hhi).mono ?_; rintro e w1 ⟨rfl, hb1⟩; have hst1 := hst.drew.kept hb1; have q0 := hst1.cls.cell 0 (by omega); have q1 := hst1.cls.cell 1 (by omega); have q2 := hst1.cls.cell 2 (by omega); have q3 := hst1.cls.cell 3 (by omega); have qf := hst1.cls.free)
      all_goals
        clear q0 q1 q2 q3 qf
        go_wp2
        go_meet
        case rel => exact ⟨rfl, rfl, hst1.store4 (arS f Cls.none lo hi)⟩
    case rest =>
      obtain ⟨rfl, rfl, hst2⟩ := hcut
      have q0 := hst2.cls.cell 0 (by omega)
      have q1 := hst2.cls.cell 1 (by omega)
      have q2 := hst2.cls.cell 2 (by omega)
      have q3 := hst2.cls.cell 3 (by omega)
      have qf := hst2.cls.free
      have m0 := hst2.m0
      have m1 := hst2.m1
      have m2 := hst2.m2
      clear hst
      go_wp2_with fail
      rw [rounds_succ]
      go_wp2_with (go_at_call 34; refine (compl_out _ (arS f Cls.none lo hi)).mono ?_; rintro e w3 ⟨rfl, hb3⟩; have hst3 := hst2.kept hb3; have r0 := hst3.cls.cell 0 (by omega); have r1 := hst3.cls.cell 1 (by omega); have r2 := hst3.cls.cell 2 (by omega); have r3 := hst3.cls.cell 3 (by omega); have rf := hst3.cls.free; have n0 := hst3.m0; have n1 := hst3.m1; have n2 := hst3.m2)
      have hstC := hst3.store4 (Cls.compl (arS f Cls.none lo hi))
      refine (wild_out _ f true false (Cls.compl (arS f Cls.none lo hi))).mono ?_
      rintro e w4 ⟨rfl, hb4⟩
      have hst4 := hstC.kept hb4
      have t0 := hst4.cls.cell 0 (by omega)
      have t1 := hst4.cls.cell 1 (by omega)
      have t2 := hst4.cls.cell 2 (by omega)
      have t3 := hst4.cls.cell 3 (by omega)
      have tf := hst4.cls.free
      clear hstC hst3 r0 r1 r2 r3 rf n0 n1 n2 q0 q1 q2 q3 qf m0 m1 m2 hb4 hb3
      go_wp2_with fail
      refine bodyPost_ret (v := .tuple #[.agg (clsA (wildS true (Cls.compl (arS f Cls.none lo hi)))), .int .i64 8, .int .i64 0]) (by simp [results, Try.results31, go_sem, clsA, t0, t1, t2, t3]) rfl ⟨rfl, ?_⟩
      exact (((hst4.below.setCell (by simp) _).setCell (by simp) _).setCell (by simp) _).setCell (by simp) _


end Go.Proofs.Qxb6000758a
