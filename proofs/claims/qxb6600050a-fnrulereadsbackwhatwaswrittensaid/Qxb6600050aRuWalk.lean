/-
  rule (35), walked at each kind, with and without a time.
-/
import Derived.Test.Qxb6600050aOfRd
namespace Go.Proofs.Qxb6600050a
open Go.RowKit
set_option linter.unusedSimpArgs false

def ruA (k d wk mo at_ : Int) : Array Value := #[.int .u8 k, .int .i64 d, .int .i64 wk, .int .i64 mo, .int .i64 at_]

/-- What a method of the reader leaves: the reader at place j; all else that was there as it was. -/
structure Moved2 (g : Nat) (s : ByteArray) (j : Nat) (w w' : World) : Prop where
  rd : Rd w' g s j
  grown : w.grownBy w' (some g)
theorem Moved2.put {g : Nat} {s : ByteArray} {j : Nat} {w W : World} (h : Moved2 g s j w W) {b : Nat} (hb : w.heap.size ≤ b) (hg : ¬ g = b) (q : Nat) (v : Value) : Moved2 g s j w (W.setCell ⟨b, q, none⟩ v) := by
  refine ⟨?_, ⟨h.grown.os, h.grown.tape, h.grown.output, by simpa using h.grown.size, fun k hk hne => ?_⟩⟩
  · unfold Rd
    rw [heap_setCell_other _ _ _ _ hg]; exact h.rd
  · rw [heap_setCell_other _ _ _ _ (by intro e; simp at e; omega)]; exact h.grown.block k hk hne

/-- The rule's two blocks (the result, the rule that is being read) beside the reader. -/
structure RS (g : Nat) (s : ByteArray) (w : World) (i : Nat) (k d wk mo at_ : Int) (W : World) : Prop where
  m2 : Moved2 g s i w W
  t2 : W.heap[w.heap.size]? = some (.cells (ruA 0 0 0 0 0) 51 (0, 0))
  t4 : W.heap[w.heap.size + 1]? = some (.cells (ruA k d wk mo at_) 51 (0, 0))
  lt : g < w.heap.size
variable {g : Nat} {s : ByteArray} {w W W' : World} {i j : Nat} {k d wk mo at_ : Int}
theorem RS.rd (h : RS g s w i k d wk mo at_ W) : Rd W g s i := h.m2.rd
theorem RS.start (h : Rd w g s i) : RS g s w i 0 0 0 0 0 ((w.alloc (.cells (ruA 0 0 0 0 0) 51)).alloc (.cells (ruA 0 0 0 0 0) 51)) := by
  have hb : Below w.heap.size w ((w.alloc (.cells (ruA 0 0 0 0 0) 51)).alloc (.cells (ruA 0 0 0 0 0) 51)) := ((Below.refl _ _).alloc (Nat.le_refl _) _).alloc (by simp) _
  refine ⟨⟨?_, ⟨hb.os, hb.tape, hb.output, hb.size, fun k hk _ => hb.block k hk⟩⟩, ?_, ?_, h.lt⟩
  · exact (hb.block g h.lt).trans h
  · rw [Below.heap_alloc _ _ _ (by simp)]; exact heap_alloc_new w _
  · have := heap_alloc_new (w.alloc (.cells (ruA 0 0 0 0 0) 51)) (.cells (ruA 0 0 0 0 0) 51)
    simpa using this
theorem RS.moved (h : RS g s w i k d wk mo at_ W) (hm : Moved g s j W W') : RS g s w j k d wk mo at_ W' := by
  have hl := h.lt
  have h4 : w.heap.size + 1 < W.heap.size := (Array.getElem?_eq_some_iff.1 h.t4).1
  refine ⟨⟨hm.rd, ⟨hm.grown.os.trans h.m2.grown.os, hm.grown.tape.trans h.m2.grown.tape, hm.grown.output.trans h.m2.grown.output, Nat.le_trans h.m2.grown.size hm.grown.size, fun q hq hne => (hm.grown.block q (by omega) hne).trans (h.m2.grown.block q hq hne)⟩⟩, ?_, ?_, hl⟩
  · exact (hm.grown.block _ (by omega) (by intro e; simp at e; omega)).trans h.t2
  · exact (hm.grown.block _ (by omega) (by intro e; simp at e; omega)).trans h.t4
theorem RS.put (h : RS g s w i k d wk mo at_ W) (q : Nat) (v : Value) {k' d' wk' mo' at' : Int} (e : (ruA k d wk mo at_).setIfInBounds q v = ruA k' d' wk' mo' at') : RS g s w i k' d' wk' mo' at' (W.setCell ⟨w.heap.size + 1, q, none⟩ v) := by
  have hl := h.lt
  refine ⟨h.m2.put (by omega) (by omega) q v, ?_, ?_, hl⟩
  · rw [heap_setCell_other _ _ _ _ (by simp)]; exact h.t2
  · rw [heap_setCell_same W (w.heap.size + 1) q _ 51 v h.t4, e]
theorem RS.set0 (h : RS g s w i k d wk mo at_ W) (x : Int) : RS g s w i x d wk mo at_ (W.setCell ⟨w.heap.size + 1, 0, none⟩ (.int .u8 x)) := h.put 0 _ rfl
theorem RS.set1 (h : RS g s w i k d wk mo at_ W) (x : Int) : RS g s w i k x wk mo at_ (W.setCell ⟨w.heap.size + 1, 1, none⟩ (.int .i64 x)) := h.put 1 _ rfl
theorem RS.set2 (h : RS g s w i k d wk mo at_ W) (x : Int) : RS g s w i k d x mo at_ (W.setCell ⟨w.heap.size + 1, 2, none⟩ (.int .i64 x)) := h.put 2 _ rfl
theorem RS.set3 (h : RS g s w i k d wk mo at_ W) (x : Int) : RS g s w i k d wk x at_ (W.setCell ⟨w.heap.size + 1, 3, none⟩ (.int .i64 x)) := h.put 3 _ rfl
theorem RS.set4 (h : RS g s w i k d wk mo at_ W) (x : Int) : RS g s w i k d wk mo x (W.setCell ⟨w.heap.size + 1, 4, none⟩ (.int .i64 x)) := h.put 4 _ rfl
theorem RS.facts (h : RS g s w i k d wk mo at_ W) : W.cell? ⟨w.heap.size + 1, 0, none⟩ = some (.int .u8 k) ∧ W.cell? ⟨w.heap.size + 1, 1, none⟩ = some (.int .i64 d) ∧ W.cell? ⟨w.heap.size + 1, 2, none⟩ = some (.int .i64 wk) ∧ W.cell? ⟨w.heap.size + 1, 3, none⟩ = some (.int .i64 mo) ∧ W.cell? ⟨w.heap.size + 1, 4, none⟩ = some (.int .i64 at_)
    ∧ (∀ q, W.frozen? ⟨w.heap.size + 1, q, none⟩ = false) ∧ w.heap.size + 1 < W.heap.size := by
  have h4 := h.t4
  refine ⟨?_, ?_, ?_, ?_, ?_, fun q => by simp [World.frozen?, h4], (Array.getElem?_eq_some_iff.1 h4).1⟩
  all_goals (rw [cell_of_row W _ _ _ 51 (0, 0) h4]; rfl)
theorem RS.facts2 (h : RS g s w i k d wk mo at_ W) : (∀ q, W.frozen? ⟨w.heap.size, q, none⟩ = false) ∧ W.cell? ⟨w.heap.size, 0, none⟩ = some (.int .u8 0) ∧ W.cell? ⟨w.heap.size, 1, none⟩ = some (.int .i64 0) ∧ W.cell? ⟨w.heap.size, 2, none⟩ = some (.int .i64 0) ∧ W.cell? ⟨w.heap.size, 3, none⟩ = some (.int .i64 0) ∧ W.cell? ⟨w.heap.size, 4, none⟩ = some (.int .i64 0) ∧ w.heap.size < W.heap.size := by
  have h2 := h.t2
  refine ⟨fun q => by simp [World.frozen?, h2], ?_, ?_, ?_, ?_, ?_, (Array.getElem?_eq_some_iff.1 h2).1⟩
  all_goals (rw [cell_of_row W _ _ _ 51 (0, 0) h2]; rfl)

set_option maxRecDepth 100000 in
set_option maxHeartbeats 2000000 in
theorem rule_00 (w : World) (g : Nat) (s : ByteArray) (i : Nat) (d : Nat) (r : List UInt8) (hnd : NoDig r) (hns : NotAt 47 r) (j : Nat) (hj : Hid (j = i + (([74] ++ (padded 0 d))).length)) (hr : Rd w g s i) (hs : s.size ≤ 16777216) (hF : From s i (([74] ++ (padded 0 d)) ++ r)) (h1 : 1 ≤ d) (h2 : d ≤ 365) :
    Calls Try.prog 35 #[.pointer (some ⟨g, 0, none⟩)] w fun e w' => e = .returned (.tuple #[.agg #[.int .u8 74, .int .i64 (d : Int), .int .i64 0, .int .i64 0, .int .i64 7200], .bool true]) ∧ Moved2 g s j w w' := by
  have HF0 : Hid (From s i ([74] ++ (padded 0 d ++ (r)))) := by
    show From s i ([74] ++ (padded 0 d ++ (r)))
    first
      | exact hF
      | (have h0 := hF; simp only [List.append_assoc] at h0 ⊢; exact h0)
  obtain ⟨i1, HI1, HF1⟩ : ∃ q, Hid (q = i + 1) ∧ Hid (From s q (padded 0 d ++ (r))) := ⟨_, rfl, HF0.out.one⟩
  have HD1 : Hid (NoDig (r)) := hnd
  obtain ⟨i2, HI2, HF2⟩ : ∃ q, Hid (q = i1 + (padded 0 d).length) ∧ Hid (From s q (r)) := ⟨_, rfl, HF1.out.step⟩
  have HN2_47 : Hid (NotAt 47 (r)) := hns
  have hE : Hid (i2 = j) := by
    show i2 = j
    rw [hj.out]
    have z1 := HI1.out; have z2 := HI2.out; first | omega | (simp only [List.length_append, List.length_cons, List.length_nil]; omega)
  clear hj hF hnd hns
  have hR0 := RS.start hr
  unfold ruA at hR0
  clear hr
  go_enter Try.func35, Try.ntmps35
  go_wp2_with fail
  refine (expect_take _ g s i 74 _ (hR0).rd hs HF0.out).mono ?_
  rintro e w1 ⟨rfl, hm1⟩
  rw [← HI1.out] at hm1
  have hR1 := (hR0).moved hm1
  clear hm1 hR0
  obtain ⟨q0_1, q1_1, q2_1, q3_1, q4_1, qf_1, qs_1⟩ := hR1.facts
  go_wp2_with fail
  refine (number_take _ g s i1 1 365 0 d _ (hR1.set0 74).rd hs HF1.out HD1.out (by omega) (by omega) (by omega) (by omega)).mono ?_
  rintro e w2 ⟨rfl, hm2⟩
  rw [← HI2.out] at hm2
  have hR2 := (hR1.set0 74).moved hm2
  clear hm2 hR1 q0_1 q1_1 q2_1 q3_1 q4_1 qf_1 qs_1
  obtain ⟨q0_2, q1_2, q2_2, q3_2, q4_2, qf_2, qs_2⟩ := hR2.facts
  go_wp2_with fail
  refine (expect_skip _ g s i2 47 _ ((hR2.set1 (d : Int)).set4 7200).rd hs HF2.out HN2_47.out).mono ?_
  rintro e w3 ⟨rfl, hm3⟩
  have hR3 := ((hR2.set1 (d : Int)).set4 7200).moved hm3
  clear hm3 hR2 q0_2 q1_2 q2_2 q3_2 q4_2 qf_2 qs_2
  obtain ⟨q0_3, q1_3, q2_3, q3_3, q4_3, qf_3, qs_3⟩ := hR3.facts
  obtain ⟨pf, p0, p1, p2, p3, p4, ps⟩ := hR3.facts2
  go_wp2_with fail
  have hgl : ¬ g = w.heap.size := by have h0 := hR3.lt; omega
  refine bodyPost_ret (v := .tuple #[.agg #[.int .u8 74, .int .i64 (d : Int), .int .i64 0, .int .i64 0, .int .i64 7200], .bool true]) (by simp [results, Try.results35, go_sem, ps, p0, p1, p2, p3, p4]) rfl ⟨rfl, ?_⟩
  rw [← hE.out]
  exact (((((hR3.m2).put (Nat.le_refl _) hgl 0 (.int .u8 74)).put (Nat.le_refl _) hgl 1 (.int .i64 (d : Int))).put (Nat.le_refl _) hgl 2 (.int .i64 0)).put (Nat.le_refl _) hgl 3 (.int .i64 0)).put (Nat.le_refl _) hgl 4 (.int .i64 7200)

set_option maxRecDepth 100000 in
set_option maxHeartbeats 2000000 in
theorem rule_01 (w : World) (g : Nat) (s : ByteArray) (i : Nat) (d : Nat) (r : List UInt8) (T : List UInt8) (V : Int) (H34 : Hid (∀ (w : World) (i j : Nat), j = i + T.length → Rd w g s i → From s i (T ++ r) → Calls Try.prog 34 #[.pointer (some ⟨g, 0, none⟩)] w fun e w' => e = .returned (.tuple #[.int .i64 V, .bool true]) ∧ Moved g s j w w')) (j : Nat) (hj : Hid (j = i + (([74] ++ (padded 0 d ++ ([47] ++ (T))))).length)) (hr : Rd w g s i) (hs : s.size ≤ 16777216) (hF : From s i (([74] ++ (padded 0 d ++ ([47] ++ (T)))) ++ r)) (h1 : 1 ≤ d) (h2 : d ≤ 365) :
    Calls Try.prog 35 #[.pointer (some ⟨g, 0, none⟩)] w fun e w' => e = .returned (.tuple #[.agg #[.int .u8 74, .int .i64 (d : Int), .int .i64 0, .int .i64 0, .int .i64 V], .bool true]) ∧ Moved2 g s j w w' := by
  have HF0 : Hid (From s i ([74] ++ (padded 0 d ++ ([47] ++ (T ++ (r)))))) := by
    show From s i ([74] ++ (padded 0 d ++ ([47] ++ (T ++ (r)))))
    first
      | exact hF
      | (have h0 := hF; simp only [List.append_assoc] at h0 ⊢; exact h0)
  obtain ⟨i1, HI1, HF1⟩ : ∃ q, Hid (q = i + 1) ∧ Hid (From s q (padded 0 d ++ ([47] ++ (T ++ (r))))) := ⟨_, rfl, HF0.out.one⟩
  have HD1 : Hid (NoDig ([47] ++ (T ++ (r)))) := NoDig.cons (by decide)
  obtain ⟨i2, HI2, HF2⟩ : ∃ q, Hid (q = i1 + (padded 0 d).length) ∧ Hid (From s q ([47] ++ (T ++ (r)))) := ⟨_, rfl, HF1.out.step⟩
  obtain ⟨i3, HI3, HF3⟩ : ∃ q, Hid (q = i2 + 1) ∧ Hid (From s q (T ++ (r))) := ⟨_, rfl, HF2.out.one⟩
  obtain ⟨i4, HI4⟩ : ∃ q, Hid (q = i3 + T.length) := ⟨_, rfl⟩
  have hE : Hid (i4 = j) := by
    show i4 = j
    rw [hj.out]
    have z1 := HI1.out; have z2 := HI2.out; have z3 := HI3.out; have z4 := HI4.out; first | omega | (simp only [List.length_append, List.length_cons, List.length_nil]; omega)
  clear hj hF
  have hR0 := RS.start hr
  unfold ruA at hR0
  clear hr
  go_enter Try.func35, Try.ntmps35
  go_wp2_with fail
  refine (expect_take _ g s i 74 _ (hR0).rd hs HF0.out).mono ?_
  rintro e w1 ⟨rfl, hm1⟩
  rw [← HI1.out] at hm1
  have hR1 := (hR0).moved hm1
  clear hm1 hR0
  obtain ⟨q0_1, q1_1, q2_1, q3_1, q4_1, qf_1, qs_1⟩ := hR1.facts
  go_wp2_with fail
  refine (number_take _ g s i1 1 365 0 d _ (hR1.set0 74).rd hs HF1.out HD1.out (by omega) (by omega) (by omega) (by omega)).mono ?_
  rintro e w2 ⟨rfl, hm2⟩
  rw [← HI2.out] at hm2
  have hR2 := (hR1.set0 74).moved hm2
  clear hm2 hR1 q0_1 q1_1 q2_1 q3_1 q4_1 qf_1 qs_1
  obtain ⟨q0_2, q1_2, q2_2, q3_2, q4_2, qf_2, qs_2⟩ := hR2.facts
  go_wp2_with fail
  refine (expect_take _ g s i2 47 _ ((hR2.set1 (d : Int)).set4 7200).rd hs HF2.out).mono ?_
  rintro e w3 ⟨rfl, hm3⟩
  rw [← HI3.out] at hm3
  have hR3 := ((hR2.set1 (d : Int)).set4 7200).moved hm3
  clear hm3 hR2 q0_2 q1_2 q2_2 q3_2 q4_2 qf_2 qs_2
  obtain ⟨q0_3, q1_3, q2_3, q3_3, q4_3, qf_3, qs_3⟩ := hR3.facts
  go_wp2_with fail
  refine (H34.out _ i3 i4 HI4.out (hR3).rd HF3.out).mono ?_
  rintro e w4 ⟨rfl, hm4⟩
  have hR4 := (hR3).moved hm4
  clear hm4 hR3 q0_3 q1_3 q2_3 q3_3 q4_3 qf_3 qs_3
  obtain ⟨q0_4, q1_4, q2_4, q3_4, q4_4, qf_4, qs_4⟩ := hR4.facts
  obtain ⟨pf, p0, p1, p2, p3, p4, ps⟩ := hR4.facts2
  go_wp2_with fail
  have hgl : ¬ g = w.heap.size := by have h0 := hR4.lt; omega
  refine bodyPost_ret (v := .tuple #[.agg #[.int .u8 74, .int .i64 (d : Int), .int .i64 0, .int .i64 0, .int .i64 V], .bool true]) (by simp [results, Try.results35, go_sem, ps, p0, p1, p2, p3, p4]) rfl ⟨rfl, ?_⟩
  rw [← hE.out]
  exact ((((((hR4.set4 V).m2).put (Nat.le_refl _) hgl 0 (.int .u8 74)).put (Nat.le_refl _) hgl 1 (.int .i64 (d : Int))).put (Nat.le_refl _) hgl 2 (.int .i64 0)).put (Nat.le_refl _) hgl 3 (.int .i64 0)).put (Nat.le_refl _) hgl 4 (.int .i64 V)

set_option maxRecDepth 100000 in
set_option maxHeartbeats 2000000 in
theorem rule_10 (w : World) (g : Nat) (s : ByteArray) (i : Nat) (d mo wk : Nat) (r : List UInt8) (hnd : NoDig r) (hns : NotAt 47 r) (j : Nat) (hj : Hid (j = i + (([77] ++ (padded 0 mo ++ ([46] ++ (padded 0 wk ++ ([46] ++ (padded 0 d))))))).length)) (hr : Rd w g s i) (hs : s.size ≤ 16777216) (hF : From s i (([77] ++ (padded 0 mo ++ ([46] ++ (padded 0 wk ++ ([46] ++ (padded 0 d)))))) ++ r)) (h1 : 1 ≤ mo) (h2 : mo ≤ 12) (h3 : 1 ≤ wk) (h4 : wk ≤ 5) (h5 : d ≤ 6) :
    Calls Try.prog 35 #[.pointer (some ⟨g, 0, none⟩)] w fun e w' => e = .returned (.tuple #[.agg #[.int .u8 77, .int .i64 (d : Int), .int .i64 (wk : Int), .int .i64 (mo : Int), .int .i64 7200], .bool true]) ∧ Moved2 g s j w w' := by
  have HF0 : Hid (From s i ([77] ++ (padded 0 mo ++ ([46] ++ (padded 0 wk ++ ([46] ++ (padded 0 d ++ (r)))))))) := by
    show From s i ([77] ++ (padded 0 mo ++ ([46] ++ (padded 0 wk ++ ([46] ++ (padded 0 d ++ (r)))))))
    first
      | exact hF
      | (have h0 := hF; simp only [List.append_assoc] at h0 ⊢; exact h0)
  have HN0_74 : Hid (NotAt 74 ([77] ++ (padded 0 mo ++ ([46] ++ (padded 0 wk ++ ([46] ++ (padded 0 d ++ (r)))))))) := NotAt.cons (by decide)
  obtain ⟨i1, HI1, HF1⟩ : ∃ q, Hid (q = i + 1) ∧ Hid (From s q (padded 0 mo ++ ([46] ++ (padded 0 wk ++ ([46] ++ (padded 0 d ++ (r))))))) := ⟨_, rfl, HF0.out.one⟩
  have HD1 : Hid (NoDig ([46] ++ (padded 0 wk ++ ([46] ++ (padded 0 d ++ (r)))))) := NoDig.cons (by decide)
  obtain ⟨i2, HI2, HF2⟩ : ∃ q, Hid (q = i1 + (padded 0 mo).length) ∧ Hid (From s q ([46] ++ (padded 0 wk ++ ([46] ++ (padded 0 d ++ (r)))))) := ⟨_, rfl, HF1.out.step⟩
  obtain ⟨i3, HI3, HF3⟩ : ∃ q, Hid (q = i2 + 1) ∧ Hid (From s q (padded 0 wk ++ ([46] ++ (padded 0 d ++ (r))))) := ⟨_, rfl, HF2.out.one⟩
  have HD3 : Hid (NoDig ([46] ++ (padded 0 d ++ (r)))) := NoDig.cons (by decide)
  obtain ⟨i4, HI4, HF4⟩ : ∃ q, Hid (q = i3 + (padded 0 wk).length) ∧ Hid (From s q ([46] ++ (padded 0 d ++ (r)))) := ⟨_, rfl, HF3.out.step⟩
  obtain ⟨i5, HI5, HF5⟩ : ∃ q, Hid (q = i4 + 1) ∧ Hid (From s q (padded 0 d ++ (r))) := ⟨_, rfl, HF4.out.one⟩
  have HD5 : Hid (NoDig (r)) := hnd
  obtain ⟨i6, HI6, HF6⟩ : ∃ q, Hid (q = i5 + (padded 0 d).length) ∧ Hid (From s q (r)) := ⟨_, rfl, HF5.out.step⟩
  have HN6_47 : Hid (NotAt 47 (r)) := hns
  have hE : Hid (i6 = j) := by
    show i6 = j
    rw [hj.out]
    have z1 := HI1.out; have z2 := HI2.out; have z3 := HI3.out; have z4 := HI4.out; have z5 := HI5.out; have z6 := HI6.out; first | omega | (simp only [List.length_append, List.length_cons, List.length_nil]; omega)
  clear hj hF hnd hns
  have hR0 := RS.start hr
  unfold ruA at hR0
  clear hr
  go_enter Try.func35, Try.ntmps35
  go_wp2_with fail
  refine (expect_skip _ g s i 74 _ (hR0).rd hs HF0.out HN0_74.out).mono ?_
  rintro e w1 ⟨rfl, hm1⟩
  have hR1 := (hR0).moved hm1
  clear hm1 hR0
  obtain ⟨q0_1, q1_1, q2_1, q3_1, q4_1, qf_1, qs_1⟩ := hR1.facts
  go_wp2_with fail
  refine (expect_take _ g s i 77 _ (hR1).rd hs HF0.out).mono ?_
  rintro e w2 ⟨rfl, hm2⟩
  rw [← HI1.out] at hm2
  have hR2 := (hR1).moved hm2
  clear hm2 hR1 q0_1 q1_1 q2_1 q3_1 q4_1 qf_1 qs_1
  obtain ⟨q0_2, q1_2, q2_2, q3_2, q4_2, qf_2, qs_2⟩ := hR2.facts
  go_wp2_with fail
  refine (number_take _ g s i1 1 12 0 mo _ (hR2.set0 77).rd hs HF1.out HD1.out (by omega) (by omega) (by omega) (by omega)).mono ?_
  rintro e w3 ⟨rfl, hm3⟩
  rw [← HI2.out] at hm3
  have hR3 := (hR2.set0 77).moved hm3
  clear hm3 hR2 q0_2 q1_2 q2_2 q3_2 q4_2 qf_2 qs_2
  obtain ⟨q0_3, q1_3, q2_3, q3_3, q4_3, qf_3, qs_3⟩ := hR3.facts
  go_wp2_with fail
  refine (expect_take _ g s i2 46 _ (hR3.set3 (mo : Int)).rd hs HF2.out).mono ?_
  rintro e w4 ⟨rfl, hm4⟩
  rw [← HI3.out] at hm4
  have hR4 := (hR3.set3 (mo : Int)).moved hm4
  clear hm4 hR3 q0_3 q1_3 q2_3 q3_3 q4_3 qf_3 qs_3
  obtain ⟨q0_4, q1_4, q2_4, q3_4, q4_4, qf_4, qs_4⟩ := hR4.facts
  go_wp2_with fail
  refine (number_take _ g s i3 1 5 0 wk _ (hR4).rd hs HF3.out HD3.out (by omega) (by omega) (by omega) (by omega)).mono ?_
  rintro e w5 ⟨rfl, hm5⟩
  rw [← HI4.out] at hm5
  have hR5 := (hR4).moved hm5
  clear hm5 hR4 q0_4 q1_4 q2_4 q3_4 q4_4 qf_4 qs_4
  obtain ⟨q0_5, q1_5, q2_5, q3_5, q4_5, qf_5, qs_5⟩ := hR5.facts
  go_wp2_with fail
  refine (expect_take _ g s i4 46 _ (hR5.set2 (wk : Int)).rd hs HF4.out).mono ?_
  rintro e w6 ⟨rfl, hm6⟩
  rw [← HI5.out] at hm6
  have hR6 := (hR5.set2 (wk : Int)).moved hm6
  clear hm6 hR5 q0_5 q1_5 q2_5 q3_5 q4_5 qf_5 qs_5
  obtain ⟨q0_6, q1_6, q2_6, q3_6, q4_6, qf_6, qs_6⟩ := hR6.facts
  go_wp2_with fail
  refine (number_take _ g s i5 0 6 0 d _ (hR6).rd hs HF5.out HD5.out (by omega) (by omega) (by omega) (by omega)).mono ?_
  rintro e w7 ⟨rfl, hm7⟩
  rw [← HI6.out] at hm7
  have hR7 := (hR6).moved hm7
  clear hm7 hR6 q0_6 q1_6 q2_6 q3_6 q4_6 qf_6 qs_6
  obtain ⟨q0_7, q1_7, q2_7, q3_7, q4_7, qf_7, qs_7⟩ := hR7.facts
  go_wp2_with fail
  refine (expect_skip _ g s i6 47 _ ((hR7.set1 (d : Int)).set4 7200).rd hs HF6.out HN6_47.out).mono ?_
  rintro e w8 ⟨rfl, hm8⟩
  have hR8 := ((hR7.set1 (d : Int)).set4 7200).moved hm8
  clear hm8 hR7 q0_7 q1_7 q2_7 q3_7 q4_7 qf_7 qs_7
  obtain ⟨q0_8, q1_8, q2_8, q3_8, q4_8, qf_8, qs_8⟩ := hR8.facts
  obtain ⟨pf, p0, p1, p2, p3, p4, ps⟩ := hR8.facts2
  go_wp2_with fail
  have hgl : ¬ g = w.heap.size := by have h0 := hR8.lt; omega
  refine bodyPost_ret (v := .tuple #[.agg #[.int .u8 77, .int .i64 (d : Int), .int .i64 (wk : Int), .int .i64 (mo : Int), .int .i64 7200], .bool true]) (by simp [results, Try.results35, go_sem, ps, p0, p1, p2, p3, p4]) rfl ⟨rfl, ?_⟩
  rw [← hE.out]
  exact (((((hR8.m2).put (Nat.le_refl _) hgl 0 (.int .u8 77)).put (Nat.le_refl _) hgl 1 (.int .i64 (d : Int))).put (Nat.le_refl _) hgl 2 (.int .i64 (wk : Int))).put (Nat.le_refl _) hgl 3 (.int .i64 (mo : Int))).put (Nat.le_refl _) hgl 4 (.int .i64 7200)

set_option maxRecDepth 100000 in
set_option maxHeartbeats 2000000 in
theorem rule_11 (w : World) (g : Nat) (s : ByteArray) (i : Nat) (d mo wk : Nat) (r : List UInt8) (T : List UInt8) (V : Int) (H34 : Hid (∀ (w : World) (i j : Nat), j = i + T.length → Rd w g s i → From s i (T ++ r) → Calls Try.prog 34 #[.pointer (some ⟨g, 0, none⟩)] w fun e w' => e = .returned (.tuple #[.int .i64 V, .bool true]) ∧ Moved g s j w w')) (j : Nat) (hj : Hid (j = i + (([77] ++ (padded 0 mo ++ ([46] ++ (padded 0 wk ++ ([46] ++ (padded 0 d ++ ([47] ++ (T))))))))).length)) (hr : Rd w g s i) (hs : s.size ≤ 16777216) (hF : From s i (([77] ++ (padded 0 mo ++ ([46] ++ (padded 0 wk ++ ([46] ++ (padded 0 d ++ ([47] ++ (T)))))))) ++ r)) (h1 : 1 ≤ mo) (h2 : mo ≤ 12) (h3 : 1 ≤ wk) (h4 : wk ≤ 5) (h5 : d ≤ 6) :
    Calls Try.prog 35 #[.pointer (some ⟨g, 0, none⟩)] w fun e w' => e = .returned (.tuple #[.agg #[.int .u8 77, .int .i64 (d : Int), .int .i64 (wk : Int), .int .i64 (mo : Int), .int .i64 V], .bool true]) ∧ Moved2 g s j w w' := by
  have HF0 : Hid (From s i ([77] ++ (padded 0 mo ++ ([46] ++ (padded 0 wk ++ ([46] ++ (padded 0 d ++ ([47] ++ (T ++ (r)))))))))) := by
    show From s i ([77] ++ (padded 0 mo ++ ([46] ++ (padded 0 wk ++ ([46] ++ (padded 0 d ++ ([47] ++ (T ++ (r)))))))))
    first
      | exact hF
      | (have h0 := hF; simp only [List.append_assoc] at h0 ⊢; exact h0)
  have HN0_74 : Hid (NotAt 74 ([77] ++ (padded 0 mo ++ ([46] ++ (padded 0 wk ++ ([46] ++ (padded 0 d ++ ([47] ++ (T ++ (r)))))))))) := NotAt.cons (by decide)
  obtain ⟨i1, HI1, HF1⟩ : ∃ q, Hid (q = i + 1) ∧ Hid (From s q (padded 0 mo ++ ([46] ++ (padded 0 wk ++ ([46] ++ (padded 0 d ++ ([47] ++ (T ++ (r))))))))) := ⟨_, rfl, HF0.out.one⟩
  have HD1 : Hid (NoDig ([46] ++ (padded 0 wk ++ ([46] ++ (padded 0 d ++ ([47] ++ (T ++ (r)))))))) := NoDig.cons (by decide)
  obtain ⟨i2, HI2, HF2⟩ : ∃ q, Hid (q = i1 + (padded 0 mo).length) ∧ Hid (From s q ([46] ++ (padded 0 wk ++ ([46] ++ (padded 0 d ++ ([47] ++ (T ++ (r)))))))) := ⟨_, rfl, HF1.out.step⟩
  obtain ⟨i3, HI3, HF3⟩ : ∃ q, Hid (q = i2 + 1) ∧ Hid (From s q (padded 0 wk ++ ([46] ++ (padded 0 d ++ ([47] ++ (T ++ (r))))))) := ⟨_, rfl, HF2.out.one⟩
  have HD3 : Hid (NoDig ([46] ++ (padded 0 d ++ ([47] ++ (T ++ (r)))))) := NoDig.cons (by decide)
  obtain ⟨i4, HI4, HF4⟩ : ∃ q, Hid (q = i3 + (padded 0 wk).length) ∧ Hid (From s q ([46] ++ (padded 0 d ++ ([47] ++ (T ++ (r)))))) := ⟨_, rfl, HF3.out.step⟩
  obtain ⟨i5, HI5, HF5⟩ : ∃ q, Hid (q = i4 + 1) ∧ Hid (From s q (padded 0 d ++ ([47] ++ (T ++ (r))))) := ⟨_, rfl, HF4.out.one⟩
  have HD5 : Hid (NoDig ([47] ++ (T ++ (r)))) := NoDig.cons (by decide)
  obtain ⟨i6, HI6, HF6⟩ : ∃ q, Hid (q = i5 + (padded 0 d).length) ∧ Hid (From s q ([47] ++ (T ++ (r)))) := ⟨_, rfl, HF5.out.step⟩
  obtain ⟨i7, HI7, HF7⟩ : ∃ q, Hid (q = i6 + 1) ∧ Hid (From s q (T ++ (r))) := ⟨_, rfl, HF6.out.one⟩
  obtain ⟨i8, HI8⟩ : ∃ q, Hid (q = i7 + T.length) := ⟨_, rfl⟩
  have hE : Hid (i8 = j) := by
    show i8 = j
    rw [hj.out]
    have z1 := HI1.out; have z2 := HI2.out; have z3 := HI3.out; have z4 := HI4.out; have z5 := HI5.out; have z6 := HI6.out; have z7 := HI7.out; have z8 := HI8.out; first | omega | (simp only [List.length_append, List.length_cons, List.length_nil]; omega)
  clear hj hF
  have hR0 := RS.start hr
  unfold ruA at hR0
  clear hr
  go_enter Try.func35, Try.ntmps35
  go_wp2_with fail
  refine (expect_skip _ g s i 74 _ (hR0).rd hs HF0.out HN0_74.out).mono ?_
  rintro e w1 ⟨rfl, hm1⟩
  have hR1 := (hR0).moved hm1
  clear hm1 hR0
  obtain ⟨q0_1, q1_1, q2_1, q3_1, q4_1, qf_1, qs_1⟩ := hR1.facts
  go_wp2_with fail
  refine (expect_take _ g s i 77 _ (hR1).rd hs HF0.out).mono ?_
  rintro e w2 ⟨rfl, hm2⟩
  rw [← HI1.out] at hm2
  have hR2 := (hR1).moved hm2
  clear hm2 hR1 q0_1 q1_1 q2_1 q3_1 q4_1 qf_1 qs_1
  obtain ⟨q0_2, q1_2, q2_2, q3_2, q4_2, qf_2, qs_2⟩ := hR2.facts
  go_wp2_with fail
  refine (number_take _ g s i1 1 12 0 mo _ (hR2.set0 77).rd hs HF1.out HD1.out (by omega) (by omega) (by omega) (by omega)).mono ?_
  rintro e w3 ⟨rfl, hm3⟩
  rw [← HI2.out] at hm3
  have hR3 := (hR2.set0 77).moved hm3
  clear hm3 hR2 q0_2 q1_2 q2_2 q3_2 q4_2 qf_2 qs_2
  obtain ⟨q0_3, q1_3, q2_3, q3_3, q4_3, qf_3, qs_3⟩ := hR3.facts
  go_wp2_with fail
  refine (expect_take _ g s i2 46 _ (hR3.set3 (mo : Int)).rd hs HF2.out).mono ?_
  rintro e w4 ⟨rfl, hm4⟩
  rw [← HI3.out] at hm4
  have hR4 := (hR3.set3 (mo : Int)).moved hm4
  clear hm4 hR3 q0_3 q1_3 q2_3 q3_3 q4_3 qf_3 qs_3
  obtain ⟨q0_4, q1_4, q2_4, q3_4, q4_4, qf_4, qs_4⟩ := hR4.facts
  go_wp2_with fail
  refine (number_take _ g s i3 1 5 0 wk _ (hR4).rd hs HF3.out HD3.out (by omega) (by omega) (by omega) (by omega)).mono ?_
  rintro e w5 ⟨rfl, hm5⟩
  rw [← HI4.out] at hm5
  have hR5 := (hR4).moved hm5
  clear hm5 hR4 q0_4 q1_4 q2_4 q3_4 q4_4 qf_4 qs_4
  obtain ⟨q0_5, q1_5, q2_5, q3_5, q4_5, qf_5, qs_5⟩ := hR5.facts
  go_wp2_with fail
  refine (expect_take _ g s i4 46 _ (hR5.set2 (wk : Int)).rd hs HF4.out).mono ?_
  rintro e w6 ⟨rfl, hm6⟩
  rw [← HI5.out] at hm6
  have hR6 := (hR5.set2 (wk : Int)).moved hm6
  clear hm6 hR5 q0_5 q1_5 q2_5 q3_5 q4_5 qf_5 qs_5
  obtain ⟨q0_6, q1_6, q2_6, q3_6, q4_6, qf_6, qs_6⟩ := hR6.facts
  go_wp2_with fail
  refine (number_take _ g s i5 0 6 0 d _ (hR6).rd hs HF5.out HD5.out (by omega) (by omega) (by omega) (by omega)).mono ?_
  rintro e w7 ⟨rfl, hm7⟩
  rw [← HI6.out] at hm7
  have hR7 := (hR6).moved hm7
  clear hm7 hR6 q0_6 q1_6 q2_6 q3_6 q4_6 qf_6 qs_6
  obtain ⟨q0_7, q1_7, q2_7, q3_7, q4_7, qf_7, qs_7⟩ := hR7.facts
  go_wp2_with fail
  refine (expect_take _ g s i6 47 _ ((hR7.set1 (d : Int)).set4 7200).rd hs HF6.out).mono ?_
  rintro e w8 ⟨rfl, hm8⟩
  rw [← HI7.out] at hm8
  have hR8 := ((hR7.set1 (d : Int)).set4 7200).moved hm8
  clear hm8 hR7 q0_7 q1_7 q2_7 q3_7 q4_7 qf_7 qs_7
  obtain ⟨q0_8, q1_8, q2_8, q3_8, q4_8, qf_8, qs_8⟩ := hR8.facts
  go_wp2_with fail
  refine (H34.out _ i7 i8 HI8.out (hR8).rd HF7.out).mono ?_
  rintro e w9 ⟨rfl, hm9⟩
  have hR9 := (hR8).moved hm9
  clear hm9 hR8 q0_8 q1_8 q2_8 q3_8 q4_8 qf_8 qs_8
  obtain ⟨q0_9, q1_9, q2_9, q3_9, q4_9, qf_9, qs_9⟩ := hR9.facts
  obtain ⟨pf, p0, p1, p2, p3, p4, ps⟩ := hR9.facts2
  go_wp2_with fail
  have hgl : ¬ g = w.heap.size := by have h0 := hR9.lt; omega
  refine bodyPost_ret (v := .tuple #[.agg #[.int .u8 77, .int .i64 (d : Int), .int .i64 (wk : Int), .int .i64 (mo : Int), .int .i64 V], .bool true]) (by simp [results, Try.results35, go_sem, ps, p0, p1, p2, p3, p4]) rfl ⟨rfl, ?_⟩
  rw [← hE.out]
  exact ((((((hR9.set4 V).m2).put (Nat.le_refl _) hgl 0 (.int .u8 77)).put (Nat.le_refl _) hgl 1 (.int .i64 (d : Int))).put (Nat.le_refl _) hgl 2 (.int .i64 (wk : Int))).put (Nat.le_refl _) hgl 3 (.int .i64 (mo : Int))).put (Nat.le_refl _) hgl 4 (.int .i64 V)

set_option maxRecDepth 100000 in
set_option maxHeartbeats 2000000 in
theorem rule_20 (w : World) (g : Nat) (s : ByteArray) (i : Nat) (d : Nat) (r : List UInt8) (hnd : NoDig r) (hns : NotAt 47 r) (j : Nat) (hj : Hid (j = i + ((padded 0 d)).length)) (hr : Rd w g s i) (hs : s.size ≤ 16777216) (hF : From s i ((padded 0 d) ++ r)) (h2 : d ≤ 365) :
    Calls Try.prog 35 #[.pointer (some ⟨g, 0, none⟩)] w fun e w' => e = .returned (.tuple #[.agg #[.int .u8 0, .int .i64 (d : Int), .int .i64 0, .int .i64 0, .int .i64 7200], .bool true]) ∧ Moved2 g s j w w' := by
  have HF0 : Hid (From s i (padded 0 d ++ (r))) := by
    show From s i (padded 0 d ++ (r))
    first
      | exact hF
      | (have h0 := hF; simp only [List.append_assoc] at h0 ⊢; exact h0)
  have HN0_74 : Hid (NotAt 74 (padded 0 d ++ (r))) := notAt_padded 74 (by decide) _ _ _
  have HN0_77 : Hid (NotAt 77 (padded 0 d ++ (r))) := notAt_padded 77 (by decide) _ _ _
  have HD0 : Hid (NoDig (r)) := hnd
  obtain ⟨i1, HI1, HF1⟩ : ∃ q, Hid (q = i + (padded 0 d).length) ∧ Hid (From s q (r)) := ⟨_, rfl, HF0.out.step⟩
  have HN1_47 : Hid (NotAt 47 (r)) := hns
  have hE : Hid (i1 = j) := by
    show i1 = j
    rw [hj.out]
    have z1 := HI1.out; first | omega | (simp only [List.length_append, List.length_cons, List.length_nil]; omega)
  clear hj hF hnd hns
  have hR0 := RS.start hr
  unfold ruA at hR0
  clear hr
  go_enter Try.func35, Try.ntmps35
  go_wp2_with fail
  refine (expect_skip _ g s i 74 _ (hR0).rd hs HF0.out HN0_74.out).mono ?_
  rintro e w1 ⟨rfl, hm1⟩
  have hR1 := (hR0).moved hm1
  clear hm1 hR0
  obtain ⟨q0_1, q1_1, q2_1, q3_1, q4_1, qf_1, qs_1⟩ := hR1.facts
  go_wp2_with fail
  refine (expect_skip _ g s i 77 _ (hR1).rd hs HF0.out HN0_77.out).mono ?_
  rintro e w2 ⟨rfl, hm2⟩
  have hR2 := (hR1).moved hm2
  clear hm2 hR1 q0_1 q1_1 q2_1 q3_1 q4_1 qf_1 qs_1
  obtain ⟨q0_2, q1_2, q2_2, q3_2, q4_2, qf_2, qs_2⟩ := hR2.facts
  go_wp2_with fail
  refine (number_take _ g s i 0 365 0 d _ (hR2).rd hs HF0.out HD0.out (by omega) (by omega) (by omega) (by omega)).mono ?_
  rintro e w3 ⟨rfl, hm3⟩
  rw [← HI1.out] at hm3
  have hR3 := (hR2).moved hm3
  clear hm3 hR2 q0_2 q1_2 q2_2 q3_2 q4_2 qf_2 qs_2
  obtain ⟨q0_3, q1_3, q2_3, q3_3, q4_3, qf_3, qs_3⟩ := hR3.facts
  go_wp2_with fail
  refine (expect_skip _ g s i1 47 _ ((hR3.set1 (d : Int)).set4 7200).rd hs HF1.out HN1_47.out).mono ?_
  rintro e w4 ⟨rfl, hm4⟩
  have hR4 := ((hR3.set1 (d : Int)).set4 7200).moved hm4
  clear hm4 hR3 q0_3 q1_3 q2_3 q3_3 q4_3 qf_3 qs_3
  obtain ⟨q0_4, q1_4, q2_4, q3_4, q4_4, qf_4, qs_4⟩ := hR4.facts
  obtain ⟨pf, p0, p1, p2, p3, p4, ps⟩ := hR4.facts2
  go_wp2_with fail
  have hgl : ¬ g = w.heap.size := by have h0 := hR4.lt; omega
  refine bodyPost_ret (v := .tuple #[.agg #[.int .u8 0, .int .i64 (d : Int), .int .i64 0, .int .i64 0, .int .i64 7200], .bool true]) (by simp [results, Try.results35, go_sem, ps, p0, p1, p2, p3, p4]) rfl ⟨rfl, ?_⟩
  rw [← hE.out]
  exact (((((hR4.m2).put (Nat.le_refl _) hgl 0 (.int .u8 0)).put (Nat.le_refl _) hgl 1 (.int .i64 (d : Int))).put (Nat.le_refl _) hgl 2 (.int .i64 0)).put (Nat.le_refl _) hgl 3 (.int .i64 0)).put (Nat.le_refl _) hgl 4 (.int .i64 7200)

set_option maxRecDepth 100000 in
set_option maxHeartbeats 2000000 in
theorem rule_21 (w : World) (g : Nat) (s : ByteArray) (i : Nat) (d : Nat) (r : List UInt8) (T : List UInt8) (V : Int) (H34 : Hid (∀ (w : World) (i j : Nat), j = i + T.length → Rd w g s i → From s i (T ++ r) → Calls Try.prog 34 #[.pointer (some ⟨g, 0, none⟩)] w fun e w' => e = .returned (.tuple #[.int .i64 V, .bool true]) ∧ Moved g s j w w')) (j : Nat) (hj : Hid (j = i + ((padded 0 d ++ ([47] ++ (T)))).length)) (hr : Rd w g s i) (hs : s.size ≤ 16777216) (hF : From s i ((padded 0 d ++ ([47] ++ (T))) ++ r)) (h2 : d ≤ 365) :
    Calls Try.prog 35 #[.pointer (some ⟨g, 0, none⟩)] w fun e w' => e = .returned (.tuple #[.agg #[.int .u8 0, .int .i64 (d : Int), .int .i64 0, .int .i64 0, .int .i64 V], .bool true]) ∧ Moved2 g s j w w' := by
  have HF0 : Hid (From s i (padded 0 d ++ ([47] ++ (T ++ (r))))) := by
    show From s i (padded 0 d ++ ([47] ++ (T ++ (r))))
    first
      | exact hF
      | (have h0 := hF; simp only [List.append_assoc] at h0 ⊢; exact h0)
  have HN0_74 : Hid (NotAt 74 (padded 0 d ++ ([47] ++ (T ++ (r))))) := notAt_padded 74 (by decide) _ _ _
  have HN0_77 : Hid (NotAt 77 (padded 0 d ++ ([47] ++ (T ++ (r))))) := notAt_padded 77 (by decide) _ _ _
  have HD0 : Hid (NoDig ([47] ++ (T ++ (r)))) := NoDig.cons (by decide)
  obtain ⟨i1, HI1, HF1⟩ : ∃ q, Hid (q = i + (padded 0 d).length) ∧ Hid (From s q ([47] ++ (T ++ (r)))) := ⟨_, rfl, HF0.out.step⟩
  obtain ⟨i2, HI2, HF2⟩ : ∃ q, Hid (q = i1 + 1) ∧ Hid (From s q (T ++ (r))) := ⟨_, rfl, HF1.out.one⟩
  obtain ⟨i3, HI3⟩ : ∃ q, Hid (q = i2 + T.length) := ⟨_, rfl⟩
  have hE : Hid (i3 = j) := by
    show i3 = j
    rw [hj.out]
    have z1 := HI1.out; have z2 := HI2.out; have z3 := HI3.out; first | omega | (simp only [List.length_append, List.length_cons, List.length_nil]; omega)
  clear hj hF
  have hR0 := RS.start hr
  unfold ruA at hR0
  clear hr
  go_enter Try.func35, Try.ntmps35
  go_wp2_with fail
  refine (expect_skip _ g s i 74 _ (hR0).rd hs HF0.out HN0_74.out).mono ?_
  rintro e w1 ⟨rfl, hm1⟩
  have hR1 := (hR0).moved hm1
  clear hm1 hR0
  obtain ⟨q0_1, q1_1, q2_1, q3_1, q4_1, qf_1, qs_1⟩ := hR1.facts
  go_wp2_with fail
  refine (expect_skip _ g s i 77 _ (hR1).rd hs HF0.out HN0_77.out).mono ?_
  rintro e w2 ⟨rfl, hm2⟩
  have hR2 := (hR1).moved hm2
  clear hm2 hR1 q0_1 q1_1 q2_1 q3_1 q4_1 qf_1 qs_1
  obtain ⟨q0_2, q1_2, q2_2, q3_2, q4_2, qf_2, qs_2⟩ := hR2.facts
  go_wp2_with fail
  refine (number_take _ g s i 0 365 0 d _ (hR2).rd hs HF0.out HD0.out (by omega) (by omega) (by omega) (by omega)).mono ?_
  rintro e w3 ⟨rfl, hm3⟩
  rw [← HI1.out] at hm3
  have hR3 := (hR2).moved hm3
  clear hm3 hR2 q0_2 q1_2 q2_2 q3_2 q4_2 qf_2 qs_2
  obtain ⟨q0_3, q1_3, q2_3, q3_3, q4_3, qf_3, qs_3⟩ := hR3.facts
  go_wp2_with fail
  refine (expect_take _ g s i1 47 _ ((hR3.set1 (d : Int)).set4 7200).rd hs HF1.out).mono ?_
  rintro e w4 ⟨rfl, hm4⟩
  rw [← HI2.out] at hm4
  have hR4 := ((hR3.set1 (d : Int)).set4 7200).moved hm4
  clear hm4 hR3 q0_3 q1_3 q2_3 q3_3 q4_3 qf_3 qs_3
  obtain ⟨q0_4, q1_4, q2_4, q3_4, q4_4, qf_4, qs_4⟩ := hR4.facts
  go_wp2_with fail
  refine (H34.out _ i2 i3 HI3.out (hR4).rd HF2.out).mono ?_
  rintro e w5 ⟨rfl, hm5⟩
  have hR5 := (hR4).moved hm5
  clear hm5 hR4 q0_4 q1_4 q2_4 q3_4 q4_4 qf_4 qs_4
  obtain ⟨q0_5, q1_5, q2_5, q3_5, q4_5, qf_5, qs_5⟩ := hR5.facts
  obtain ⟨pf, p0, p1, p2, p3, p4, ps⟩ := hR5.facts2
  go_wp2_with fail
  have hgl : ¬ g = w.heap.size := by have h0 := hR5.lt; omega
  refine bodyPost_ret (v := .tuple #[.agg #[.int .u8 0, .int .i64 (d : Int), .int .i64 0, .int .i64 0, .int .i64 V], .bool true]) (by simp [results, Try.results35, go_sem, ps, p0, p1, p2, p3, p4]) rfl ⟨rfl, ?_⟩
  rw [← hE.out]
  exact ((((((hR5.set4 V).m2).put (Nat.le_refl _) hgl 0 (.int .u8 0)).put (Nat.le_refl _) hgl 1 (.int .i64 (d : Int))).put (Nat.le_refl _) hgl 2 (.int .i64 0)).put (Nat.le_refl _) hgl 3 (.int .i64 0)).put (Nat.le_refl _) hgl 4 (.int .i64 V)
end Go.Proofs.Qxb6600050a
