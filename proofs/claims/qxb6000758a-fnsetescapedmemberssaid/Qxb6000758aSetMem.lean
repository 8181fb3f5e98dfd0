/-
  WildcardMode.set (31) at a text '[\\x1..\\xk]..' ('[^\\x1..\\xk]..'), walked.
-/
import Derived.Test.Qxb6000758aSetSet
namespace Go.Proofs.Qxb6000758a
open Go.RowKit

/-- The bytes that the first j members match. -/
def memS (f : Bool) (m : Nat → Nat) : Nat → Nat → Bool
  | 0 => Cls.none
  | j + 1 => Cls.union (memS f m j) (litS f (m j))

/-- The shape of the text: from place o on M escaped members, then the closing bracket. -/
structure MemTxt (s : ByteArray) (o M : Nat) (m : Nat → Nat) : Prop where
  esc : ∀ j, j < M → byteAt s (o + 2 * j) = 92
  mem : ∀ j, j < M → byteAt s (o + 2 * j + 1) = ((m j : Nat) : Int)
  lt : ∀ j, j < M → m j < 256
  close : byteAt s (o + 2 * M) = 93
  size : o + 2 * M < s.size
  pos : 0 < M

set_option maxRecDepth 100000 in
set_option maxHeartbeats 4000000 in
theorem set_mem_00 (s : ByteArray) (w : World) (f : Bool) (M : Nat) (m : Nat → Nat) (h1 : 1 < s.size) (h2 : s.size ≤ 16777216) (b1 : ((s[1]'h1).toNat : Int) = 92) (mt : Hid (MemTxt s 1 M m))  :
    Calls Try.prog 31 #[.agg #[.bool f, .bool false, .bool false], .string s] w fun e w' => e = .returned (.tuple #[.agg (clsA (wildS false (memS f m M))), .int .i64 ((1 + 2 * M + 1 : Nat) : Int), .int .i64 0]) ∧ Below w.heap.size w w' := by
  have hst0 := ST.start w f false false
  unfold modeA at hst0
  have hsz := mt.out.size
  have hpos := mt.out.pos
  have h1i : (1 : Int) < (s.size : Int) := by omega
  go_enter Try.func31, Try.ntmps31
  go_wp2_with fail
  go_loopg [7, 9] (M + 1) (fun n iv fv wr => ∃ (j q : Nat) (b : Bool), n = M - j + 1 ∧ j ≤ M ∧ Hid (q = 1 + 2 * j) ∧ Hid (0 < j → b = false) ∧ iv = .int .i64 q ∧ fv = .bool b ∧ ST f false false w wr (memS f m j))
  case atStart => exact ⟨0, 1, true, by omega, by omega, rfl, (fun h => by omega), rfl, rfl, hst0⟩
  case round =>
    obtain ⟨j, q, b, rfl, hj, HQ, HB, rfl, rfl, hst⟩ := hrel
    clear hst0
    have hq := HQ.out
    have hqs : q < s.size := by omega
    have m0 := hst.m0
    have m1 := hst.m1
    have m2 := hst.m2
    have k0 := hst.cls.cell 0 (by omega)
    have k1 := hst.cls.cell 1 (by omega)
    have k2 := hst.cls.cell 2 (by omega)
    have k3 := hst.cls.cell 3 (by omega)
    have kf := hst.cls.free
    by_cases hjM : j < M
    · have hjM2 : j < M := by omega
      have hq1 : q + 1 < s.size := by omega
      have hq2 : q + 2 < s.size := by omega
      have e0 := mt.out.esc j hjM2
      have e1 := mt.out.mem j hjM2
      have hmj := mt.out.lt j hjM2
      have e2 : ¬ byteAt s (q + 2) = 45 := by
        by_cases hl : j + 1 < M
        · have := mt.out.esc (j + 1) hl
          rw [show 1 + 2 * (j + 1) = q + 2 by omega] at this; omega
        · have := mt.out.close
          rw [show 1 + 2 * M = q + 2 by omega] at this; omega
      rw [← hq, ← byteAt_get s q hqs] at e0
      rw [← hq, ← byteAt_get s (q + 1) hq1] at e1
      have e2b : (((s[q + 2]'hq2).toNat : Int) == 45) = false := by rw [byteAt_get s (q + 2) hq2]; exact beq_eq_false_iff_ne.2 e2
      clear e2 hq
      have HS : Hid (MemTxt s 1 M m) := mt
      have hqe : ((q : Int) + 1 == (s.size : Int)) = false := beq_eq_false_iff_ne.2 (by omega)
      by_cases hlong : q + 3 < s.size
      all_goals
        go_upto_region 25 with fail
        go_cut [7, 9, 10] (fun iv _ _ wc => iv = .int .i64 ((q + 1 : Nat) : Int) ∧ ST f false false w wc (memS f m (j + 1)))
        case first =>
          go_region_with (first | (go_at_call 38; refine (literal_out _ f false false (m j) hmj).mono ?_; rintro e w1 ⟨rfl, hb1⟩; have hst1 := hst.drew.kept hb1; have q0 := hst1.cls.cell 0 (by omega); have q1 := hst1.cls.cell 1 (by omega); have q2 := hst1.cls.cell 2 (by omega); have q3 := hst1.cls.cell 3 (by omega)) | (go_at_call 37; refine (union_out _ (memS f m j) (litS f (m j))).mono ?_; rintro e w2 ⟨rfl, hb2⟩; have hst2 := hst1.kept hb2; have t0 := hst2.cls.cell 0 (by omega); have t1 := hst2.cls.cell 1 (by omega); have t2 := hst2.cls.cell 2 (by omega); have t3 := hst2.cls.cell 3 (by omega); have tf := hst2.cls.free))
          all_goals
            have hst3 := hst2.store4 (Cls.union (memS f m j) (litS f (m j)))
            clear hst hst1 hst2 hb1 hb2 q0 q1 q2 q3 t0 t1 t2 t3 tf k0 k1 k2 k3 kf m0 m1 m2
            go_wp2
            go_meet
            case rel => exact ⟨by go_num, hst3⟩
        case rest =>
          obtain ⟨rfl, hst3⟩ := hcut
          clear hst k0 k1 k2 k3 kf m0 m1 m2
          go_wp2_with fail
          go_roundg (M - (j + 1) + 1)
          case rel => exact ⟨j + 1, q + 2, false, rfl, by omega, (by have := HQ.out; show _ = _; omega), (fun _ => rfl), by go_num, rfl, hst3⟩
          case measure => omega
    · have hjM3 : j = M := by omega
      subst hjM3
      have hb0 := HB.out hpos
      subst hb0
      have e0 := mt.out.close
      rw [← hq, ← byteAt_get s q hqs] at e0
      clear hq hjM
      go_wp2_with (go_at_call 35; refine (wild_out _ f false false (memS f m j)).mono ?_; rintro e w4 ⟨rfl, hb4⟩; have hst4 := hst.kept hb4; have t0 := hst4.cls.cell 0 (by omega); have t1 := hst4.cls.cell 1 (by omega); have t2 := hst4.cls.cell 2 (by omega); have t3 := hst4.cls.cell 3 (by omega); have tf := hst4.cls.free)
      refine bodyPost_ret (v := .tuple #[.agg (clsA (wildS false (memS f m j))), .int .i64 ((q + 1 : Nat) : Int), .int .i64 0]) (by simp [results, Try.results31, go_sem, clsA, t0, t1, t2, t3]) rfl ⟨?_, ?_⟩
      · rw [HQ.out]
      · exact (((hst4.below.setCell (by simp) _).setCell (by simp) _).setCell (by simp) _).setCell (by simp) _

set_option maxRecDepth 100000 in
set_option maxHeartbeats 4000000 in
theorem set_mem_01 (s : ByteArray) (w : World) (f : Bool) (M : Nat) (m : Nat → Nat) (h1 : 1 < s.size) (h2 : s.size ≤ 16777216) (b1 : ((s[1]'h1).toNat : Int) = 92) (mt : Hid (MemTxt s 1 M m)) (J : Nat) (hJ : J ≤ M) (hgo : Hid (∀ j, j < J → ¬ m j = 47)) (hend : Hid (J < M → m J = 47)) :
    Calls Try.prog 31 #[.agg #[.bool f, .bool true, .bool false], .string s] w fun e w' => e = .returned (if J < M then .tuple #[.agg #[.int .u64 0, .int .u64 0, .int .u64 0, .int .u64 0], .int .i64 0, .int .i64 ((1 + 2 * J + 1 : Nat) : Int)] else .tuple #[.agg (clsA (wildS true (memS f m M))), .int .i64 ((1 + 2 * M + 1 : Nat) : Int), .int .i64 0]) ∧ Below w.heap.size w w' := by
  have hst0 := ST.start w f true false
  unfold modeA at hst0
  have hsz := mt.out.size
  have hpos := mt.out.pos
  have h1i : (1 : Int) < (s.size : Int) := by omega
  go_enter Try.func31, Try.ntmps31
  go_wp2_with fail
  go_loopg [7, 9] (M + 1) (fun n iv fv wr => ∃ (j q : Nat) (b : Bool), n = M - j + 1 ∧ j ≤ J ∧ Hid (q = 1 + 2 * j) ∧ Hid (0 < j → b = false) ∧ iv = .int .i64 q ∧ fv = .bool b ∧ ST f true false w wr (memS f m j))
  case atStart => exact ⟨0, 1, true, by omega, by omega, rfl, (fun h => by omega), rfl, rfl, hst0⟩
  case round =>
    obtain ⟨j, q, b, rfl, hj, HQ, HB, rfl, rfl, hst⟩ := hrel
    clear hst0
    have hq := HQ.out
    have hqs : q < s.size := by omega
    have m0 := hst.m0
    have m1 := hst.m1
    have m2 := hst.m2
    have k0 := hst.cls.cell 0 (by omega)
    have k1 := hst.cls.cell 1 (by omega)
    have k2 := hst.cls.cell 2 (by omega)
    have k3 := hst.cls.cell 3 (by omega)
    have kf := hst.cls.free
    by_cases hjM : j < J
    · have hjM2 : j < M := by omega
      have hq1 : q + 1 < s.size := by omega
      have hq2 : q + 2 < s.size := by omega
      have e0 := mt.out.esc j hjM2
      have e1 := mt.out.mem j hjM2
      have hmj := mt.out.lt j hjM2
      have e2 : ¬ byteAt s (q + 2) = 45 := by
        by_cases hl : j + 1 < M
        · have := mt.out.esc (j + 1) hl
          rw [show 1 + 2 * (j + 1) = q + 2 by omega] at this; omega
        · have := mt.out.close
          rw [show 1 + 2 * M = q + 2 by omega] at this; omega
      rw [← hq, ← byteAt_get s q hqs] at e0
      rw [← hq, ← byteAt_get s (q + 1) hq1] at e1
      have e2b : (((s[q + 2]'hq2).toNat : Int) == 45) = false := by rw [byteAt_get s (q + 2) hq2]; exact beq_eq_false_iff_ne.2 e2
      clear e2 hq
      have h47 : ((m j : Int) == 47) = false := beq_eq_false_iff_ne.2 (by have := hgo.out j hjM; omega)
      have HS : Hid (MemTxt s 1 M m) := mt
      have hqe : ((q : Int) + 1 == (s.size : Int)) = false := beq_eq_false_iff_ne.2 (by omega)
      by_cases hlong : q + 3 < s.size
      all_goals
        go_upto_region 25 with fail
        go_cut [7, 9, 10] (fun iv _ _ wc => iv = .int .i64 ((q + 1 : Nat) : Int) ∧ ST f true false w wc (memS f m (j + 1)))
        case first =>
          go_region_with (first | (go_at_call 38; refine (literal_out _ f true false (m j) hmj).mono ?_; rintro e w1 ⟨rfl, hb1⟩; have hst1 := hst.drew.kept hb1; have q0 := hst1.cls.cell 0 (by omega); have q1 := hst1.cls.cell 1 (by omega); have q2 := hst1.cls.cell 2 (by omega); have q3 := hst1.cls.cell 3 (by omega)) | (go_at_call 37; refine (union_out _ (memS f m j) (litS f (m j))).mono ?_; rintro e w2 ⟨rfl, hb2⟩; have hst2 := hst1.kept hb2; have t0 := hst2.cls.cell 0 (by omega); have t1 := hst2.cls.cell 1 (by omega); have t2 := hst2.cls.cell 2 (by omega); have t3 := hst2.cls.cell 3 (by omega); have tf := hst2.cls.free))
          all_goals
            have hst3 := hst2.store4 (Cls.union (memS f m j) (litS f (m j)))
            clear hst hst1 hst2 hb1 hb2 q0 q1 q2 q3 t0 t1 t2 t3 tf k0 k1 k2 k3 kf m0 m1 m2
            go_wp2
            go_meet
            case rel => exact ⟨by go_num, hst3⟩
        case rest =>
          obtain ⟨rfl, hst3⟩ := hcut
          clear hst k0 k1 k2 k3 kf m0 m1 m2
          go_wp2_with fail
          go_roundg (M - (j + 1) + 1)
          case rel => exact ⟨j + 1, q + 2, false, rfl, by omega, (by have := HQ.out; show _ = _; omega), (fun _ => rfl), by go_num, rfl, hst3⟩
          case measure => omega
    · have hjJ : j = J := by omega
      subst hjJ
      by_cases hend2 : j < M
      · have HE2 : Hid (j < M) := hend2
        have hq1 : q + 1 < s.size := by omega
        have e0 := mt.out.esc j hend2
        have e1 := mt.out.mem j hend2
        have h47 := hend.out hend2
        rw [← hq, ← byteAt_get s q hqs] at e0
        rw [← hq, ← byteAt_get s (q + 1) hq1, h47] at e1
        have hqe : ((q : Int) + 1 == (s.size : Int)) = false := beq_eq_false_iff_ne.2 (by omega)
        have hbel := hst.below
        clear hq hst h47 hjM
        go_wp2_with fail
        refine bodyPost_ret (v := .tuple #[.agg #[.int .u64 0, .int .u64 0, .int .u64 0, .int .u64 0], .int .i64 0, .int .i64 ((q + 1 : Nat) : Int)]) (by simp [results, Try.results31, go_sem, k0, k1, k2, k3]) rfl ⟨?_, ?_⟩
        · rw [HQ.out]; first | (rw [if_pos HE2.out]; done) | (simp; done)
        · exact (((hbel.setCell (by simp) _).setCell (by simp) _).setCell (by simp) _).setCell (by simp) _
      · have hjM3 : j = M := by omega
        subst hjM3
        have hb0 := HB.out hpos
        subst hb0
        have e0 := mt.out.close
        rw [← hq, ← byteAt_get s q hqs] at e0
        clear hq hjM hend2
        go_wp2_with (go_at_call 35; refine (wild_out _ f true false (memS f m j)).mono ?_; rintro e w4 ⟨rfl, hb4⟩; have hst4 := hst.kept hb4; have t0 := hst4.cls.cell 0 (by omega); have t1 := hst4.cls.cell 1 (by omega); have t2 := hst4.cls.cell 2 (by omega); have t3 := hst4.cls.cell 3 (by omega); have tf := hst4.cls.free)
        refine bodyPost_ret (v := .tuple #[.agg (clsA (wildS true (memS f m j))), .int .i64 ((q + 1 : Nat) : Int), .int .i64 0]) (by simp [results, Try.results31, go_sem, clsA, t0, t1, t2, t3]) rfl ⟨?_, ?_⟩
        · rw [HQ.out]; first | (rw [if_neg (Nat.lt_irrefl _)]; done) | (simp; done)
        · exact (((hst4.below.setCell (by simp) _).setCell (by simp) _).setCell (by simp) _).setCell (by simp) _

set_option maxRecDepth 100000 in
set_option maxHeartbeats 4000000 in
theorem set_mem_10 (s : ByteArray) (w : World) (f : Bool) (M : Nat) (m : Nat → Nat) (h1 : 1 < s.size) (h2 : s.size ≤ 16777216) (b1 : ((s[1]'h1).toNat : Int) = 94) (mt : Hid (MemTxt s 2 M m))  :
    Calls Try.prog 31 #[.agg #[.bool f, .bool false, .bool false], .string s] w fun e w' => e = .returned (.tuple #[.agg (clsA (wildS false (Cls.compl (memS f m M)))), .int .i64 ((2 + 2 * M + 1 : Nat) : Int), .int .i64 0]) ∧ Below w.heap.size w w' := by
  have hst0 := ST.start w f false false
  unfold modeA at hst0
  have hsz := mt.out.size
  have hpos := mt.out.pos
  have h1i : (1 : Int) < (s.size : Int) := by omega
  go_enter Try.func31, Try.ntmps31
  go_wp2_with fail
  go_loopg [7, 9] (M + 1) (fun n iv fv wr => ∃ (j q : Nat) (b : Bool), n = M - j + 1 ∧ j ≤ M ∧ Hid (q = 2 + 2 * j) ∧ Hid (0 < j → b = false) ∧ iv = .int .i64 q ∧ fv = .bool b ∧ ST f false false w wr (memS f m j))
  case atStart => exact ⟨0, 2, true, by omega, by omega, rfl, (fun h => by omega), rfl, rfl, hst0⟩
  case round =>
    obtain ⟨j, q, b, rfl, hj, HQ, HB, rfl, rfl, hst⟩ := hrel
    clear hst0
    have hq := HQ.out
    have hqs : q < s.size := by omega
    have m0 := hst.m0
    have m1 := hst.m1
    have m2 := hst.m2
    have k0 := hst.cls.cell 0 (by omega)
    have k1 := hst.cls.cell 1 (by omega)
    have k2 := hst.cls.cell 2 (by omega)
    have k3 := hst.cls.cell 3 (by omega)
    have kf := hst.cls.free
    by_cases hjM : j < M
    · have hjM2 : j < M := by omega
      have hq1 : q + 1 < s.size := by omega
      have hq2 : q + 2 < s.size := by omega
      have e0 := mt.out.esc j hjM2
      have e1 := mt.out.mem j hjM2
      have hmj := mt.out.lt j hjM2
      have e2 : ¬ byteAt s (q + 2) = 45 := by
        by_cases hl : j + 1 < M
        · have := mt.out.esc (j + 1) hl
          rw [show 2 + 2 * (j + 1) = q + 2 by omega] at this; omega
        · have := mt.out.close
          rw [show 2 + 2 * M = q + 2 by omega] at this; omega
      rw [← hq, ← byteAt_get s q hqs] at e0
      rw [← hq, ← byteAt_get s (q + 1) hq1] at e1
      have e2b : (((s[q + 2]'hq2).toNat : Int) == 45) = false := by rw [byteAt_get s (q + 2) hq2]; exact beq_eq_false_iff_ne.2 e2
      clear e2 hq
      have HS : Hid (MemTxt s 2 M m) := mt
      have hqe : ((q : Int) + 1 == (s.size : Int)) = false := beq_eq_false_iff_ne.2 (by omega)
      by_cases hlong : q + 3 < s.size
      all_goals
        go_upto_region 25 with fail
        go_cut [7, 9, 10] (fun iv _ _ wc => iv = .int .i64 ((q + 1 : Nat) : Int) ∧ ST f false false w wc (memS f m (j + 1)))
        case first =>
          go_region_with (first | (go_at_call 38; refine (literal_out _ f false false (m j) hmj).mono ?_; rintro e w1 ⟨rfl, hb1⟩; have hst1 := hst.drew.kept hb1; have q0 := hst1.cls.cell 0 (by omega); have q1 := hst1.cls.cell 1 (by omega); have q2 := hst1.cls.cell 2 (by omega); have q3 := hst1.cls.cell 3 (by omega)) | (go_at_call 37; refine (union_out _ (memS f m j) (litS f (m j))).mono ?_; rintro e w2 ⟨rfl, hb2⟩; have hst2 := hst1.kept hb2; have t0 := hst2.cls.cell 0 (by omega); have t1 := hst2.cls.cell 1 (by omega); have t2 := hst2.cls.cell 2 (by omega); have t3 := hst2.cls.cell 3 (by omega); have tf := hst2.cls.free))
          all_goals
            have hst3 := hst2.store4 (Cls.union (memS f m j) (litS f (m j)))
            clear hst hst1 hst2 hb1 hb2 q0 q1 q2 q3 t0 t1 t2 t3 tf k0 k1 k2 k3 kf m0 m1 m2
            go_wp2
            go_meet
            case rel => exact ⟨by go_num, hst3⟩
        case rest =>
          obtain ⟨rfl, hst3⟩ := hcut
          clear hst k0 k1 k2 k3 kf m0 m1 m2
          go_wp2_with fail
          go_roundg (M - (j + 1) + 1)
          case rel => exact ⟨j + 1, q + 2, false, rfl, by omega, (by have := HQ.out; show _ = _; omega), (fun _ => rfl), by go_num, rfl, hst3⟩
          case measure => omega
    · have hjM3 : j = M := by omega
      subst hjM3
      have hb0 := HB.out hpos
      subst hb0
      have e0 := mt.out.close
      rw [← hq, ← byteAt_get s q hqs] at e0
      clear hq hjM
      go_wp2_with (go_at_call 34; refine (compl_out _ (memS f m j)).mono ?_; rintro e w3 ⟨rfl, hb3⟩; have hst3 := hst.kept hb3; have r0 := hst3.cls.cell 0 (by omega); have r1 := hst3.cls.cell 1 (by omega); have r2 := hst3.cls.cell 2 (by omega); have r3 := hst3.cls.cell 3 (by omega); have rf := hst3.cls.free; have n0 := hst3.m0; have n1 := hst3.m1; have n2 := hst3.m2)
      have hstC := hst3.store4 (Cls.compl (memS f m j))
      refine (wild_out _ f false false (Cls.compl (memS f m j))).mono ?_
      rintro e w4 ⟨rfl, hb4⟩
      have hst4 := hstC.kept hb4
      have t0 := hst4.cls.cell 0 (by omega)
      have t1 := hst4.cls.cell 1 (by omega)
      have t2 := hst4.cls.cell 2 (by omega)
      have t3 := hst4.cls.cell 3 (by omega)
      have tf := hst4.cls.free
      clear hstC hst3 r0 r1 r2 r3 rf n0 n1 n2 k0 k1 k2 k3 kf m0 m1 m2 hb4 hb3
      go_wp2_with fail
      refine bodyPost_ret (v := .tuple #[.agg (clsA (wildS false (Cls.compl (memS f m j)))), .int .i64 ((q + 1 : Nat) : Int), .int .i64 0]) (by simp [results, Try.results31, go_sem, clsA, t0, t1, t2, t3]) rfl ⟨?_, ?_⟩
      · rw [HQ.out]
      · exact (((hst4.below.setCell (by simp) _).setCell (by simp) _).setCell (by simp) _).setCell (by simp) _

set_option maxRecDepth 100000 in
set_option maxHeartbeats 4000000 in
theorem set_mem_11 (s : ByteArray) (w : World) (f : Bool) (M : Nat) (m : Nat → Nat) (h1 : 1 < s.size) (h2 : s.size ≤ 16777216) (b1 : ((s[1]'h1).toNat : Int) = 94) (mt : Hid (MemTxt s 2 M m)) (J : Nat) (hJ : J ≤ M) (hgo : Hid (∀ j, j < J → ¬ m j = 47)) (hend : Hid (J < M → m J = 47)) :
    Calls Try.prog 31 #[.agg #[.bool f, .bool true, .bool false], .string s] w fun e w' => e = .returned (if J < M then .tuple #[.agg #[.int .u64 0, .int .u64 0, .int .u64 0, .int .u64 0], .int .i64 0, .int .i64 ((2 + 2 * J + 1 : Nat) : Int)] else .tuple #[.agg (clsA (wildS true (Cls.compl (memS f m M)))), .int .i64 ((2 + 2 * M + 1 : Nat) : Int), .int .i64 0]) ∧ Below w.heap.size w w' := by
  have hst0 := ST.start w f true false
  unfold modeA at hst0
  have hsz := mt.out.size
  have hpos := mt.out.pos
  have h1i : (1 : Int) < (s.size : Int) := by omega
  go_enter Try.func31, Try.ntmps31
  go_wp2_with fail
  go_loopg [7, 9] (M + 1) (fun n iv fv wr => ∃ (j q : Nat) (b : Bool), n = M - j + 1 ∧ j ≤ J ∧ Hid (q = 2 + 2 * j) ∧ Hid (0 < j → b = false) ∧ iv = .int .i64 q ∧ fv = .bool b ∧ ST f true false w wr (memS f m j))
  case atStart => exact ⟨0, 2, true, by omega, by omega, rfl, (fun h => by omega), rfl, rfl, hst0⟩
  case round =>
    obtain ⟨j, q, b, rfl, hj, HQ, HB, rfl, rfl, hst⟩ := hrel
    clear hst0
    have hq := HQ.out
    have hqs : q < s.size := by omega
    have m0 := hst.m0
    have m1 := hst.m1
    have m2 := hst.m2
    have k0 := hst.cls.cell 0 (by omega)
    have k1 := hst.cls.cell 1 (by omega)
    have k2 := hst.cls.cell 2 (by omega)
    have k3 := hst.cls.cell 3 (by omega)
    have kf := hst.cls.free
    by_cases hjM : j < J
    · have hjM2 : j < M := by omega
      have hq1 : q + 1 < s.size := by omega
      have hq2 : q + 2 < s.size := by omega
      have e0 := mt.out.esc j hjM2
      have e1 := mt.out.mem j hjM2
      have hmj := mt.out.lt j hjM2
      have e2 : ¬ byteAt s (q + 2) = 45 := by
        by_cases hl : j + 1 < M
        · have := mt.out.esc (j + 1) hl
          rw [show 2 + 2 * (j + 1) = q + 2 by omega] at this; omega
        · have := mt.out.close
          rw [show 2 + 2 * M = q + 2 by omega] at this; omega
      rw [← hq, ← byteAt_get s q hqs] at e0
      rw [← hq, ← byteAt_get s (q + 1) hq1] at e1
      have e2b : (((s[q + 2]'hq2).toNat : Int) == 45) = false := by rw [byteAt_get s (q + 2) hq2]; exact beq_eq_false_iff_ne.2 e2
      clear e2 hq
      have h47 : ((m j : Int) == 47) = false := beq_eq_false_iff_ne.2 (by have := hgo.out j hjM; omega)
      have HS : Hid (MemTxt s 2 M m) := mt
      have hqe : ((q : Int) + 1 == (s.size : Int)) = false := beq_eq_false_iff_ne.2 (by omega)
      by_cases hlong : q + 3 < s.size
      all_goals
        go_upto_region 25 with fail
        go_cut [7, 9, 10] (fun iv _ _ wc => iv = .int .i64 ((q + 1 : Nat) : Int) ∧ ST f true false w wc (memS f m (j + 1)))
        case first =>
          go_region_with (first | (go_at_call 38; refine (literal_out _ f true false (m j) hmj).mono ?_; rintro e w1 ⟨rfl, hb1⟩; have hst1 := hst.drew.kept hb1; have q0 := hst1.cls.cell 0 (by omega); have q1 := hst1.cls.cell 1 (by omega); have q2 := hst1.cls.cell 2 (by omega); have q3 := hst1.cls.cell 3 (by omega)) | (go_at_call 37; refine (union_out _ (memS f m j) (litS f (m j))).mono ?_; rintro e w2 ⟨rfl, hb2⟩; have hst2 := hst1.kept hb2; have t0 := hst2.cls.cell 0 (by omega); have t1 := hst2.cls.cell 1 (by omega); have t2 := hst2.cls.cell 2 (by omega); have t3 := hst2.cls.cell 3 (by omega); have tf := hst2.cls.free))
          all_goals
            have hst3 := hst2.store4 (Cls.union (memS f m j) (litS f (m j)))
            clear hst hst1 hst2 hb1 hb2 q0 q1 q2 q3 t0 t1 t2 t3 tf k0 k1 k2 k3 kf m0 m1 m2
            go_wp2
            go_meet
            case rel => exact ⟨by go_num, hst3⟩
        case rest =>
          obtain ⟨rfl, hst3⟩ := hcut
          clear hst k0 k1 k2 k3 kf m0 m1 m2
          go_wp2_with fail
          go_roundg (M - (j + 1) + 1)
          case rel => exact ⟨j + 1, q + 2, false, rfl, by omega, (by have := HQ.out; show _ = _; omega), (fun _ => rfl), by go_num, rfl, hst3⟩
          case measure => omega
    · have hjJ : j = J := by omega
      subst hjJ
      by_cases hend2 : j < M
      · have HE2 : Hid (j < M) := hend2
        have hq1 : q + 1 < s.size := by omega
        have e0 := mt.out.esc j hend2
        have e1 := mt.out.mem j hend2
        have h47 := hend.out hend2
        rw [← hq, ← byteAt_get s q hqs] at e0
        rw [← hq, ← byteAt_get s (q + 1) hq1, h47] at e1
        have hqe : ((q : Int) + 1 == (s.size : Int)) = false := beq_eq_false_iff_ne.2 (by omega)
        have hbel := hst.below
        clear hq hst h47 hjM
        go_wp2_with fail
        refine bodyPost_ret (v := .tuple #[.agg #[.int .u64 0, .int .u64 0, .int .u64 0, .int .u64 0], .int .i64 0, .int .i64 ((q + 1 : Nat) : Int)]) (by simp [results, Try.results31, go_sem, k0, k1, k2, k3]) rfl ⟨?_, ?_⟩
        · rw [HQ.out]; first | (rw [if_pos HE2.out]; done) | (simp; done)
        · exact (((hbel.setCell (by simp) _).setCell (by simp) _).setCell (by simp) _).setCell (by simp) _
      · have hjM3 : j = M := by omega
        subst hjM3
        have hb0 := HB.out hpos
        subst hb0
        have e0 := mt.out.close
        rw [← hq, ← byteAt_get s q hqs] at e0
        clear hq hjM hend2
        go_wp2_with (go_at_call 34; refine (compl_out _ (memS f m j)).mono ?_; rintro e w3 ⟨rfl, hb3⟩; have hst3 := hst.kept hb3; have r0 := hst3.cls.cell 0 (by omega); have r1 := hst3.cls.cell 1 (by omega); have r2 := hst3.cls.cell 2 (by omega); have r3 := hst3.cls.cell 3 (by omega); have rf := hst3.cls.free; have n0 := hst3.m0; have n1 := hst3.m1; have n2 := hst3.m2)
        have hstC := hst3.store4 (Cls.compl (memS f m j))
        refine (wild_out _ f true false (Cls.compl (memS f m j))).mono ?_
        rintro e w4 ⟨rfl, hb4⟩
        have hst4 := hstC.kept hb4
        have t0 := hst4.cls.cell 0 (by omega)
        have t1 := hst4.cls.cell 1 (by omega)
        have t2 := hst4.cls.cell 2 (by omega)
        have t3 := hst4.cls.cell 3 (by omega)
        have tf := hst4.cls.free
        clear hstC hst3 r0 r1 r2 r3 rf n0 n1 n2 k0 k1 k2 k3 kf m0 m1 m2 hb4 hb3
        go_wp2_with fail
        refine bodyPost_ret (v := .tuple #[.agg (clsA (wildS true (Cls.compl (memS f m j)))), .int .i64 ((q + 1 : Nat) : Int), .int .i64 0]) (by simp [results, Try.results31, go_sem, clsA, t0, t1, t2, t3]) rfl ⟨?_, ?_⟩
        · rw [HQ.out]; first | (rw [if_neg (Nat.lt_irrefl _)]; done) | (simp; done)
        · exact (((hst4.below.setCell (by simp) _).setCell (by simp) _).setCell (by simp) _).setCell (by simp) _

end Go.Proofs.Qxb6000758a
