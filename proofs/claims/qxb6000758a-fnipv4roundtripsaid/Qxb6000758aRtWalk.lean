/-
  The walk of lawAppendDecimal (11) and of FnIPv4RoundTrip (3).
-/
import Derived.Test.Qxb6000758aIpTop
import Derived.Test.Qxb6000758aBuf
import Derived.Test.Qxb6000758aRtPlain
namespace Go.Proofs.Qxb6000758a
open Go.RowKit

theorem tB : BytesIn Try.prog 23 5 := by
  refine ⟨Try.underlying23, Try.underlying5, ?_⟩
  have h : (Try.prog.info? 5).map (fun i => (i.zero, i.size, i.bytes)) = some (some (.int .u8 0), 1, 1) := by kernel_rfl
  obtain ⟨i, hi, hz0, hz1, hz2⟩ := info_parts h
  exact ⟨i, hi, hz0, hz1, hz2⟩

theorem dig_cel (n : Nat) (h : n < 10) (x : Int) (hx : x = 48 + (n : Int)) : [Value.int .u8 x] = [dig n].map cel := by
  subst hx
  simp [cel, dig]
  omega

set_option maxHeartbeats 400000 in
theorem dec_any (B : Nat) (w : World) (a : Option Addr) (n cap : Nat) (l : List UInt8) (v : Nat) (hv : v < 256) (hbuf : Buf 5 B w a n cap l) (hB : B ≤ w.heap.size) (hn : n ≤ 100000) :
    Calls Try.prog 11 #[.slice a n cap, .int .u8 (v : Int)] w fun e w' => ∃ a' n' cap', e = .returned (.slice a' n' cap') ∧ Buf 5 B w' a' n' cap' (l ++ dec v) ∧ Below B w w' := by
  by_cases h100 : 100 ≤ v
  · have E : Hid (dec v = [dig (v / 100)] ++ ([dig (v / 10 % 10)] ++ [dig (v % 10)])) := by simp [Hid, dec, h100, show 10 ≤ v by omega]
    have h10 : 10 ≤ v := by omega
    go_enter Try.func11, Try.ntmps11
    go_wp2_with (first | (at_builtin; refine wpList_app tB rfl (.tmp 7) (.tmp 11) rfl [dig (v / 100)] _ (dig_cel (v / 100) (by omega) _ (by omega)) 1 1 rfl rfl rfl hbuf (by omega) hB ?_; intro a1 cap1 w1 hb1 hB1; have hs1 := hB1.size) | (at_builtin; refine wpList_app tB rfl (.tmp 15) (.tmp 20) rfl [dig (v / 10 % 10)] _ (dig_cel (v / 10 % 10) (by omega) _ (by omega)) 1 1 rfl rfl rfl hb1 (by omega) (by omega) ?_; intro a2 cap2 w2 hb2 hB2; have hs2 := hB2.size) | (at_builtin; refine wpList_app tB rfl (.tmp 22) (.tmp 26) rfl [dig (v % 10)] _ (dig_cel (v % 10) (by omega) _ (by omega)) 1 1 rfl rfl rfl hb2 (by omega) (by omega) ?_; intro a3 cap3 w3 hb3 hB3; have hs3 := hB3.size))
    go_ret
    exact ⟨a3, _, cap3, rfl, by rw [E.out]; simpa using hb3, (hB1.trans hB2).trans hB3⟩
  by_cases h10 : 10 ≤ v
  · have E : Hid (dec v = [dig (v / 10 % 10)] ++ [dig (v % 10)]) := by simp [Hid, dec, h100, h10]
    go_enter Try.func11, Try.ntmps11
    go_wp2_with (first | (at_builtin; refine wpList_app tB rfl (.tmp 15) (.tmp 20) rfl [dig (v / 10 % 10)] _ (dig_cel (v / 10 % 10) (by omega) _ (by omega)) 1 1 rfl rfl rfl hbuf (by omega) (by omega) ?_; intro a2 cap2 w2 hb2 hB2; have hs2 := hB2.size) | (at_builtin; refine wpList_app tB rfl (.tmp 22) (.tmp 26) rfl [dig (v % 10)] _ (dig_cel (v % 10) (by omega) _ (by omega)) 1 1 rfl rfl rfl hb2 (by omega) (by omega) ?_; intro a3 cap3 w3 hb3 hB3; have hs3 := hB3.size))
    go_ret
    exact ⟨a3, _, cap3, rfl, by rw [E.out]; simpa using hb3, hB2.trans hB3⟩
  · have E : Hid (dec v = [dig (v % 10)]) := by simp [Hid, dec, h100, h10]
    go_enter Try.func11, Try.ntmps11
    go_wp2_with ((at_builtin; refine wpList_app tB rfl (.tmp 22) (.tmp 26) rfl [dig (v % 10)] _ (dig_cel (v % 10) (by omega) _ (by omega)) 1 1 rfl rfl rfl hbuf (by omega) (by omega) ?_; intro a3 cap3 w3 hb3 hB3; have hs3 := hB3.size))
    go_ret
    exact ⟨a3, _, cap3, rfl, by rw [E.out]; exact hb3, hB3⟩

/-- Four numbers by their index. -/
def at4 (x0 x1 x2 x3 : Nat) (k : Nat) : Nat := match k with | 0 => x0 | 1 => x1 | 2 => x2 | _ => x3
theorem at4_lt (x0 x1 x2 x3 : Nat) (h0 : x0 < 256) (h1 : x1 < 256) (h2 : x2 < 256) (h3 : x3 < 256) (k : Nat) : at4 x0 x1 x2 x3 k < 256 := by
  unfold at4; split <;> assumption

theorem cell_at4 (w : World) (x0 x1 x2 x3 k : Nat) (hk : k < 4) : (w.alloc (.cells #[.int .u8 (x0 : Int), .int .u8 (x1 : Int), .int .u8 (x2 : Int), .int .u8 (x3 : Int)] 22)).cell? ⟨w.heap.size, k, none⟩ = some (.int .u8 ((at4 x0 x1 x2 x3 k : Nat) : Int)) := by
  rw [cell_of_row _ w.heap.size k _ 22 (0, 0) (heap_alloc_new w _)]
  match k, hk with
  | 0, _ => rfl
  | 1, _ => rfl
  | 2, _ => rfl
  | 3, _ => rfl

/-- What the rounds know of memory: the two boxes' cells; all that was there is as it was. -/
structure RtW (X Pd : Nat → Nat) (w wr : World) : Prop where
  nums : ∀ j, j < 4 → wr.cell? ⟨w.heap.size, j, none⟩ = some (.int .u8 ((X j : Nat) : Int))
  pads : ∀ j, j < 4 → wr.cell? ⟨w.heap.size + 1, j, none⟩ = some (.int .u8 ((Pd j : Nat) : Int))
  below : Below w.heap.size w wr
  size : w.heap.size + 2 ≤ wr.heap.size

theorem RtW.step {X Pd : Nat → Nat} {w wr wr' : World} (h : RtW X Pd w wr) (hb : Below (w.heap.size + 2) wr wr') : RtW X Pd w wr' :=
  ⟨fun j hj => (hb.cell (p := ⟨w.heap.size, j, none⟩) (by simp)).trans (h.nums j hj), fun j hj => (hb.cell (p := ⟨w.heap.size + 1, j, none⟩) (by simp)).trans (h.pads j hj), h.below.trans (hb.mono (by omega)), Nat.le_trans h.size hb.size⟩

theorem RtW.start (w : World) (x0 x1 x2 x3 p0 p1 p2 p3 : Nat) : RtW (at4 x0 x1 x2 x3) (at4 p0 p1 p2 p3) w ((w.alloc (.cells #[.int .u8 (x0 : Int), .int .u8 (x1 : Int), .int .u8 (x2 : Int), .int .u8 (x3 : Int)] 22)).alloc (.cells #[.int .u8 (p0 : Int), .int .u8 (p1 : Int), .int .u8 (p2 : Int), .int .u8 (p3 : Int)] 22)) := by
  refine ⟨fun j hj => ?_, fun j hj => ?_, ((Below.refl _ _).alloc (Nat.le_refl _) _).alloc (by simp) _, by simp⟩
  · rw [← cell_at4 w x0 x1 x2 x3 j hj]
    exact World.cell?_of_block (Below.heap_alloc _ _ _ (by simp))
  · have := cell_at4 (w.alloc (.cells #[.int .u8 (x0 : Int), .int .u8 (x1 : Int), .int .u8 (x2 : Int), .int .u8 (x3 : Int)] 22)) p0 p1 p2 p3 j hj
    simpa using this

theorem byte46 : [Value.int .u8 46] = [(46 : UInt8)].map cel := rfl
theorem byte48 : [Value.int .u8 48] = [(48 : UInt8)].map cel := rfl

attribute [local go_sem] eq22
set_option maxRecDepth 100000 in
set_option maxHeartbeats 4000000 in
theorem round_walk (x0 x1 x2 x3 p0 p1 p2 p3 : Nat) (hx0 : x0 < 256) (hx1 : x1 < 256) (hx2 : x2 < 256) (hx3 : x3 < 256) (hp0 : p0 < 256) (hp1 : p1 < 256) (hp2 : p2 < 256) (hp3 : p3 < 256) (c : Int) (dotted : Bool) (w : World) :
    Calls Try.prog 3 #[.agg #[.int .u8 (x0 : Int), .int .u8 (x1 : Int), .int .u8 (x2 : Int), .int .u8 (x3 : Int)], .int .i64 c, .bool dotted, .agg #[.int .u8 (p0 : Int), .int .u8 (p1 : Int), .int .u8 (p2 : Int), .int .u8 (p3 : Int)]] w
      fun e w' => e = .returned (.bool true) ∧ Below w.heap.size w w' := by
  by_cases hc1 : c < 1
  · go_enter Try.func3, Try.ntmps3
    go_wp2
    go_ret
    exact ⟨rfl, ((Below.refl _ _).alloc (Nat.le_refl _) _).alloc (by simp) _⟩
  by_cases hc4 : 4 < c
  · go_enter Try.func3, Try.ntmps3
    go_wp2
    go_ret
    exact ⟨rfl, ((Below.refl _ _).alloc (Nat.le_refl _) _).alloc (by simp) _⟩
  obtain ⟨n, rfl⟩ : ∃ n : Nat, c = (n : Int) := ⟨c.toNat, by omega⟩
  have hn1 : 1 ≤ n := by omega
  have hn4 : n ≤ 4 := by omega
  have hX := at4_lt x0 x1 x2 x3 hx0 hx1 hx2 hx3
  have hP := at4_lt p0 p1 p2 p3 hp0 hp1 hp2 hp3
  have hlen := txt_len (at4 x0 x1 x2 x3) (at4 p0 p1 p2 p3) (fun k => by have := hP k; omega)
  have hcd1 : decide ((n : Int) < 1) = false := by simp; omega
  have hcd4 : decide ((4 : Int) < n) = false := by simp; omega
  clear hc1 hc4
  have hst := RtW.start w x0 x1 x2 x3 p0 p1 p2 p3
  go_enter Try.func3, Try.ntmps3
  go_wp2_with (at_make; refine wpList_mk tB rfl _ _ rfl (w.heap.size + 2) 1100 1100 rfl rfl rfl (by omega) (by simp) ?_; intro w1 hb1 hB1)
  have hst1 := hst.step hB1
  clear hst hB1
  go_loopg [9, 10] n (fun g bv kv wr => ∃ (k : Nat) (a : Option Addr) (m cap : Nat), g = n - k ∧ k ≤ n ∧ bv = .slice a m cap ∧ kv = .int .i64 k ∧ Buf 5 (w.heap.size + 2) wr a m cap (txt (at4 x0 x1 x2 x3) (at4 p0 p1 p2 p3) k) ∧ RtW (at4 x0 x1 x2 x3) (at4 p0 p1 p2 p3) w wr)
  case atStart => exact ⟨0, _, _, _, rfl, by omega, rfl, rfl, by simpa [txt] using hb1, hst1⟩
  case round =>
    obtain ⟨k, a, m, cap, rfl, hk, rfl, rfl, hb, hst⟩ := hrel
    clear hb1 hst1
    have hl : m ≤ 259 * k := by rw [hb.len]; exact hlen k
    by_cases hkn : k < n
    · have hpb := hP k
      have hxb := hX k
      have hsz := hst.size
      obtain ⟨T, hT⟩ : ∃ T, Hid (T = txt (at4 x0 x1 x2 x3) (at4 p0 p1 p2 p3) k ++ (if k = 0 then [] else [46])) := ⟨_, by exact rfl⟩
      by_cases hk0 : 0 < k
      · go_wp2_with (at_builtin; refine wpList_app tB rfl (.tmp 31) (.tmp 32) rfl [46] _ byte46 1 1 rfl rfl rfl hb (by omega) hsz ?_; intro a1 cap1 w1 hb1 hB1)
        have hst1 := hst.step hB1
        have hbT : Buf 5 (w.heap.size + 2) w1 a1 (m + 1) cap1 T := by rw [hT.out, if_neg (by omega)]; exact hb1
        clear hb1 hB1 hst hsz hb
        go_loopg [9, 11] (at4 p0 p1 p2 p3 k) (fun g bv zv wr => ∃ (z : Nat) (a : Option Addr) (q cap : Nat), g = at4 p0 p1 p2 p3 k - z ∧ z ≤ at4 p0 p1 p2 p3 k ∧ q ≤ 259 * k + 1 + z ∧ bv = .slice a q cap ∧ zv = .int .i64 z ∧ Buf 5 (w.heap.size + 2) wr a q cap (T ++ List.replicate z 48) ∧ RtW (at4 x0 x1 x2 x3) (at4 p0 p1 p2 p3) w wr)
        case atStart => exact ⟨0, _, _, _, rfl, by omega, by omega, rfl, rfl, by simpa using hbT, hst1⟩
        case round =>
          rename Nat => gi
          obtain ⟨z, a2, q, cap2, hgi, hz, hq, rfl, rfl, hb, hst⟩ := hrel
          subst hgi
          clear hst1 hbT
          have hpk := hst.pads k (by omega)
          have hsz := hst.size
          by_cases hzp : z < at4 p0 p1 p2 p3 k
          · go_wp2_with (at_builtin; refine wpList_app tB rfl (.tmp 42) (.tmp 43) rfl [48] _ byte48 1 1 rfl rfl rfl hb (by omega) hsz ?_; intro a3 cap3 w3 hb3 hB3)
            go_roundg (at4 p0 p1 p2 p3 k - (z + 1))
            case rel => exact ⟨z + 1, _, _, _, rfl, by omega, by omega, rfl, by go_num, by rw [List.replicate_succ', ← List.append_assoc]; exact hb3, hst.step hB3⟩
            case measure => omega
          · have hzq : z = at4 p0 p1 p2 p3 k := by omega
            have HZ : Hid (z = at4 p0 p1 p2 p3 k) := hzq
            clear hzq
            have hxk := hst.nums k (by omega)
            go_wp2_with (go_at_call 11; refine (dec_any (w.heap.size + 2) _ a2 q cap2 _ (at4 x0 x1 x2 x3 k) hxb hb hsz (by omega)).mono ?_; rintro e w4 ⟨a4, m4, cap4, rfl, hb4, hB4⟩)
            go_roundg (n - (k + 1))
            case rel => exact ⟨k + 1, _, _, _, rfl, by omega, rfl, by go_num, by rw [HZ.out, hT.out] at hb4; simpa [txt, part4] using hb4, hst.step hB4⟩
            case measure => omega
      · go_wp2_with fail
        have hst1 := hst
        have hbT : Buf 5 (w.heap.size + 2) wr a m cap T := by rw [hT.out, if_pos (by omega)]; simpa using hb
        clear hst hsz hb
        go_loopg [9, 11] (at4 p0 p1 p2 p3 k) (fun g bv zv wr => ∃ (z : Nat) (a : Option Addr) (q cap : Nat), g = at4 p0 p1 p2 p3 k - z ∧ z ≤ at4 p0 p1 p2 p3 k ∧ q ≤ 259 * k + 1 + z ∧ bv = .slice a q cap ∧ zv = .int .i64 z ∧ Buf 5 (w.heap.size + 2) wr a q cap (T ++ List.replicate z 48) ∧ RtW (at4 x0 x1 x2 x3) (at4 p0 p1 p2 p3) w wr)
        case atStart => exact ⟨0, _, _, _, rfl, by omega, by omega, rfl, rfl, by simpa using hbT, hst1⟩
        case round =>
          rename Nat => gi
          obtain ⟨z, a2, q, cap2, hgi, hz, hq, rfl, rfl, hb, hst⟩ := hrel
          subst hgi
          clear hst1 hbT
          have hpk := hst.pads k (by omega)
          have hsz := hst.size
          by_cases hzp : z < at4 p0 p1 p2 p3 k
          · go_wp2_with (at_builtin; refine wpList_app tB rfl (.tmp 42) (.tmp 43) rfl [48] _ byte48 1 1 rfl rfl rfl hb (by omega) hsz ?_; intro a3 cap3 w3 hb3 hB3)
            go_roundg (at4 p0 p1 p2 p3 k - (z + 1))
            case rel => exact ⟨z + 1, _, _, _, rfl, by omega, by omega, rfl, by go_num, by rw [List.replicate_succ', ← List.append_assoc]; exact hb3, hst.step hB3⟩
            case measure => omega
          · have hzq : z = at4 p0 p1 p2 p3 k := by omega
            have HZ : Hid (z = at4 p0 p1 p2 p3 k) := hzq
            clear hzq
            have hxk := hst.nums k (by omega)
            go_wp2_with (go_at_call 11; refine (dec_any (w.heap.size + 2) _ a2 q cap2 _ (at4 x0 x1 x2 x3 k) hxb hb hsz (by omega)).mono ?_; rintro e w4 ⟨a4, m4, cap4, rfl, hb4, hB4⟩)
            go_roundg (n - (k + 1))
            case rel => exact ⟨k + 1, _, _, _, rfl, by omega, rfl, by go_num, by rw [HZ.out, hT.out] at hb4; simpa [txt, part4] using hb4, hst.step hB4⟩
            case measure => omega
    · have hkn2 : k = n := by omega
      have HK : Hid (k = n) := hkn2
      clear hkn2
      obtain ⟨L, hL⟩ : ∃ L, Hid (L = txt (at4 x0 x1 x2 x3) (at4 p0 p1 p2 p3) k ++ (if dotted then [46] else [])) := ⟨_, by exact rfl⟩
      have hmd : Hid (Ip.md L [] [] = some ((List.range n).map (at4 x0 x1 x2 x3), dotted)) := by
        have := Ip.round (at4 x0 x1 x2 x3) (at4 p0 p1 p2 p3) hX n hn1 hn4 dotted
        rw [hL.out, HK.out]; exact this
      have hsz := hst.size
      cases dotted
      · have hbL : Buf 5 (w.heap.size + 2) wr a m cap L := by rw [hL.out]; simpa using hb
        have hcv := hbL.str tB Try.underlying9
        have hls : (⟨L.toArray⟩ : ByteArray).size ≤ maxLen := by
          have := hbL.len
          simp [ByteArray.size, maxLen]; omega
        clear hL hb hbL hlen hP hX
        obtain rfl | rfl | rfl | rfl : n = 1 ∨ n = 2 ∨ n = 3 ∨ n = 4 := by omega
        · have hA : Ip.ansOf (some ((List.range 1).map (at4 x0 x1 x2 x3), false)) = .tuple #[.agg #[.int .u8 (x0 : Int), .int .u8 0, .int .u8 0, .int .u8 0], .int .i64 1, .bool false] := rfl
          have hct := fun wq => zz12_any ⟨L.toArray⟩ wq hls _ hmd
          rw [hA] at hct
          have HC := (show Hid _ from hct)
          clear hct hA hmd
          go_wp2_with (go_at_call 12; refine (HC.out _).mono ?_; rintro e w4 ⟨rfl, hB4⟩; have hst4 := hst.step (hB4.mono hsz); have hc0 := hst4.nums 0 (by omega); have hc1 := hst4.nums 1 (by omega); have hc2 := hst4.nums 2 (by omega); have hc3 := hst4.nums 3 (by omega); have hz4 := hst4.size; have hz5 : w.heap.size < w4.heap.size := (by omega); have hbel := hst4.below; simp only [at4] at hc0 hc1 hc2 hc3)
          clear hB4 hst4 HC hcv hsz hst hl
          refine wp_loop_rounds 5 ?_
          rw [rounds_succ]
          go_wp2_with fail
          rw [rounds_succ]
          go_wp2_with fail
          rw [rounds_succ]
          go_wp2_with fail
          rw [rounds_succ]
          go_wp2_with fail
          go_ret
          exact ⟨rfl, (hbel.alloc hbel.size _).alloc (by have := hbel.size; simp; omega) _⟩
        · have hA : Ip.ansOf (some ((List.range 2).map (at4 x0 x1 x2 x3), false)) = .tuple #[.agg #[.int .u8 (x0 : Int), .int .u8 (x1 : Int), .int .u8 0, .int .u8 0], .int .i64 2, .bool false] := rfl
          have hct := fun wq => zz12_any ⟨L.toArray⟩ wq hls _ hmd
          rw [hA] at hct
          have HC := (show Hid _ from hct)
          clear hct hA hmd
          go_wp2_with (go_at_call 12; refine (HC.out _).mono ?_; rintro e w4 ⟨rfl, hB4⟩; have hst4 := hst.step (hB4.mono hsz); have hc0 := hst4.nums 0 (by omega); have hc1 := hst4.nums 1 (by omega); have hc2 := hst4.nums 2 (by omega); have hc3 := hst4.nums 3 (by omega); have hz4 := hst4.size; have hz5 : w.heap.size < w4.heap.size := (by omega); have hbel := hst4.below; simp only [at4] at hc0 hc1 hc2 hc3)
          clear hB4 hst4 HC hcv hsz hst hl
          refine wp_loop_rounds 5 ?_
          rw [rounds_succ]
          go_wp2_with fail
          rw [rounds_succ]
          go_wp2_with fail
          rw [rounds_succ]
          go_wp2_with fail
          go_ret
          exact ⟨rfl, (hbel.alloc hbel.size _).alloc (by have := hbel.size; simp; omega) _⟩
        · have hA : Ip.ansOf (some ((List.range 3).map (at4 x0 x1 x2 x3), false)) = .tuple #[.agg #[.int .u8 (x0 : Int), .int .u8 (x1 : Int), .int .u8 (x2 : Int), .int .u8 0], .int .i64 3, .bool false] := rfl
          have hct := fun wq => zz12_any ⟨L.toArray⟩ wq hls _ hmd
          rw [hA] at hct
          have HC := (show Hid _ from hct)
          clear hct hA hmd
          go_wp2_with (go_at_call 12; refine (HC.out _).mono ?_; rintro e w4 ⟨rfl, hB4⟩; have hst4 := hst.step (hB4.mono hsz); have hc0 := hst4.nums 0 (by omega); have hc1 := hst4.nums 1 (by omega); have hc2 := hst4.nums 2 (by omega); have hc3 := hst4.nums 3 (by omega); have hz4 := hst4.size; have hz5 : w.heap.size < w4.heap.size := (by omega); have hbel := hst4.below; simp only [at4] at hc0 hc1 hc2 hc3)
          clear hB4 hst4 HC hcv hsz hst hl
          refine wp_loop_rounds 5 ?_
          rw [rounds_succ]
          go_wp2_with fail
          rw [rounds_succ]
          go_wp2_with fail
          go_ret
          exact ⟨rfl, (hbel.alloc hbel.size _).alloc (by have := hbel.size; simp; omega) _⟩
        · have hA : Ip.ansOf (some ((List.range 4).map (at4 x0 x1 x2 x3), false)) = .tuple #[.agg #[.int .u8 (x0 : Int), .int .u8 (x1 : Int), .int .u8 (x2 : Int), .int .u8 (x3 : Int)], .int .i64 4, .bool false] := rfl
          have hct := fun wq => zz12_any ⟨L.toArray⟩ wq hls _ hmd
          rw [hA] at hct
          have HC := (show Hid _ from hct)
          clear hct hA hmd
          go_wp2_with (go_at_call 12; refine (HC.out _).mono ?_; rintro e w4 ⟨rfl, hB4⟩; have hst4 := hst.step (hB4.mono hsz); have hc0 := hst4.nums 0 (by omega); have hc1 := hst4.nums 1 (by omega); have hc2 := hst4.nums 2 (by omega); have hc3 := hst4.nums 3 (by omega); have hz4 := hst4.size; have hz5 : w.heap.size < w4.heap.size := (by omega); have hbel := hst4.below; simp only [at4] at hc0 hc1 hc2 hc3)
          clear hB4 hst4 HC hcv hsz hst hl
          refine wp_loop_rounds 5 ?_
          rw [rounds_succ]
          go_wp2_with fail
          go_ret
          exact ⟨rfl, (hbel.alloc hbel.size _).alloc (by have := hbel.size; simp; omega) _⟩
      · have hls : (⟨L.toArray⟩ : ByteArray).size ≤ maxLen := by
          have := hb.len
          rw [hL.out]
          simp [ByteArray.size, maxLen]; omega
        have HL : Hid (∀ (w1 : World) (a1 : Option Addr) (m1 cap1 : Nat), Buf 5 (w.heap.size + 2) w1 a1 m1 cap1 (txt (at4 x0 x1 x2 x3) (at4 p0 p1 p2 p3) k ++ [46]) → Buf 5 (w.heap.size + 2) w1 a1 m1 cap1 L) := by
          intro w1 a1 m1 cap1 h; rw [hL.out]; simpa using h
        clear hL hlen hP hX
        obtain rfl | rfl | rfl | rfl : n = 1 ∨ n = 2 ∨ n = 3 ∨ n = 4 := by omega
        · have hA : Ip.ansOf (some ((List.range 1).map (at4 x0 x1 x2 x3), true)) = .tuple #[.agg #[.int .u8 (x0 : Int), .int .u8 0, .int .u8 0, .int .u8 0], .int .i64 1, .bool true] := rfl
          have hct := fun wq => zz12_any ⟨L.toArray⟩ wq hls _ hmd
          rw [hA] at hct
          have HC := (show Hid _ from hct)
          clear hct hA hmd
          go_wp2_with (first | (at_builtin; refine wpList_app tB rfl (.tmp 51) (.tmp 52) rfl [46] _ byte46 1 1 rfl rfl rfl hb (by omega) hsz ?_; intro a1 cap1 w1 hb1 hB1; have hcv := (HL.out _ _ _ _ hb1).str tB Try.underlying9; have hst1 := hst.step hB1; have hsz1 := hst1.size; clear hb1 hB1) | (go_at_call 12; refine (HC.out _).mono ?_; rintro e w4 ⟨rfl, hB4⟩; have hst4 := hst1.step (hB4.mono hsz1); have hc0 := hst4.nums 0 (by omega); have hc1 := hst4.nums 1 (by omega); have hc2 := hst4.nums 2 (by omega); have hc3 := hst4.nums 3 (by omega); have hz4 := hst4.size; have hz5 : w.heap.size < w4.heap.size := (by omega); have hbel := hst4.below; simp only [at4] at hc0 hc1 hc2 hc3))
          clear hB4 hst4 HC hcv hsz hst hl HL hb hst1 hsz1
          refine wp_loop_rounds 5 ?_
          rw [rounds_succ]
          go_wp2_with fail
          rw [rounds_succ]
          go_wp2_with fail
          rw [rounds_succ]
          go_wp2_with fail
          rw [rounds_succ]
          go_wp2_with fail
          go_ret
          exact ⟨rfl, (hbel.alloc hbel.size _).alloc (by have := hbel.size; simp; omega) _⟩
        · have hA : Ip.ansOf (some ((List.range 2).map (at4 x0 x1 x2 x3), true)) = .tuple #[.agg #[.int .u8 (x0 : Int), .int .u8 (x1 : Int), .int .u8 0, .int .u8 0], .int .i64 2, .bool true] := rfl
          have hct := fun wq => zz12_any ⟨L.toArray⟩ wq hls _ hmd
          rw [hA] at hct
          have HC := (show Hid _ from hct)
          clear hct hA hmd
          go_wp2_with (first | (at_builtin; refine wpList_app tB rfl (.tmp 51) (.tmp 52) rfl [46] _ byte46 1 1 rfl rfl rfl hb (by omega) hsz ?_; intro a1 cap1 w1 hb1 hB1; have hcv := (HL.out _ _ _ _ hb1).str tB Try.underlying9; have hst1 := hst.step hB1; have hsz1 := hst1.size; clear hb1 hB1) | (go_at_call 12; refine (HC.out _).mono ?_; rintro e w4 ⟨rfl, hB4⟩; have hst4 := hst1.step (hB4.mono hsz1); have hc0 := hst4.nums 0 (by omega); have hc1 := hst4.nums 1 (by omega); have hc2 := hst4.nums 2 (by omega); have hc3 := hst4.nums 3 (by omega); have hz4 := hst4.size; have hz5 : w.heap.size < w4.heap.size := (by omega); have hbel := hst4.below; simp only [at4] at hc0 hc1 hc2 hc3))
          clear hB4 hst4 HC hcv hsz hst hl HL hb hst1 hsz1
          refine wp_loop_rounds 5 ?_
          rw [rounds_succ]
          go_wp2_with fail
          rw [rounds_succ]
          go_wp2_with fail
          rw [rounds_succ]
          go_wp2_with fail
          go_ret
          exact ⟨rfl, (hbel.alloc hbel.size _).alloc (by have := hbel.size; simp; omega) _⟩
        · have hA : Ip.ansOf (some ((List.range 3).map (at4 x0 x1 x2 x3), true)) = .tuple #[.agg #[.int .u8 (x0 : Int), .int .u8 (x1 : Int), .int .u8 (x2 : Int), .int .u8 0], .int .i64 3, .bool true] := rfl
          have hct := fun wq => zz12_any ⟨L.toArray⟩ wq hls _ hmd
          rw [hA] at hct
          have HC := (show Hid _ from hct)
          clear hct hA hmd
          go_wp2_with (first | (at_builtin; refine wpList_app tB rfl (.tmp 51) (.tmp 52) rfl [46] _ byte46 1 1 rfl rfl rfl hb (by omega) hsz ?_; intro a1 cap1 w1 hb1 hB1; have hcv := (HL.out _ _ _ _ hb1).str tB Try.underlying9; have hst1 := hst.step hB1; have hsz1 := hst1.size; clear hb1 hB1) | (go_at_call 12; refine (HC.out _).mono ?_; rintro e w4 ⟨rfl, hB4⟩; have hst4 := hst1.step (hB4.mono hsz1); have hc0 := hst4.nums 0 (by omega); have hc1 := hst4.nums 1 (by omega); have hc2 := hst4.nums 2 (by omega); have hc3 := hst4.nums 3 (by omega); have hz4 := hst4.size; have hz5 : w.heap.size < w4.heap.size := (by omega); have hbel := hst4.below; simp only [at4] at hc0 hc1 hc2 hc3))
          clear hB4 hst4 HC hcv hsz hst hl HL hb hst1 hsz1
          refine wp_loop_rounds 5 ?_
          rw [rounds_succ]
          go_wp2_with fail
          rw [rounds_succ]
          go_wp2_with fail
          go_ret
          exact ⟨rfl, (hbel.alloc hbel.size _).alloc (by have := hbel.size; simp; omega) _⟩
        · have hA : Ip.ansOf (some ((List.range 4).map (at4 x0 x1 x2 x3), true)) = .tuple #[.agg #[.int .u8 (x0 : Int), .int .u8 (x1 : Int), .int .u8 (x2 : Int), .int .u8 (x3 : Int)], .int .i64 4, .bool true] := rfl
          have hct := fun wq => zz12_any ⟨L.toArray⟩ wq hls _ hmd
          rw [hA] at hct
          have HC := (show Hid _ from hct)
          clear hct hA hmd
          go_wp2_with (first | (at_builtin; refine wpList_app tB rfl (.tmp 51) (.tmp 52) rfl [46] _ byte46 1 1 rfl rfl rfl hb (by omega) hsz ?_; intro a1 cap1 w1 hb1 hB1; have hcv := (HL.out _ _ _ _ hb1).str tB Try.underlying9; have hst1 := hst.step hB1; have hsz1 := hst1.size; clear hb1 hB1) | (go_at_call 12; refine (HC.out _).mono ?_; rintro e w4 ⟨rfl, hB4⟩; have hst4 := hst1.step (hB4.mono hsz1); have hc0 := hst4.nums 0 (by omega); have hc1 := hst4.nums 1 (by omega); have hc2 := hst4.nums 2 (by omega); have hc3 := hst4.nums 3 (by omega); have hz4 := hst4.size; have hz5 : w.heap.size < w4.heap.size := (by omega); have hbel := hst4.below; simp only [at4] at hc0 hc1 hc2 hc3))
          clear hB4 hst4 HC hcv hsz hst hl HL hb hst1 hsz1
          refine wp_loop_rounds 5 ?_
          rw [rounds_succ]
          go_wp2_with fail
          go_ret
          exact ⟨rfl, (hbel.alloc hbel.size _).alloc (by have := hbel.size; simp; omega) _⟩
end Go.Proofs.Qxb6000758a
