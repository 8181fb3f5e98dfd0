/-
  FnSetEscapedMembers (8), walked.
-/
import Derived.Test.Qxb6000758aSmTop
import Derived.Test.Qxb6000758aSrLaw
namespace Go.Proofs.Qxb6000758a
open Go.RowKit

attribute [local go_sem] eq34

theorem one_93 : [Value.int .u8 93] = [(93 : UInt8)].map cel := rfl
theorem two_sm (x : UInt8) : [Value.int .u8 92, Value.int .u8 (x.toNat : Int)] = [(92 : UInt8), x].map cel := rfl

/-- The text, built up to member k. -/
def smPre (neg : Bool) (l : List UInt8) (k : Nat) : List UInt8 := if neg then 91 :: 94 :: pairs (l.take k) else 91 :: pairs (l.take k)
theorem smPre_step (neg : Bool) (ms : ByteArray) (k : Nat) (h : k < ms.size) : smPre neg ms.data.toList k ++ [92, ms[k]] = smPre neg ms.data.toList (k + 1) := by
  have hl : k < ms.data.toList.length := by rw [← Lib.size_eq]; exact h
  have := pairs_step ms.data.toList k hl
  have e : ms.data.toList[k] = ms[k] := rfl
  rw [e] at this
  cases neg <;> simp [smPre, ← this]
theorem smPre_end (neg : Bool) (l tail : List UInt8) (n : Nat) (h : n = l.length) : smPre neg l n ++ [93] ++ tail = smTxt neg l tail := by
  subst h
  cases neg <;> simp [smPre, smTxt]
theorem smPre_0 (l : List UInt8) : [] ++ [91] = smPre false l 0 := by simp [smPre, pairs]
theorem smPre_1 (l : List UInt8) : [] ++ [91] ++ [94] = smPre true l 0 := by simp [smPre, pairs]
theorem memF_get (ms : ByteArray) (k : Nat) (h : k < ms.size) : ms[k].toNat = memF ms.data.toList k := by
  have := byteAt_get ms k h
  unfold byteAt at this
  unfold memF
  omega

def boolsA (S : Nat → Bool) : Array Value := Array.ofFn (n := 256) fun i => .bool (S i.val)
theorem boolsA_get (S : Nat → Bool) (c : Nat) (hc : c < 256) : (boolsA S)[c]? = some (.bool (S c)) := by
  unfold boolsA; rw [Array.getElem?_ofFn, dif_pos hc]
theorem boolsA_set (S : Nat → Bool) (c : Nat) : (boolsA S).setIfInBounds c (.bool true) = boolsA (fun i => S i || i == c) := by
  apply Array.ext_getElem?
  intro i
  rw [Array.getElem?_setIfInBounds]
  by_cases hi : i < 256
  · rw [boolsA_get _ i hi, boolsA_get _ i hi]
    by_cases h : c = i
    · subst h; simp [boolsA, hi]
    · have h2 : (i == c) = false := beq_eq_false_iff_ne.2 (fun e => h e.symm)
      rw [if_neg h, h2, Bool.or_false]
  · have hn : ∀ T : Nat → Bool, (boolsA T)[i]? = none := fun T => by unfold boolsA; rw [Array.getElem?_ofFn, dif_neg hi]
    rw [hn, hn]
    by_cases h : c = i
    · subst h; rw [if_pos rfl, if_neg (by simp [boolsA]; omega)]
    · rw [if_neg h]
theorem info37 : (Try.prog.info? 37).map (fun i => i.zero) = some (some (.agg (boolsA Cls.none))) := by kernel_rfl
theorem zero37 (w : World) : (zeroValue 37).run Try.prog w = .ok (.agg (boolsA Cls.none)) w := by
  obtain ⟨i, hi, hz⟩ := Option.map_eq_some_iff.1 info37
  simp [zeroValue, typeInfo, hi, hz]
attribute [local go_sem] zero37

/-- Block g holds, for each byte, whether it is in S; the set lies in block G. -/
structure MM (R S : Nat → Bool) (G g : Nat) (w wr : World) : Prop where
  cl : CL R G w wr
  blk : wr.heap[g]? = some (.cells (boolsA S) 37 (0, 0))
  ne : G ≠ g
  base : w.heap.size ≤ g
theorem MM.lt {R S : Nat → Bool} {G g : Nat} {w wr : World} (h : MM R S G g w wr) : g < wr.heap.size := (Array.getElem?_eq_some_iff.1 h.blk).1
theorem MM.cell {R S : Nat → Bool} {G g : Nat} {w wr : World} (h : MM R S G g w wr) (c : Nat) (hc : c < 256) : wr.cell? ⟨g, c, none⟩ = some (.bool (S c)) := by
  rw [cell_of_row wr g c _ 37 (0, 0) h.blk]
  exact boolsA_get S c hc
theorem MM.free {R S : Nat → Bool} {G g : Nat} {w wr : World} (h : MM R S G g w wr) (c : Nat) : wr.frozen? ⟨g, c, none⟩ = false := by
  simp [World.frozen?, h.blk]
theorem MM.kept {R S : Nat → Bool} {G g : Nat} {w wr w' : World} (h : MM R S G g w wr) (hb : Below wr.heap.size wr w') : MM R S G g w w' :=
  ⟨h.cl.kept hb, (hb.block g h.lt).trans h.blk, h.ne, h.base⟩
theorem MM.set {R S : Nat → Bool} {G g : Nat} {w wr : World} (h : MM R S G g w wr) (c : Nat) : MM R (fun i => S i || i == c) G g w (wr.setCell ⟨g, c, none⟩ (.bool true)) := by
  refine ⟨⟨fun j hj => ?_, ?_, ?_⟩, ?_, h.ne, h.base⟩
  · rw [← h.cl.cell j hj]
    exact World.cell?_of_block (heap_setCell_other wr _ _ _ (by intro e; exact h.ne (by simpa using e)))
  · exact h.cl.below.setCell h.base _
  · simpa using h.cl.lt
  · rw [heap_setCell_same wr g c _ 37 _ h.blk, boolsA_set]
theorem MM.start {R : Nat → Bool} {w w9 : World} (hb : Below w.heap.size w w9) : MM R Cls.none w9.heap.size (w9.heap.size + 1) w ((w9.alloc (.cells (clsA R) 34)).alloc (.cells (boolsA Cls.none) 37)) := by
  have h0 := CL.start (R := R) hb
  refine ⟨h0.kept ((Below.refl _ _).alloc (Nat.le_refl _) _), ?_, by omega, by have := hb.size; omega⟩
  have := heap_alloc_new (w9.alloc (.cells (clsA R) 34)) (.cells (boolsA Cls.none) 37)
  simpa using this
theorem MM.congr {R S T : Nat → Bool} {G g : Nat} {w wr : World} (h : MM R S G g w wr) (e : ∀ i, S i = T i) : MM R T G g w wr := by
  have : S = T := funext e
  subst this; exact h

set_option maxRecDepth 100000 in
set_option maxHeartbeats 4000000 in
theorem sm_walk_in_00 (f : Bool) (ms tail : ByteArray) (w : World) (h1 : ms.size ≤ 65536) (h2 : tail.size ≤ 65536) (hp : 0 < ms.size) :
    Calls Try.prog 8 #[.bool f, .bool false, .bool false, .string ms, .string tail] w fun e w' => e = .returned (.bool true) ∧ Below w.heap.size w w' := by
  have hLM : ms.data.toList.length = ms.size := (Lib.size_eq ms).symm
  have hLT : tail.data.toList.length = tail.size := (Lib.size_eq tail).symm
  have HC := (show Hid _ from fun w => sm_in f false ms.data.toList tail.data.toList (by omega) (by omega) w)
  have HE := (show Hid _ from smPre_end false ms.data.toList tail.data.toList ms.size hLM.symm)
  have HR := (show Hid _ from fun k hk => sm_want f false false (memF ms.data.toList) (fun _ => UInt8.toNat_lt _) ms.size k hk)
  rw [hLM] at HC
  generalize hRR : smS f false false (memF ms.data.toList) ms.size = R at *
  clear hRR
  generalize hTX : smTxt false ms.data.toList tail.data.toList = TX at *
  clear hTX hLM hLT
  go_enter Try.func8, Try.ntmps8
  go_wp2_with (first | (go_at_call 21; refine (zz21_yes _ _ _ _ _ _ h1 h2).mono ?_; rintro e w' ⟨rfl, hw⟩; have hw' := hw.symm; subst hw'; clear hw) | (at_make; refine wpList_mk tBs rfl _ _ rfl w.heap.size _ (3 + 2 * ms.size + tail.size) rfl rfl (by omega) (by omega) (Nat.le_refl _) ?_; intro w1 hb1 hB1; have hs1 := hB1.size) | (at_builtin; refine wpList_app tBs rfl (.tmp 50) (.tmp 51) rfl [91] _ one_91 1 1 rfl rfl rfl hb1 (by omega) (by omega) ?_; intro a2 cap2 w2 hb2 hB2; have hs2 := hB2.size))
  have hbl0 : Below w.heap.size w w2 := (hB1.trans hB2)
  have hbf0 := hb2
  rw [smPre_0 ms.data.toList] at hbf0
  clear hb1 hB1 hs1 hb2 hB2 hs2
  go_loopg [11, 13] ms.size (fun g bv kv wr => ∃ (k : Nat) (a : Option Addr) (cap : Nat), g = ms.size - k ∧ k ≤ ms.size ∧ kv = .int .i64 k ∧ bv = .slice a (1 + 2 * k) cap ∧ Hid (Buf 5 w.heap.size wr a (1 + 2 * k) cap (smPre false ms.data.toList k)) ∧ Below w.heap.size w wr)
  case atStart => exact ⟨0, _, _, rfl, by omega, rfl, rfl, hbf0, hbl0⟩
  case round =>
    obtain ⟨k, a, cap, rfl, hk, rfl, rfl, HBF, hbl⟩ := hrel
    clear hbf0 hbl0
    have hsz := hbl.size
    by_cases hk2 : k < ms.size
    · have hbf := HBF.out
      go_wp2_with (at_builtin; refine wpList_app tBs rfl (.tmp 63) (.tmp 67) rfl [92, ms[k]] _ (two_sm ms[k]) 2 2 rfl rfl rfl hbf (by omega) (by omega) ?_; intro a3 cap3 w3 hb3 hB3)
      rw [smPre_step false ms k hk2] at hb3
      go_roundg (ms.size - (k + 1))
      case rel => exact ⟨k + 1, a3, cap3, rfl, by omega, by go_num, rfl, hb3, hbl.trans hB3⟩
      case measure => omega
    · have hkk : k = ms.size := by omega
      subst hkk
      have hbf := HBF.out
      clear hk hk2 HBF
      go_wp2_with (first | (at_builtin; refine wpList_app tBs rfl (.tmp 69) (.tmp 70) rfl [93] _ one_93 1 1 rfl rfl rfl hbf (by omega) (by omega) ?_; intro a3 cap3 w3 hb3 hB3; have hs3 := hB3.size) | (at_builtin; refine wpList_appS tBs Try.underlying9 rfl (.tmp 74) (.tmp 75) rfl tail rfl rfl hb3 (by omega) (by omega) ?_; intro a4 cap4 w4 hb4 hB4; have hs4 := hB4.size; rw [HE.out] at hb4; have hcv := hb4.str tBs Try.underlying9; clear hb4) | (go_at_call 22; refine (HC.out _).mono ?_; rintro e w9 ⟨rfl, hb9⟩; have hbel : Below w.heap.size w w9 := ((hbl.trans hB3).trans hB4).trans (hb9.mono (by omega)); clear hb9))
      clear HC HE hcv hbf hb3 hB3 hs3 hB4 hs4 hbl hsz
      have hmm0 := MM.start (R := R) hbel
      unfold clsA at hmm0
      go_loopg [20] ms.size (fun g kv wr => ∃ k : Nat, g = ms.size - k ∧ k ≤ ms.size ∧ kv = .int .i64 k ∧ Hid (MM R (memB (memF ms.data.toList) k) w9.heap.size (w9.heap.size + 1) w wr))
      case atStart => exact ⟨0, rfl, by omega, rfl, hmm0.congr (fun _ => rfl)⟩
      case round =>
        obtain ⟨k, rfl, hk, rfl, HMM⟩ := hrel
        clear hmm0
        by_cases hk2 : k < ms.size
        · have hfr := HMM.out.free (ms[k].toNat)
          have hce := HMM.out.cell (ms[k].toNat) (UInt8.toNat_lt _)
          have hlt := UInt8.toNat_lt ms[k]
          have hme := (show Hid _ from memF_get ms k hk2)
          go_wp2_with fail
          go_roundg (ms.size - (k + 1))
          case rel => exact ⟨k + 1, rfl, by omega, by go_num, (HMM.out.set ms[k].toNat).congr (fun i => by rw [hme.out]; rfl)⟩
          case measure => omega
        · have hkk : k = ms.size := by omega
          subst hkk
          clear hk hk2
          go_wp2_with fail
          go_loopg [21, 22, 23] 256 (fun g cv _ _ wr => ∃ k : Nat, g = 256 - k ∧ k ≤ 256 ∧ cv = .int .i64 k ∧ Hid (MM R (memB (memF ms.data.toList) ms.size) w9.heap.size (w9.heap.size + 1) w wr))
          case atStart => exact ⟨0, rfl, by omega, rfl, HMM.out⟩
          case round =>
            clear HMM
            obtain ⟨k, rfl, hk1, rfl, HMM⟩ := hrel
            by_cases hk2 : k < 256
            · go_upto_region 38 with fail
              go_cut [23] (fun wv wc => wv = .bool (wantM f (memF ms.data.toList) ms.size k) ∧ wc = wr)
              case first =>
                have hc := HMM.out.cell k hk2
                have hlo := HMM.out.cell (lowN k) (lowN_lt k hk2)
                have hup := HMM.out.cell (upN k) (upN_lt k hk2)
                have hll := lowN_lt k hk2
                have huu := upN_lt k hk2
                cases f
                · cases h1 : memB (memF ms.data.toList) ms.size k
                  · rw [h1] at hc
                    have E : Hid (wantM false (memF ms.data.toList) ms.size k = false) := by simp [Hid, wantM, h1]
                    go_wp2_with (first | (go_at_call 23; refine (lawIsLetter_any _ _).mono ?_; rintro e w' ⟨rfl, hw⟩; have hw' := hw.symm; subst hw'; clear hw) | (go_at_call 24; refine (lawLowerN_any k _ hk2).mono ?_; rintro e w' ⟨rfl, hw⟩; have hw' := hw.symm; subst hw'; clear hw) | (go_at_call 25; refine (lawUpperN_any k _ hk2).mono ?_; rintro e w' ⟨rfl, hw⟩; have hw' := hw.symm; subst hw'; clear hw))
                    go_meet
                    case rel => exact ⟨by rw [E.out], rfl⟩
                  · rw [h1] at hc
                    have E : Hid (wantM false (memF ms.data.toList) ms.size k = true) := by simp [Hid, wantM, h1]
                    go_wp2_with (first | (go_at_call 23; refine (lawIsLetter_any _ _).mono ?_; rintro e w' ⟨rfl, hw⟩; have hw' := hw.symm; subst hw'; clear hw) | (go_at_call 24; refine (lawLowerN_any k _ hk2).mono ?_; rintro e w' ⟨rfl, hw⟩; have hw' := hw.symm; subst hw'; clear hw) | (go_at_call 25; refine (lawUpperN_any k _ hk2).mono ?_; rintro e w' ⟨rfl, hw⟩; have hw' := hw.symm; subst hw'; clear hw))
                    go_meet
                    case rel => exact ⟨by rw [E.out], rfl⟩
                · cases h1 : memB (memF ms.data.toList) ms.size k
                  · rw [h1] at hc
                    cases h3 : letB (k : Int)
                    · have E : Hid (wantM true (memF ms.data.toList) ms.size k = false) := by simp [Hid, wantM, h1, h3]
                      go_wp2_with (first | (go_at_call 23; refine (lawIsLetter_any _ _).mono ?_; rintro e w' ⟨rfl, hw⟩; have hw' := hw.symm; subst hw'; clear hw) | (go_at_call 24; refine (lawLowerN_any k _ hk2).mono ?_; rintro e w' ⟨rfl, hw⟩; have hw' := hw.symm; subst hw'; clear hw) | (go_at_call 25; refine (lawUpperN_any k _ hk2).mono ?_; rintro e w' ⟨rfl, hw⟩; have hw' := hw.symm; subst hw'; clear hw))
                      go_meet
                      case rel => exact ⟨by rw [E.out], rfl⟩
                    · cases h4 : memB (memF ms.data.toList) ms.size (lowN k)
                      · rw [h4] at hlo
                        cases h5 : memB (memF ms.data.toList) ms.size (upN k)
                        · rw [h5] at hup
                          have E : Hid (wantM true (memF ms.data.toList) ms.size k = false) := by simp [Hid, wantM, h1, h3, h4, h5]
                          go_wp2_with (first | (go_at_call 23; refine (lawIsLetter_any _ _).mono ?_; rintro e w' ⟨rfl, hw⟩; have hw' := hw.symm; subst hw'; clear hw) | (go_at_call 24; refine (lawLowerN_any k _ hk2).mono ?_; rintro e w' ⟨rfl, hw⟩; have hw' := hw.symm; subst hw'; clear hw) | (go_at_call 25; refine (lawUpperN_any k _ hk2).mono ?_; rintro e w' ⟨rfl, hw⟩; have hw' := hw.symm; subst hw'; clear hw))
                          go_meet
                          case rel => exact ⟨by rw [E.out], rfl⟩
                        · rw [h5] at hup
                          have E : Hid (wantM true (memF ms.data.toList) ms.size k = true) := by simp [Hid, wantM, h1, h3, h4, h5]
                          go_wp2_with (first | (go_at_call 23; refine (lawIsLetter_any _ _).mono ?_; rintro e w' ⟨rfl, hw⟩; have hw' := hw.symm; subst hw'; clear hw) | (go_at_call 24; refine (lawLowerN_any k _ hk2).mono ?_; rintro e w' ⟨rfl, hw⟩; have hw' := hw.symm; subst hw'; clear hw) | (go_at_call 25; refine (lawUpperN_any k _ hk2).mono ?_; rintro e w' ⟨rfl, hw⟩; have hw' := hw.symm; subst hw'; clear hw))
                          go_meet
                          case rel => exact ⟨by rw [E.out], rfl⟩
                      · rw [h4] at hlo
                        have E : Hid (wantM true (memF ms.data.toList) ms.size k = true) := by simp [Hid, wantM, h1, h3, h4]
                        go_wp2_with (first | (go_at_call 23; refine (lawIsLetter_any _ _).mono ?_; rintro e w' ⟨rfl, hw⟩; have hw' := hw.symm; subst hw'; clear hw) | (go_at_call 24; refine (lawLowerN_any k _ hk2).mono ?_; rintro e w' ⟨rfl, hw⟩; have hw' := hw.symm; subst hw'; clear hw) | (go_at_call 25; refine (lawUpperN_any k _ hk2).mono ?_; rintro e w' ⟨rfl, hw⟩; have hw' := hw.symm; subst hw'; clear hw))
                        go_meet
                        case rel => exact ⟨by rw [E.out], rfl⟩
                  · rw [h1] at hc
                    have E : Hid (wantM true (memF ms.data.toList) ms.size k = true) := by simp [Hid, wantM, h1]
                    go_wp2_with (first | (go_at_call 23; refine (lawIsLetter_any _ _).mono ?_; rintro e w' ⟨rfl, hw⟩; have hw' := hw.symm; subst hw'; clear hw) | (go_at_call 24; refine (lawLowerN_any k _ hk2).mono ?_; rintro e w' ⟨rfl, hw⟩; have hw' := hw.symm; subst hw'; clear hw) | (go_at_call 25; refine (lawUpperN_any k _ hk2).mono ?_; rintro e w' ⟨rfl, hw⟩; have hw' := hw.symm; subst hw'; clear hw))
                    go_meet
                    case rel => exact ⟨by rw [E.out], rfl⟩
              case rest =>
                obtain ⟨rfl, hwc⟩ := hcut
                subst hwc
                have c0 := HMM.out.cl.cell 0 (by omega)
                have c1 := HMM.out.cl.cell 1 (by omega)
                have c2 := HMM.out.cl.cell 2 (by omega)
                have c3 := HMM.out.cl.cell 3 (by omega)
                have hR := HR.out k hk2
                have hx : R k = wantM f (memF ms.data.toList) ms.size k := by rw [hR]; simp
                clear hR
                go_wp2_with (go_at_call 26; refine (hasBit_out _ R k hk2).mono ?_; rintro e w10 ⟨rfl, hb10⟩)
                go_roundg (256 - (k + 1))
                case rel => exact ⟨k + 1, rfl, by omega, by go_num, HMM.out.kept hb10⟩
                case measure => omega
            · go_wp2_with fail
              go_ret
              exact ⟨rfl, HMM.out.cl.below⟩

set_option maxRecDepth 100000 in
set_option maxHeartbeats 4000000 in
theorem sm_walk_no_01 (f : Bool) (ms tail : ByteArray) (w : World) (h1 : ms.size ≤ 65536) (h2 : tail.size ≤ 65536) (hp : 0 < ms.size) (J : Nat) (hJ : J < ms.size) (hgo : ∀ j, j < J → ¬ memF ms.data.toList j = 47) (hend : memF ms.data.toList J = 47) :
    Calls Try.prog 8 #[.bool f, .bool true, .bool false, .string ms, .string tail] w fun e w' => e = .returned (.bool true) ∧ Below w.heap.size w w' := by
  have hLM : ms.data.toList.length = ms.size := (Lib.size_eq ms).symm
  have hLT : tail.data.toList.length = tail.size := (Lib.size_eq tail).symm
  have HC := (show Hid _ from fun w => sm_no f false ms.data.toList tail.data.toList (by omega) (by omega) J (by omega) hgo hend w)
  have HE := (show Hid _ from smPre_end false ms.data.toList tail.data.toList ms.size hLM.symm)
  have HGO := (show Hid _ from hgo)
  have HEND := (show Hid _ from hend)
  generalize hTX : smTxt false ms.data.toList tail.data.toList = TX at *
  clear hTX hLM hLT hgo hend
  go_enter Try.func8, Try.ntmps8
  go_wp2_with (first | (go_at_call 21; refine (zz21_yes _ _ _ _ _ _ h1 h2).mono ?_; rintro e w' ⟨rfl, hw⟩; have hw' := hw.symm; subst hw'; clear hw) | (at_make; refine wpList_mk tBs rfl _ _ rfl w.heap.size _ (3 + 2 * ms.size + tail.size) rfl rfl (by omega) (by omega) (Nat.le_refl _) ?_; intro w1 hb1 hB1; have hs1 := hB1.size) | (at_builtin; refine wpList_app tBs rfl (.tmp 50) (.tmp 51) rfl [91] _ one_91 1 1 rfl rfl rfl hb1 (by omega) (by omega) ?_; intro a2 cap2 w2 hb2 hB2; have hs2 := hB2.size))
  have hbl0 : Below w.heap.size w w2 := (hB1.trans hB2)
  have hbf0 := hb2
  rw [smPre_0 ms.data.toList] at hbf0
  clear hb1 hB1 hs1 hb2 hB2 hs2
  go_loopg [11, 13] ms.size (fun g bv kv wr => ∃ (k : Nat) (a : Option Addr) (cap : Nat), g = ms.size - k ∧ k ≤ ms.size ∧ kv = .int .i64 k ∧ bv = .slice a (1 + 2 * k) cap ∧ Hid (Buf 5 w.heap.size wr a (1 + 2 * k) cap (smPre false ms.data.toList k)) ∧ Below w.heap.size w wr)
  case atStart => exact ⟨0, _, _, rfl, by omega, rfl, rfl, hbf0, hbl0⟩
  case round =>
    obtain ⟨k, a, cap, rfl, hk, rfl, rfl, HBF, hbl⟩ := hrel
    clear hbf0 hbl0
    have hsz := hbl.size
    by_cases hk2 : k < ms.size
    · have hbf := HBF.out
      go_wp2_with (at_builtin; refine wpList_app tBs rfl (.tmp 63) (.tmp 67) rfl [92, ms[k]] _ (two_sm ms[k]) 2 2 rfl rfl rfl hbf (by omega) (by omega) ?_; intro a3 cap3 w3 hb3 hB3)
      rw [smPre_step false ms k hk2] at hb3
      go_roundg (ms.size - (k + 1))
      case rel => exact ⟨k + 1, a3, cap3, rfl, by omega, by go_num, rfl, hb3, hbl.trans hB3⟩
      case measure => omega
    · have hkk : k = ms.size := by omega
      subst hkk
      have hbf := HBF.out
      clear hk hk2 HBF
      go_wp2_with (first | (at_builtin; refine wpList_app tBs rfl (.tmp 69) (.tmp 70) rfl [93] _ one_93 1 1 rfl rfl rfl hbf (by omega) (by omega) ?_; intro a3 cap3 w3 hb3 hB3; have hs3 := hB3.size) | (at_builtin; refine wpList_appS tBs Try.underlying9 rfl (.tmp 74) (.tmp 75) rfl tail rfl rfl hb3 (by omega) (by omega) ?_; intro a4 cap4 w4 hb4 hB4; have hs4 := hB4.size; rw [HE.out] at hb4; have hcv := hb4.str tBs Try.underlying9; clear hb4) | (go_at_call 22; refine (HC.out _).mono ?_; rintro e w9 ⟨rfl, hb9⟩; have hbel : Below w.heap.size w w9 := ((hbl.trans hB3).trans hB4).trans (hb9.mono (by omega)); clear hb9))
      clear HC HE hcv hbf hb3 hB3 hs3 hB4 hs4 hbl hsz
      go_loopg [18] (J + 1) (fun g kv wr => ∃ k : Nat, g = J + 1 - k ∧ k ≤ J ∧ kv = .int .i64 k ∧ wr = w9.alloc (.cells #[.int .u64 0, .int .u64 0, .int .u64 0, .int .u64 0] 34))
      case atStart => exact ⟨0, rfl, by omega, rfl, rfl⟩
      case round =>
        obtain ⟨k, rfl, hk, rfl, hwr⟩ := hrel
        subst hwr
        have hk2 : k < ms.size := by omega
        by_cases hkJ : k < J
        · have hne : ((ms[k].toNat : Int) == 47) = false := beq_eq_false_iff_ne.2 (by have h := HGO.out k hkJ; have h2 := memF_get ms k hk2; omega)
          go_wp2_with fail
          go_roundg (J + 1 - (k + 1))
          case rel => exact ⟨k + 1, rfl, by omega, by go_num, rfl⟩
          case measure => omega
        · have hkk : k = J := by omega
          subst hkk
          have hne : ((ms[k].toNat : Int) == 47) = true := beq_iff_eq.2 (by have h := HEND.out; have h2 := memF_get ms k hk2; omega)
          go_wp2_with fail
          go_ret
          exact ⟨rfl, hbel.alloc hbel.size _⟩

set_option maxRecDepth 100000 in
set_option maxHeartbeats 4000000 in
theorem sm_walk_yes_01 (f : Bool) (ms tail : ByteArray) (w : World) (h1 : ms.size ≤ 65536) (h2 : tail.size ≤ 65536) (hp : 0 < ms.size) (hgo : ∀ j, j < ms.size → ¬ memF ms.data.toList j = 47) :
    Calls Try.prog 8 #[.bool f, .bool true, .bool false, .string ms, .string tail] w fun e w' => e = .returned (.bool true) ∧ Below w.heap.size w w' := by
  have hLM : ms.data.toList.length = ms.size := (Lib.size_eq ms).symm
  have hLT : tail.data.toList.length = tail.size := (Lib.size_eq tail).symm
  have HC := (show Hid _ from fun w => sm_yes f false ms.data.toList tail.data.toList (by omega) (by omega) (fun j hj => hgo j (by omega)) w)
  have HE := (show Hid _ from smPre_end false ms.data.toList tail.data.toList ms.size hLM.symm)
  have HR := (show Hid _ from fun k hk => sm_want f true false (memF ms.data.toList) (fun _ => UInt8.toNat_lt _) ms.size k hk)
  rw [hLM] at HC
  generalize hRR : smS f true false (memF ms.data.toList) ms.size = R at *
  clear hRR
  have HGO := (show Hid _ from hgo)
  generalize hTX : smTxt false ms.data.toList tail.data.toList = TX at *
  clear hTX hLM hLT hgo
  go_enter Try.func8, Try.ntmps8
  go_wp2_with (first | (go_at_call 21; refine (zz21_yes _ _ _ _ _ _ h1 h2).mono ?_; rintro e w' ⟨rfl, hw⟩; have hw' := hw.symm; subst hw'; clear hw) | (at_make; refine wpList_mk tBs rfl _ _ rfl w.heap.size _ (3 + 2 * ms.size + tail.size) rfl rfl (by omega) (by omega) (Nat.le_refl _) ?_; intro w1 hb1 hB1; have hs1 := hB1.size) | (at_builtin; refine wpList_app tBs rfl (.tmp 50) (.tmp 51) rfl [91] _ one_91 1 1 rfl rfl rfl hb1 (by omega) (by omega) ?_; intro a2 cap2 w2 hb2 hB2; have hs2 := hB2.size))
  have hbl0 : Below w.heap.size w w2 := (hB1.trans hB2)
  have hbf0 := hb2
  rw [smPre_0 ms.data.toList] at hbf0
  clear hb1 hB1 hs1 hb2 hB2 hs2
  go_loopg [11, 13] ms.size (fun g bv kv wr => ∃ (k : Nat) (a : Option Addr) (cap : Nat), g = ms.size - k ∧ k ≤ ms.size ∧ kv = .int .i64 k ∧ bv = .slice a (1 + 2 * k) cap ∧ Hid (Buf 5 w.heap.size wr a (1 + 2 * k) cap (smPre false ms.data.toList k)) ∧ Below w.heap.size w wr)
  case atStart => exact ⟨0, _, _, rfl, by omega, rfl, rfl, hbf0, hbl0⟩
  case round =>
    obtain ⟨k, a, cap, rfl, hk, rfl, rfl, HBF, hbl⟩ := hrel
    clear hbf0 hbl0
    have hsz := hbl.size
    by_cases hk2 : k < ms.size
    · have hbf := HBF.out
      go_wp2_with (at_builtin; refine wpList_app tBs rfl (.tmp 63) (.tmp 67) rfl [92, ms[k]] _ (two_sm ms[k]) 2 2 rfl rfl rfl hbf (by omega) (by omega) ?_; intro a3 cap3 w3 hb3 hB3)
      rw [smPre_step false ms k hk2] at hb3
      go_roundg (ms.size - (k + 1))
      case rel => exact ⟨k + 1, a3, cap3, rfl, by omega, by go_num, rfl, hb3, hbl.trans hB3⟩
      case measure => omega
    · have hkk : k = ms.size := by omega
      subst hkk
      have hbf := HBF.out
      clear hk hk2 HBF
      go_wp2_with (first | (at_builtin; refine wpList_app tBs rfl (.tmp 69) (.tmp 70) rfl [93] _ one_93 1 1 rfl rfl rfl hbf (by omega) (by omega) ?_; intro a3 cap3 w3 hb3 hB3; have hs3 := hB3.size) | (at_builtin; refine wpList_appS tBs Try.underlying9 rfl (.tmp 74) (.tmp 75) rfl tail rfl rfl hb3 (by omega) (by omega) ?_; intro a4 cap4 w4 hb4 hB4; have hs4 := hB4.size; rw [HE.out] at hb4; have hcv := hb4.str tBs Try.underlying9; clear hb4) | (go_at_call 22; refine (HC.out _).mono ?_; rintro e w9 ⟨rfl, hb9⟩; have hbel : Below w.heap.size w w9 := ((hbl.trans hB3).trans hB4).trans (hb9.mono (by omega)); clear hb9))
      clear HC HE hcv hbf hb3 hB3 hs3 hB4 hs4 hbl hsz
      go_loopg [18] (ms.size + 1) (fun g kv wr => ∃ k : Nat, g = ms.size + 1 - k ∧ k ≤ ms.size ∧ kv = .int .i64 k ∧ wr = w9.alloc (.cells #[.int .u64 ((Cls.wd R 0 : Nat) : Int), .int .u64 ((Cls.wd R 1 : Nat) : Int), .int .u64 ((Cls.wd R 2 : Nat) : Int), .int .u64 ((Cls.wd R 3 : Nat) : Int)] 34))
      case atStart => exact ⟨0, rfl, by omega, rfl, rfl⟩
      case round =>
        obtain ⟨k, rfl, hk, rfl, hwr⟩ := hrel
        subst hwr
        by_cases hk2 : k < ms.size
        · have hne : ((ms[k].toNat : Int) == 47) = false := beq_eq_false_iff_ne.2 (by have h := HGO.out k hk2; have h2 := memF_get ms k hk2; omega)
          go_wp2_with fail
          go_roundg (ms.size + 1 - (k + 1))
          case rel => exact ⟨k + 1, rfl, by omega, by go_num, rfl⟩
          case measure => omega
        · have hkk : k = ms.size := by omega
          subst hkk
          clear hk hk2
          go_wp2_with fail
          have hmm0 := MM.start (R := R) hbel
          unfold clsA at hmm0
          go_loopg [20] ms.size (fun g kv wr => ∃ k : Nat, g = ms.size - k ∧ k ≤ ms.size ∧ kv = .int .i64 k ∧ Hid (MM R (memB (memF ms.data.toList) k) w9.heap.size (w9.heap.size + 1) w wr))
          case atStart => exact ⟨0, rfl, by omega, rfl, hmm0.congr (fun _ => rfl)⟩
          case round =>
            obtain ⟨k, rfl, hk, rfl, HMM⟩ := hrel
            clear hmm0
            by_cases hk2 : k < ms.size
            · have hfr := HMM.out.free (ms[k].toNat)
              have hce := HMM.out.cell (ms[k].toNat) (UInt8.toNat_lt _)
              have hlt := UInt8.toNat_lt ms[k]
              have hme := (show Hid _ from memF_get ms k hk2)
              go_wp2_with fail
              go_roundg (ms.size - (k + 1))
              case rel => exact ⟨k + 1, rfl, by omega, by go_num, (HMM.out.set ms[k].toNat).congr (fun i => by rw [hme.out]; rfl)⟩
              case measure => omega
            · have hkk : k = ms.size := by omega
              subst hkk
              clear hk hk2
              go_wp2_with fail
              go_loopg [21, 22, 23] 256 (fun g cv _ _ wr => ∃ k : Nat, g = 256 - k ∧ k ≤ 256 ∧ cv = .int .i64 k ∧ Hid (MM R (memB (memF ms.data.toList) ms.size) w9.heap.size (w9.heap.size + 1) w wr))
              case atStart => exact ⟨0, rfl, by omega, rfl, HMM.out⟩
              case round =>
                clear HMM
                obtain ⟨k, rfl, hk1, rfl, HMM⟩ := hrel
                by_cases hk2 : k < 256
                · go_upto_region 38 with fail
                  go_cut [23] (fun wv wc => wv = .bool (wantM f (memF ms.data.toList) ms.size k) ∧ wc = wr)
                  case first =>
                    have hc := HMM.out.cell k hk2
                    have hlo := HMM.out.cell (lowN k) (lowN_lt k hk2)
                    have hup := HMM.out.cell (upN k) (upN_lt k hk2)
                    have hll := lowN_lt k hk2
                    have huu := upN_lt k hk2
                    cases f
                    · cases h1 : memB (memF ms.data.toList) ms.size k
                      · rw [h1] at hc
                        have E : Hid (wantM false (memF ms.data.toList) ms.size k = false) := by simp [Hid, wantM, h1]
                        go_wp2_with (first | (go_at_call 23; refine (lawIsLetter_any _ _).mono ?_; rintro e w' ⟨rfl, hw⟩; have hw' := hw.symm; subst hw'; clear hw) | (go_at_call 24; refine (lawLowerN_any k _ hk2).mono ?_; rintro e w' ⟨rfl, hw⟩; have hw' := hw.symm; subst hw'; clear hw) | (go_at_call 25; refine (lawUpperN_any k _ hk2).mono ?_; rintro e w' ⟨rfl, hw⟩; have hw' := hw.symm; subst hw'; clear hw))
                        go_meet
                        case rel => exact ⟨by rw [E.out], rfl⟩
                      · rw [h1] at hc
                        have E : Hid (wantM false (memF ms.data.toList) ms.size k = true) := by simp [Hid, wantM, h1]
                        go_wp2_with (first | (go_at_call 23; refine (lawIsLetter_any _ _).mono ?_; rintro e w' ⟨rfl, hw⟩; have hw' := hw.symm; subst hw'; clear hw) | (go_at_call 24; refine (lawLowerN_any k _ hk2).mono ?_; rintro e w' ⟨rfl, hw⟩; have hw' := hw.symm; subst hw'; clear hw) | (go_at_call 25; refine (lawUpperN_any k _ hk2).mono ?_; rintro e w' ⟨rfl, hw⟩; have hw' := hw.symm; subst hw'; clear hw))
                        go_meet
                        case rel => exact ⟨by rw [E.out], rfl⟩
                    · cases h1 : memB (memF ms.data.toList) ms.size k
                      · rw [h1] at hc
                        cases h3 : letB (k : Int)
                        · have E : Hid (wantM true (memF ms.data.toList) ms.size k = false) := by simp [Hid, wantM, h1, h3]
                          go_wp2_with (first | (go_at_call 23; refine (lawIsLetter_any _ _).mono ?_; rintro e w' ⟨rfl, hw⟩; have hw' := hw.symm; subst hw'; clear hw) | (go_at_call 24; refine (lawLowerN_any k _ hk2).mono ?_; rintro e w' ⟨rfl, hw⟩; have hw' := hw.symm; subst hw'; clear hw) | (go_at_call 25; refine (lawUpperN_any k _ hk2).mono ?_; rintro e w' ⟨rfl, hw⟩; have hw' := hw.symm; subst hw'; clear hw))
                          go_meet
                          case rel => exact ⟨by rw [E.out], rfl⟩
                        · cases h4 : memB (memF ms.data.toList) ms.size (lowN k)
                          · rw [h4] at hlo
                            cases h5 : memB (memF ms.data.toList) ms.size (upN k)
                            · rw [h5] at hup
                              have E : Hid (wantM true (memF ms.data.toList) ms.size k = false) := by simp [Hid, wantM, h1, h3, h4, h5]
                              go_wp2_with (first | (go_at_call 23; refine (lawIsLetter_any _ _).mono ?_; rintro e w' ⟨rfl, hw⟩; have hw' := hw.symm; subst hw'; clear hw) | (go_at_call 24; refine (lawLowerN_any k _ hk2).mono ?_; rintro e w' ⟨rfl, hw⟩; have hw' := hw.symm; subst hw'; clear hw) | (go_at_call 25; refine (lawUpperN_any k _ hk2).mono ?_; rintro e w' ⟨rfl, hw⟩; have hw' := hw.symm; subst hw'; clear hw))
                              go_meet
                              case rel => exact ⟨by rw [E.out], rfl⟩
                            · rw [h5] at hup
                              have E : Hid (wantM true (memF ms.data.toList) ms.size k = true) := by simp [Hid, wantM, h1, h3, h4, h5]
                              go_wp2_with (first | (go_at_call 23; refine (lawIsLetter_any _ _).mono ?_; rintro e w' ⟨rfl, hw⟩; have hw' := hw.symm; subst hw'; clear hw) | (go_at_call 24; refine (lawLowerN_any k _ hk2).mono ?_; rintro e w' ⟨rfl, hw⟩; have hw' := hw.symm; subst hw'; clear hw) | (go_at_call 25; refine (lawUpperN_any k _ hk2).mono ?_; rintro e w' ⟨rfl, hw⟩; have hw' := hw.symm; subst hw'; clear hw))
                              go_meet
                              case rel => exact ⟨by rw [E.out], rfl⟩
                          · rw [h4] at hlo
                            have E : Hid (wantM true (memF ms.data.toList) ms.size k = true) := by simp [Hid, wantM, h1, h3, h4]
                            go_wp2_with (first | (go_at_call 23; refine (lawIsLetter_any _ _).mono ?_; rintro e w' ⟨rfl, hw⟩; have hw' := hw.symm; subst hw'; clear hw) | (go_at_call 24; refine (lawLowerN_any k _ hk2).mono ?_; rintro e w' ⟨rfl, hw⟩; have hw' := hw.symm; subst hw'; clear hw) | (go_at_call 25; refine (lawUpperN_any k _ hk2).mono ?_; rintro e w' ⟨rfl, hw⟩; have hw' := hw.symm; subst hw'; clear hw))
                            go_meet
                            case rel => exact ⟨by rw [E.out], rfl⟩
                      · rw [h1] at hc
                        have E : Hid (wantM true (memF ms.data.toList) ms.size k = true) := by simp [Hid, wantM, h1]
                        go_wp2_with (first | (go_at_call 23; refine (lawIsLetter_any _ _).mono ?_; rintro e w' ⟨rfl, hw⟩; have hw' := hw.symm; subst hw'; clear hw) | (go_at_call 24; refine (lawLowerN_any k _ hk2).mono ?_; rintro e w' ⟨rfl, hw⟩; have hw' := hw.symm; subst hw'; clear hw) | (go_at_call 25; refine (lawUpperN_any k _ hk2).mono ?_; rintro e w' ⟨rfl, hw⟩; have hw' := hw.symm; subst hw'; clear hw))
                        go_meet
                        case rel => exact ⟨by rw [E.out], rfl⟩
                  case rest =>
                    obtain ⟨rfl, hwc⟩ := hcut
                    subst hwc
                    have c0 := HMM.out.cl.cell 0 (by omega)
                    have c1 := HMM.out.cl.cell 1 (by omega)
                    have c2 := HMM.out.cl.cell 2 (by omega)
                    have c3 := HMM.out.cl.cell 3 (by omega)
                    have hR := HR.out k hk2
                    by_cases h47 : k = 47
                    · have hx : R k = false := by rw [hR, h47]; simp
                      have h47b : ((k : Int) == 47) = true := beq_iff_eq.2 (by omega)
                      clear hR h47
                      go_wp2_with (go_at_call 26; refine (hasBit_out _ R k hk2).mono ?_; rintro e w10 ⟨rfl, hb10⟩)
                      go_roundg (256 - (k + 1))
                      case rel => exact ⟨k + 1, rfl, by omega, by go_num, HMM.out.kept hb10⟩
                      case measure => omega
                    · have hkb : (k == 47) = false := beq_eq_false_iff_ne.2 h47
                      have hx : R k = wantM f (memF ms.data.toList) ms.size k := by rw [hR, hkb]; simp
                      have h47b : ((k : Int) == 47) = false := beq_eq_false_iff_ne.2 (by omega)
                      clear hR h47 hkb
                      go_wp2_with (go_at_call 26; refine (hasBit_out _ R k hk2).mono ?_; rintro e w10 ⟨rfl, hb10⟩)
                      go_roundg (256 - (k + 1))
                      case rel => exact ⟨k + 1, rfl, by omega, by go_num, HMM.out.kept hb10⟩
                      case measure => omega
                · go_wp2_with fail
                  go_ret
                  exact ⟨rfl, HMM.out.cl.below⟩

set_option maxRecDepth 100000 in
set_option maxHeartbeats 4000000 in
theorem sm_walk_in_10 (f : Bool) (ms tail : ByteArray) (w : World) (h1 : ms.size ≤ 65536) (h2 : tail.size ≤ 65536) (hp : 0 < ms.size) :
    Calls Try.prog 8 #[.bool f, .bool false, .bool true, .string ms, .string tail] w fun e w' => e = .returned (.bool true) ∧ Below w.heap.size w w' := by
  have hLM : ms.data.toList.length = ms.size := (Lib.size_eq ms).symm
  have hLT : tail.data.toList.length = tail.size := (Lib.size_eq tail).symm
  have HC := (show Hid _ from fun w => sm_in f true ms.data.toList tail.data.toList (by omega) (by omega) w)
  have HE := (show Hid _ from smPre_end true ms.data.toList tail.data.toList ms.size hLM.symm)
  have HR := (show Hid _ from fun k hk => sm_want f false true (memF ms.data.toList) (fun _ => UInt8.toNat_lt _) ms.size k hk)
  rw [hLM] at HC
  generalize hRR : smS f false true (memF ms.data.toList) ms.size = R at *
  clear hRR
  generalize hTX : smTxt true ms.data.toList tail.data.toList = TX at *
  clear hTX hLM hLT
  go_enter Try.func8, Try.ntmps8
  go_wp2_with (first | (go_at_call 21; refine (zz21_yes _ _ _ _ _ _ h1 h2).mono ?_; rintro e w' ⟨rfl, hw⟩; have hw' := hw.symm; subst hw'; clear hw) | (at_make; refine wpList_mk tBs rfl _ _ rfl w.heap.size _ (3 + 2 * ms.size + tail.size) rfl rfl (by omega) (by omega) (Nat.le_refl _) ?_; intro w1 hb1 hB1; have hs1 := hB1.size) | (at_builtin; refine wpList_app tBs rfl (.tmp 50) (.tmp 51) rfl [91] _ one_91 1 1 rfl rfl rfl hb1 (by omega) (by omega) ?_; intro a2 cap2 w2 hb2 hB2; have hs2 := hB2.size) | (at_builtin; refine wpList_app tBs rfl (.tmp 54) (.tmp 55) rfl [94] _ one_94 1 1 rfl rfl rfl hb2 (by omega) (by omega) ?_; intro a3 cap3 w3 hb3 hB3; have hs3 := hB3.size))
  have hbl0 : Below w.heap.size w w3 := ((hB1.trans hB2).trans hB3)
  have hbf0 := hb3
  rw [smPre_1 ms.data.toList] at hbf0
  clear hb1 hB1 hs1 hb2 hB2 hs2 hb3 hB3 hs3
  go_loopg [11, 13] ms.size (fun g bv kv wr => ∃ (k : Nat) (a : Option Addr) (cap : Nat), g = ms.size - k ∧ k ≤ ms.size ∧ kv = .int .i64 k ∧ bv = .slice a (2 + 2 * k) cap ∧ Hid (Buf 5 w.heap.size wr a (2 + 2 * k) cap (smPre true ms.data.toList k)) ∧ Below w.heap.size w wr)
  case atStart => exact ⟨0, _, _, rfl, by omega, rfl, rfl, hbf0, hbl0⟩
  case round =>
    obtain ⟨k, a, cap, rfl, hk, rfl, rfl, HBF, hbl⟩ := hrel
    clear hbf0 hbl0
    have hsz := hbl.size
    by_cases hk2 : k < ms.size
    · have hbf := HBF.out
      go_wp2_with (at_builtin; refine wpList_app tBs rfl (.tmp 63) (.tmp 67) rfl [92, ms[k]] _ (two_sm ms[k]) 2 2 rfl rfl rfl hbf (by omega) (by omega) ?_; intro a3 cap3 w3 hb3 hB3)
      rw [smPre_step true ms k hk2] at hb3
      go_roundg (ms.size - (k + 1))
      case rel => exact ⟨k + 1, a3, cap3, rfl, by omega, by go_num, rfl, hb3, hbl.trans hB3⟩
      case measure => omega
    · have hkk : k = ms.size := by omega
      subst hkk
      have hbf := HBF.out
      clear hk hk2 HBF
      go_wp2_with (first | (at_builtin; refine wpList_app tBs rfl (.tmp 69) (.tmp 70) rfl [93] _ one_93 1 1 rfl rfl rfl hbf (by omega) (by omega) ?_; intro a3 cap3 w3 hb3 hB3; have hs3 := hB3.size) | (at_builtin; refine wpList_appS tBs Try.underlying9 rfl (.tmp 74) (.tmp 75) rfl tail rfl rfl hb3 (by omega) (by omega) ?_; intro a4 cap4 w4 hb4 hB4; have hs4 := hB4.size; rw [HE.out] at hb4; have hcv := hb4.str tBs Try.underlying9; clear hb4) | (go_at_call 22; refine (HC.out _).mono ?_; rintro e w9 ⟨rfl, hb9⟩; have hbel : Below w.heap.size w w9 := ((hbl.trans hB3).trans hB4).trans (hb9.mono (by omega)); clear hb9))
      clear HC HE hcv hbf hb3 hB3 hs3 hB4 hs4 hbl hsz
      have hmm0 := MM.start (R := R) hbel
      unfold clsA at hmm0
      go_loopg [20] ms.size (fun g kv wr => ∃ k : Nat, g = ms.size - k ∧ k ≤ ms.size ∧ kv = .int .i64 k ∧ Hid (MM R (memB (memF ms.data.toList) k) w9.heap.size (w9.heap.size + 1) w wr))
      case atStart => exact ⟨0, rfl, by omega, rfl, hmm0.congr (fun _ => rfl)⟩
      case round =>
        obtain ⟨k, rfl, hk, rfl, HMM⟩ := hrel
        clear hmm0
        by_cases hk2 : k < ms.size
        · have hfr := HMM.out.free (ms[k].toNat)
          have hce := HMM.out.cell (ms[k].toNat) (UInt8.toNat_lt _)
          have hlt := UInt8.toNat_lt ms[k]
          have hme := (show Hid _ from memF_get ms k hk2)
          go_wp2_with fail
          go_roundg (ms.size - (k + 1))
          case rel => exact ⟨k + 1, rfl, by omega, by go_num, (HMM.out.set ms[k].toNat).congr (fun i => by rw [hme.out]; rfl)⟩
          case measure => omega
        · have hkk : k = ms.size := by omega
          subst hkk
          clear hk hk2
          go_wp2_with fail
          go_loopg [21, 22, 23] 256 (fun g cv _ _ wr => ∃ k : Nat, g = 256 - k ∧ k ≤ 256 ∧ cv = .int .i64 k ∧ Hid (MM R (memB (memF ms.data.toList) ms.size) w9.heap.size (w9.heap.size + 1) w wr))
          case atStart => exact ⟨0, rfl, by omega, rfl, HMM.out⟩
          case round =>
            clear HMM
            obtain ⟨k, rfl, hk1, rfl, HMM⟩ := hrel
            by_cases hk2 : k < 256
            · go_upto_region 38 with fail
              go_cut [23] (fun wv wc => wv = .bool (wantM f (memF ms.data.toList) ms.size k) ∧ wc = wr)
              case first =>
                have hc := HMM.out.cell k hk2
                have hlo := HMM.out.cell (lowN k) (lowN_lt k hk2)
                have hup := HMM.out.cell (upN k) (upN_lt k hk2)
                have hll := lowN_lt k hk2
                have huu := upN_lt k hk2
                cases f
                · cases h1 : memB (memF ms.data.toList) ms.size k
                  · rw [h1] at hc
                    have E : Hid (wantM false (memF ms.data.toList) ms.size k = false) := by simp [Hid, wantM, h1]
                    go_wp2_with (first | (go_at_call 23; refine (lawIsLetter_any _ _).mono ?_; rintro e w' ⟨rfl, hw⟩; have hw' := hw.symm; subst hw'; clear hw) | (go_at_call 24; refine (lawLowerN_any k _ hk2).mono ?_; rintro e w' ⟨rfl, hw⟩; have hw' := hw.symm; subst hw'; clear hw) | (go_at_call 25; refine (lawUpperN_any k _ hk2).mono ?_; rintro e w' ⟨rfl, hw⟩; have hw' := hw.symm; subst hw'; clear hw))
                    go_meet
                    case rel => exact ⟨by rw [E.out], rfl⟩
                  · rw [h1] at hc
                    have E : Hid (wantM false (memF ms.data.toList) ms.size k = true) := by simp [Hid, wantM, h1]
                    go_wp2_with (first | (go_at_call 23; refine (lawIsLetter_any _ _).mono ?_; rintro e w' ⟨rfl, hw⟩; have hw' := hw.symm; subst hw'; clear hw) | (go_at_call 24; refine (lawLowerN_any k _ hk2).mono ?_; rintro e w' ⟨rfl, hw⟩; have hw' := hw.symm; subst hw'; clear hw) | (go_at_call 25; refine (lawUpperN_any k _ hk2).mono ?_; rintro e w' ⟨rfl, hw⟩; have hw' := hw.symm; subst hw'; clear hw))
                    go_meet
                    case rel => exact ⟨by rw [E.out], rfl⟩
                · cases h1 : memB (memF ms.data.toList) ms.size k
                  · rw [h1] at hc
                    cases h3 : letB (k : Int)
                    · have E : Hid (wantM true (memF ms.data.toList) ms.size k = false) := by simp [Hid, wantM, h1, h3]
                      go_wp2_with (first | (go_at_call 23; refine (lawIsLetter_any _ _).mono ?_; rintro e w' ⟨rfl, hw⟩; have hw' := hw.symm; subst hw'; clear hw) | (go_at_call 24; refine (lawLowerN_any k _ hk2).mono ?_; rintro e w' ⟨rfl, hw⟩; have hw' := hw.symm; subst hw'; clear hw) | (go_at_call 25; refine (lawUpperN_any k _ hk2).mono ?_; rintro e w' ⟨rfl, hw⟩; have hw' := hw.symm; subst hw'; clear hw))
                      go_meet
                      case rel => exact ⟨by rw [E.out], rfl⟩
                    · cases h4 : memB (memF ms.data.toList) ms.size (lowN k)
                      · rw [h4] at hlo
                        cases h5 : memB (memF ms.data.toList) ms.size (upN k)
                        · rw [h5] at hup
                          have E : Hid (wantM true (memF ms.data.toList) ms.size k = false) := by simp [Hid, wantM, h1, h3, h4, h5]
                          go_wp2_with (first | (go_at_call 23; refine (lawIsLetter_any _ _).mono ?_; rintro e w' ⟨rfl, hw⟩; have hw' := hw.symm; subst hw'; clear hw) | (go_at_call 24; refine (lawLowerN_any k _ hk2).mono ?_; rintro e w' ⟨rfl, hw⟩; have hw' := hw.symm; subst hw'; clear hw) | (go_at_call 25; refine (lawUpperN_any k _ hk2).mono ?_; rintro e w' ⟨rfl, hw⟩; have hw' := hw.symm; subst hw'; clear hw))
                          go_meet
                          case rel => exact ⟨by rw [E.out], rfl⟩
                        · rw [h5] at hup
                          have E : Hid (wantM true (memF ms.data.toList) ms.size k = true) := by simp [Hid, wantM, h1, h3, h4, h5]
                          go_wp2_with (first | (go_at_call 23; refine (lawIsLetter_any _ _).mono ?_; rintro e w' ⟨rfl, hw⟩; have hw' := hw.symm; subst hw'; clear hw) | (go_at_call 24; refine (lawLowerN_any k _ hk2).mono ?_; rintro e w' ⟨rfl, hw⟩; have hw' := hw.symm; subst hw'; clear hw) | (go_at_call 25; refine (lawUpperN_any k _ hk2).mono ?_; rintro e w' ⟨rfl, hw⟩; have hw' := hw.symm; subst hw'; clear hw))
                          go_meet
                          case rel => exact ⟨by rw [E.out], rfl⟩
                      · rw [h4] at hlo
                        have E : Hid (wantM true (memF ms.data.toList) ms.size k = true) := by simp [Hid, wantM, h1, h3, h4]
                        go_wp2_with (first | (go_at_call 23; refine (lawIsLetter_any _ _).mono ?_; rintro e w' ⟨rfl, hw⟩; have hw' := hw.symm; subst hw'; clear hw) | (go_at_call 24; refine (lawLowerN_any k _ hk2).mono ?_; rintro e w' ⟨rfl, hw⟩; have hw' := hw.symm; subst hw'; clear hw) | (go_at_call 25; refine (lawUpperN_any k _ hk2).mono ?_; rintro e w' ⟨rfl, hw⟩; have hw' := hw.symm; subst hw'; clear hw))
                        go_meet
                        case rel => exact ⟨by rw [E.out], rfl⟩
                  · rw [h1] at hc
                    have E : Hid (wantM true (memF ms.data.toList) ms.size k = true) := by simp [Hid, wantM, h1]
                    go_wp2_with (first | (go_at_call 23; refine (lawIsLetter_any _ _).mono ?_; rintro e w' ⟨rfl, hw⟩; have hw' := hw.symm; subst hw'; clear hw) | (go_at_call 24; refine (lawLowerN_any k _ hk2).mono ?_; rintro e w' ⟨rfl, hw⟩; have hw' := hw.symm; subst hw'; clear hw) | (go_at_call 25; refine (lawUpperN_any k _ hk2).mono ?_; rintro e w' ⟨rfl, hw⟩; have hw' := hw.symm; subst hw'; clear hw))
                    go_meet
                    case rel => exact ⟨by rw [E.out], rfl⟩
              case rest =>
                obtain ⟨rfl, hwc⟩ := hcut
                subst hwc
                have c0 := HMM.out.cl.cell 0 (by omega)
                have c1 := HMM.out.cl.cell 1 (by omega)
                have c2 := HMM.out.cl.cell 2 (by omega)
                have c3 := HMM.out.cl.cell 3 (by omega)
                have hR := HR.out k hk2
                have hx : R k = (!wantM f (memF ms.data.toList) ms.size k) := by rw [hR]; simp
                clear hR
                go_wp2_with (go_at_call 26; refine (hasBit_out _ R k hk2).mono ?_; rintro e w10 ⟨rfl, hb10⟩)
                go_roundg (256 - (k + 1))
                case rel => exact ⟨k + 1, rfl, by omega, by go_num, HMM.out.kept hb10⟩
                case measure => omega
            · go_wp2_with fail
              go_ret
              exact ⟨rfl, HMM.out.cl.below⟩

set_option maxRecDepth 100000 in
set_option maxHeartbeats 4000000 in
theorem sm_walk_no_11 (f : Bool) (ms tail : ByteArray) (w : World) (h1 : ms.size ≤ 65536) (h2 : tail.size ≤ 65536) (hp : 0 < ms.size) (J : Nat) (hJ : J < ms.size) (hgo : ∀ j, j < J → ¬ memF ms.data.toList j = 47) (hend : memF ms.data.toList J = 47) :
    Calls Try.prog 8 #[.bool f, .bool true, .bool true, .string ms, .string tail] w fun e w' => e = .returned (.bool true) ∧ Below w.heap.size w w' := by
  have hLM : ms.data.toList.length = ms.size := (Lib.size_eq ms).symm
  have hLT : tail.data.toList.length = tail.size := (Lib.size_eq tail).symm
  have HC := (show Hid _ from fun w => sm_no f true ms.data.toList tail.data.toList (by omega) (by omega) J (by omega) hgo hend w)
  have HE := (show Hid _ from smPre_end true ms.data.toList tail.data.toList ms.size hLM.symm)
  have HGO := (show Hid _ from hgo)
  have HEND := (show Hid _ from hend)
  generalize hTX : smTxt true ms.data.toList tail.data.toList = TX at *
  clear hTX hLM hLT hgo hend
  go_enter Try.func8, Try.ntmps8
  go_wp2_with (first | (go_at_call 21; refine (zz21_yes _ _ _ _ _ _ h1 h2).mono ?_; rintro e w' ⟨rfl, hw⟩; have hw' := hw.symm; subst hw'; clear hw) | (at_make; refine wpList_mk tBs rfl _ _ rfl w.heap.size _ (3 + 2 * ms.size + tail.size) rfl rfl (by omega) (by omega) (Nat.le_refl _) ?_; intro w1 hb1 hB1; have hs1 := hB1.size) | (at_builtin; refine wpList_app tBs rfl (.tmp 50) (.tmp 51) rfl [91] _ one_91 1 1 rfl rfl rfl hb1 (by omega) (by omega) ?_; intro a2 cap2 w2 hb2 hB2; have hs2 := hB2.size) | (at_builtin; refine wpList_app tBs rfl (.tmp 54) (.tmp 55) rfl [94] _ one_94 1 1 rfl rfl rfl hb2 (by omega) (by omega) ?_; intro a3 cap3 w3 hb3 hB3; have hs3 := hB3.size))
  have hbl0 : Below w.heap.size w w3 := ((hB1.trans hB2).trans hB3)
  have hbf0 := hb3
  rw [smPre_1 ms.data.toList] at hbf0
  clear hb1 hB1 hs1 hb2 hB2 hs2 hb3 hB3 hs3
  go_loopg [11, 13] ms.size (fun g bv kv wr => ∃ (k : Nat) (a : Option Addr) (cap : Nat), g = ms.size - k ∧ k ≤ ms.size ∧ kv = .int .i64 k ∧ bv = .slice a (2 + 2 * k) cap ∧ Hid (Buf 5 w.heap.size wr a (2 + 2 * k) cap (smPre true ms.data.toList k)) ∧ Below w.heap.size w wr)
  case atStart => exact ⟨0, _, _, rfl, by omega, rfl, rfl, hbf0, hbl0⟩
  case round =>
    obtain ⟨k, a, cap, rfl, hk, rfl, rfl, HBF, hbl⟩ := hrel
    clear hbf0 hbl0
    have hsz := hbl.size
    by_cases hk2 : k < ms.size
    · have hbf := HBF.out
      go_wp2_with (at_builtin; refine wpList_app tBs rfl (.tmp 63) (.tmp 67) rfl [92, ms[k]] _ (two_sm ms[k]) 2 2 rfl rfl rfl hbf (by omega) (by omega) ?_; intro a3 cap3 w3 hb3 hB3)
      rw [smPre_step true ms k hk2] at hb3
      go_roundg (ms.size - (k + 1))
      case rel => exact ⟨k + 1, a3, cap3, rfl, by omega, by go_num, rfl, hb3, hbl.trans hB3⟩
      case measure => omega
    · have hkk : k = ms.size := by omega
      subst hkk
      have hbf := HBF.out
      clear hk hk2 HBF
      go_wp2_with (first | (at_builtin; refine wpList_app tBs rfl (.tmp 69) (.tmp 70) rfl [93] _ one_93 1 1 rfl rfl rfl hbf (by omega) (by omega) ?_; intro a3 cap3 w3 hb3 hB3; have hs3 := hB3.size) | (at_builtin; refine wpList_appS tBs Try.underlying9 rfl (.tmp 74) (.tmp 75) rfl tail rfl rfl hb3 (by omega) (by omega) ?_; intro a4 cap4 w4 hb4 hB4; have hs4 := hB4.size; rw [HE.out] at hb4; have hcv := hb4.str tBs Try.underlying9; clear hb4) | (go_at_call 22; refine (HC.out _).mono ?_; rintro e w9 ⟨rfl, hb9⟩; have hbel : Below w.heap.size w w9 := ((hbl.trans hB3).trans hB4).trans (hb9.mono (by omega)); clear hb9))
      clear HC HE hcv hbf hb3 hB3 hs3 hB4 hs4 hbl hsz
      go_loopg [18] (J + 1) (fun g kv wr => ∃ k : Nat, g = J + 1 - k ∧ k ≤ J ∧ kv = .int .i64 k ∧ wr = w9.alloc (.cells #[.int .u64 0, .int .u64 0, .int .u64 0, .int .u64 0] 34))
      case atStart => exact ⟨0, rfl, by omega, rfl, rfl⟩
      case round =>
        obtain ⟨k, rfl, hk, rfl, hwr⟩ := hrel
        subst hwr
        have hk2 : k < ms.size := by omega
        by_cases hkJ : k < J
        · have hne : ((ms[k].toNat : Int) == 47) = false := beq_eq_false_iff_ne.2 (by have h := HGO.out k hkJ; have h2 := memF_get ms k hk2; omega)
          go_wp2_with fail
          go_roundg (J + 1 - (k + 1))
          case rel => exact ⟨k + 1, rfl, by omega, by go_num, rfl⟩
          case measure => omega
        · have hkk : k = J := by omega
          subst hkk
          have hne : ((ms[k].toNat : Int) == 47) = true := beq_iff_eq.2 (by have h := HEND.out; have h2 := memF_get ms k hk2; omega)
          go_wp2_with fail
          go_ret
          exact ⟨rfl, hbel.alloc hbel.size _⟩

set_option maxRecDepth 100000 in
set_option maxHeartbeats 4000000 in
theorem sm_walk_yes_11 (f : Bool) (ms tail : ByteArray) (w : World) (h1 : ms.size ≤ 65536) (h2 : tail.size ≤ 65536) (hp : 0 < ms.size) (hgo : ∀ j, j < ms.size → ¬ memF ms.data.toList j = 47) :
    Calls Try.prog 8 #[.bool f, .bool true, .bool true, .string ms, .string tail] w fun e w' => e = .returned (.bool true) ∧ Below w.heap.size w w' := by
  have hLM : ms.data.toList.length = ms.size := (Lib.size_eq ms).symm
  have hLT : tail.data.toList.length = tail.size := (Lib.size_eq tail).symm
  have HC := (show Hid _ from fun w => sm_yes f true ms.data.toList tail.data.toList (by omega) (by omega) (fun j hj => hgo j (by omega)) w)
  have HE := (show Hid _ from smPre_end true ms.data.toList tail.data.toList ms.size hLM.symm)
  have HR := (show Hid _ from fun k hk => sm_want f true true (memF ms.data.toList) (fun _ => UInt8.toNat_lt _) ms.size k hk)
  rw [hLM] at HC
  generalize hRR : smS f true true (memF ms.data.toList) ms.size = R at *
  clear hRR
  have HGO := (show Hid _ from hgo)
  generalize hTX : smTxt true ms.data.toList tail.data.toList = TX at *
  clear hTX hLM hLT hgo
  go_enter Try.func8, Try.ntmps8
  go_wp2_with (first | (go_at_call 21; refine (zz21_yes _ _ _ _ _ _ h1 h2).mono ?_; rintro e w' ⟨rfl, hw⟩; have hw' := hw.symm; subst hw'; clear hw) | (at_make; refine wpList_mk tBs rfl _ _ rfl w.heap.size _ (3 + 2 * ms.size + tail.size) rfl rfl (by omega) (by omega) (Nat.le_refl _) ?_; intro w1 hb1 hB1; have hs1 := hB1.size) | (at_builtin; refine wpList_app tBs rfl (.tmp 50) (.tmp 51) rfl [91] _ one_91 1 1 rfl rfl rfl hb1 (by omega) (by omega) ?_; intro a2 cap2 w2 hb2 hB2; have hs2 := hB2.size) | (at_builtin; refine wpList_app tBs rfl (.tmp 54) (.tmp 55) rfl [94] _ one_94 1 1 rfl rfl rfl hb2 (by omega) (by omega) ?_; intro a3 cap3 w3 hb3 hB3; have hs3 := hB3.size))
  have hbl0 : Below w.heap.size w w3 := ((hB1.trans hB2).trans hB3)
  have hbf0 := hb3
  rw [smPre_1 ms.data.toList] at hbf0
  clear hb1 hB1 hs1 hb2 hB2 hs2 hb3 hB3 hs3
  go_loopg [11, 13] ms.size (fun g bv kv wr => ∃ (k : Nat) (a : Option Addr) (cap : Nat), g = ms.size - k ∧ k ≤ ms.size ∧ kv = .int .i64 k ∧ bv = .slice a (2 + 2 * k) cap ∧ Hid (Buf 5 w.heap.size wr a (2 + 2 * k) cap (smPre true ms.data.toList k)) ∧ Below w.heap.size w wr)
  case atStart => exact ⟨0, _, _, rfl, by omega, rfl, rfl, hbf0, hbl0⟩
  case round =>
    obtain ⟨k, a, cap, rfl, hk, rfl, rfl, HBF, hbl⟩ := hrel
    clear hbf0 hbl0
    have hsz := hbl.size
    by_cases hk2 : k < ms.size
    · have hbf := HBF.out
      go_wp2_with (at_builtin; refine wpList_app tBs rfl (.tmp 63) (.tmp 67) rfl [92, ms[k]] _ (two_sm ms[k]) 2 2 rfl rfl rfl hbf (by omega) (by omega) ?_; intro a3 cap3 w3 hb3 hB3)
      rw [smPre_step true ms k hk2] at hb3
      go_roundg (ms.size - (k + 1))
      case rel => exact ⟨k + 1, a3, cap3, rfl, by omega, by go_num, rfl, hb3, hbl.trans hB3⟩
      case measure => omega
    · have hkk : k = ms.size := by omega
      subst hkk
      have hbf := HBF.out
      clear hk hk2 HBF
      go_wp2_with (first | (at_builtin; refine wpList_app tBs rfl (.tmp 69) (.tmp 70) rfl [93] _ one_93 1 1 rfl rfl rfl hbf (by omega) (by omega) ?_; intro a3 cap3 w3 hb3 hB3; have hs3 := hB3.size) | (at_builtin; refine wpList_appS tBs Try.underlying9 rfl (.tmp 74) (.tmp 75) rfl tail rfl rfl hb3 (by omega) (by omega) ?_; intro a4 cap4 w4 hb4 hB4; have hs4 := hB4.size; rw [HE.out] at hb4; have hcv := hb4.str tBs Try.underlying9; clear hb4) | (go_at_call 22; refine (HC.out _).mono ?_; rintro e w9 ⟨rfl, hb9⟩; have hbel : Below w.heap.size w w9 := ((hbl.trans hB3).trans hB4).trans (hb9.mono (by omega)); clear hb9))
      clear HC HE hcv hbf hb3 hB3 hs3 hB4 hs4 hbl hsz
      go_loopg [18] (ms.size + 1) (fun g kv wr => ∃ k : Nat, g = ms.size + 1 - k ∧ k ≤ ms.size ∧ kv = .int .i64 k ∧ wr = w9.alloc (.cells #[.int .u64 ((Cls.wd R 0 : Nat) : Int), .int .u64 ((Cls.wd R 1 : Nat) : Int), .int .u64 ((Cls.wd R 2 : Nat) : Int), .int .u64 ((Cls.wd R 3 : Nat) : Int)] 34))
      case atStart => exact ⟨0, rfl, by omega, rfl, rfl⟩
      case round =>
        obtain ⟨k, rfl, hk, rfl, hwr⟩ := hrel
        subst hwr
        by_cases hk2 : k < ms.size
        · have hne : ((ms[k].toNat : Int) == 47) = false := beq_eq_false_iff_ne.2 (by have h := HGO.out k hk2; have h2 := memF_get ms k hk2; omega)
          go_wp2_with fail
          go_roundg (ms.size + 1 - (k + 1))
          case rel => exact ⟨k + 1, rfl, by omega, by go_num, rfl⟩
          case measure => omega
        · have hkk : k = ms.size := by omega
          subst hkk
          clear hk hk2
          go_wp2_with fail
          have hmm0 := MM.start (R := R) hbel
          unfold clsA at hmm0
          go_loopg [20] ms.size (fun g kv wr => ∃ k : Nat, g = ms.size - k ∧ k ≤ ms.size ∧ kv = .int .i64 k ∧ Hid (MM R (memB (memF ms.data.toList) k) w9.heap.size (w9.heap.size + 1) w wr))
          case atStart => exact ⟨0, rfl, by omega, rfl, hmm0.congr (fun _ => rfl)⟩
          case round =>
            obtain ⟨k, rfl, hk, rfl, HMM⟩ := hrel
            clear hmm0
            by_cases hk2 : k < ms.size
            · have hfr := HMM.out.free (ms[k].toNat)
              have hce := HMM.out.cell (ms[k].toNat) (UInt8.toNat_lt _)
              have hlt := UInt8.toNat_lt ms[k]
              have hme := (show Hid _ from memF_get ms k hk2)
              go_wp2_with fail
              go_roundg (ms.size - (k + 1))
              case rel => exact ⟨k + 1, rfl, by omega, by go_num, (HMM.out.set ms[k].toNat).congr (fun i => by rw [hme.out]; rfl)⟩
              case measure => omega
            · have hkk : k = ms.size := by omega
              subst hkk
              clear hk hk2
              go_wp2_with fail
              go_loopg [21, 22, 23] 256 (fun g cv _ _ wr => ∃ k : Nat, g = 256 - k ∧ k ≤ 256 ∧ cv = .int .i64 k ∧ Hid (MM R (memB (memF ms.data.toList) ms.size) w9.heap.size (w9.heap.size + 1) w wr))
              case atStart => exact ⟨0, rfl, by omega, rfl, HMM.out⟩
              case round =>
                clear HMM
                obtain ⟨k, rfl, hk1, rfl, HMM⟩ := hrel
                by_cases hk2 : k < 256
                · go_upto_region 38 with fail
                  go_cut [23] (fun wv wc => wv = .bool (wantM f (memF ms.data.toList) ms.size k) ∧ wc = wr)
                  case first =>
                    have hc := HMM.out.cell k hk2
                    have hlo := HMM.out.cell (lowN k) (lowN_lt k hk2)
                    have hup := HMM.out.cell (upN k) (upN_lt k hk2)
                    have hll := lowN_lt k hk2
                    have huu := upN_lt k hk2
                    cases f
                    · cases h1 : memB (memF ms.data.toList) ms.size k
                      · rw [h1] at hc
                        have E : Hid (wantM false (memF ms.data.toList) ms.size k = false) := by simp [Hid, wantM, h1]
                        go_wp2_with (first | (go_at_call 23; refine (lawIsLetter_any _ _).mono ?_; rintro e w' ⟨rfl, hw⟩; have hw' := hw.symm; subst hw'; clear hw) | (go_at_call 24; refine (lawLowerN_any k _ hk2).mono ?_; rintro e w' ⟨rfl, hw⟩; have hw' := hw.symm; subst hw'; clear hw) | (go_at_call 25; refine (lawUpperN_any k _ hk2).mono ?_; rintro e w' ⟨rfl, hw⟩; have hw' := hw.symm; subst hw'; clear hw))
                        go_meet
                        case rel => exact ⟨by rw [E.out], rfl⟩
                      · rw [h1] at hc
                        have E : Hid (wantM false (memF ms.data.toList) ms.size k = true) := by simp [Hid, wantM, h1]
                        go_wp2_with (first | (go_at_call 23; refine (lawIsLetter_any _ _).mono ?_; rintro e w' ⟨rfl, hw⟩; have hw' := hw.symm; subst hw'; clear hw) | (go_at_call 24; refine (lawLowerN_any k _ hk2).mono ?_; rintro e w' ⟨rfl, hw⟩; have hw' := hw.symm; subst hw'; clear hw) | (go_at_call 25; refine (lawUpperN_any k _ hk2).mono ?_; rintro e w' ⟨rfl, hw⟩; have hw' := hw.symm; subst hw'; clear hw))
                        go_meet
                        case rel => exact ⟨by rw [E.out], rfl⟩
                    · cases h1 : memB (memF ms.data.toList) ms.size k
                      · rw [h1] at hc
                        cases h3 : letB (k : Int)
                        · have E : Hid (wantM true (memF ms.data.toList) ms.size k = false) := by simp [Hid, wantM, h1, h3]
                          go_wp2_with (first | (go_at_call 23; refine (lawIsLetter_any _ _).mono ?_; rintro e w' ⟨rfl, hw⟩; have hw' := hw.symm; subst hw'; clear hw) | (go_at_call 24; refine (lawLowerN_any k _ hk2).mono ?_; rintro e w' ⟨rfl, hw⟩; have hw' := hw.symm; subst hw'; clear hw) | (go_at_call 25; refine (lawUpperN_any k _ hk2).mono ?_; rintro e w' ⟨rfl, hw⟩; have hw' := hw.symm; subst hw'; clear hw))
                          go_meet
                          case rel => exact ⟨by rw [E.out], rfl⟩
                        · cases h4 : memB (memF ms.data.toList) ms.size (lowN k)
                          · rw [h4] at hlo
                            cases h5 : memB (memF ms.data.toList) ms.size (upN k)
                            · rw [h5] at hup
                              have E : Hid (wantM true (memF ms.data.toList) ms.size k = false) := by simp [Hid, wantM, h1, h3, h4, h5]
                              go_wp2_with (first | (go_at_call 23; refine (lawIsLetter_any _ _).mono ?_; rintro e w' ⟨rfl, hw⟩; have hw' := hw.symm; subst hw'; clear hw) | (go_at_call 24; refine (lawLowerN_any k _ hk2).mono ?_; rintro e w' ⟨rfl, hw⟩; have hw' := hw.symm; subst hw'; clear hw) | (go_at_call 25; refine (lawUpperN_any k _ hk2).mono ?_; rintro e w' ⟨rfl, hw⟩; have hw' := hw.symm; subst hw'; clear hw))
                              go_meet
                              case rel => exact ⟨by rw [E.out], rfl⟩
                            · rw [h5] at hup
                              have E : Hid (wantM true (memF ms.data.toList) ms.size k = true) := by simp [Hid, wantM, h1, h3, h4, h5]
                              go_wp2_with (first | (go_at_call 23; refine (lawIsLetter_any _ _).mono ?_; rintro e w' ⟨rfl, hw⟩; have hw' := hw.symm; subst hw'; clear hw) | (go_at_call 24; refine (lawLowerN_any k _ hk2).mono ?_; rintro e w' ⟨rfl, hw⟩; have hw' := hw.symm; subst hw'; clear hw) | (go_at_call 25; refine (lawUpperN_any k _ hk2).mono ?_; rintro e w' ⟨rfl, hw⟩; have hw' := hw.symm; subst hw'; clear hw))
                              go_meet
                              case rel => exact ⟨by rw [E.out], rfl⟩
                          · rw [h4] at hlo
                            have E : Hid (wantM true (memF ms.data.toList) ms.size k = true) := by simp [Hid, wantM, h1, h3, h4]
                            go_wp2_with (first | (go_at_call 23; refine (lawIsLetter_any _ _).mono ?_; rintro e w' ⟨rfl, hw⟩; have hw' := hw.symm; subst hw'; clear hw) | (go_at_call 24; refine (lawLowerN_any k _ hk2).mono ?_; rintro e w' ⟨rfl, hw⟩; have hw' := hw.symm; subst hw'; clear hw) | (go_at_call 25; refine (lawUpperN_any k _ hk2).mono ?_; rintro e w' ⟨rfl, hw⟩; have hw' := hw.symm; subst hw'; clear hw))
                            go_meet
                            case rel => exact ⟨by rw [E.out], rfl⟩
                      · rw [h1] at hc
                        have E : Hid (wantM true (memF ms.data.toList) ms.size k = true) := by simp [Hid, wantM, h1]
                        go_wp2_with (first | (go_at_call 23; refine (lawIsLetter_any _ _).mono ?_; rintro e w' ⟨rfl, hw⟩; have hw' := hw.symm; subst hw'; clear hw) | (go_at_call 24; refine (lawLowerN_any k _ hk2).mono ?_; rintro e w' ⟨rfl, hw⟩; have hw' := hw.symm; subst hw'; clear hw) | (go_at_call 25; refine (lawUpperN_any k _ hk2).mono ?_; rintro e w' ⟨rfl, hw⟩; have hw' := hw.symm; subst hw'; clear hw))
                        go_meet
                        case rel => exact ⟨by rw [E.out], rfl⟩
                  case rest =>
                    obtain ⟨rfl, hwc⟩ := hcut
                    subst hwc
                    have c0 := HMM.out.cl.cell 0 (by omega)
                    have c1 := HMM.out.cl.cell 1 (by omega)
                    have c2 := HMM.out.cl.cell 2 (by omega)
                    have c3 := HMM.out.cl.cell 3 (by omega)
                    have hR := HR.out k hk2
                    by_cases h47 : k = 47
                    · have hx : R k = false := by rw [hR, h47]; simp
                      have h47b : ((k : Int) == 47) = true := beq_iff_eq.2 (by omega)
                      clear hR h47
                      go_wp2_with (go_at_call 26; refine (hasBit_out _ R k hk2).mono ?_; rintro e w10 ⟨rfl, hb10⟩)
                      go_roundg (256 - (k + 1))
                      case rel => exact ⟨k + 1, rfl, by omega, by go_num, HMM.out.kept hb10⟩
                      case measure => omega
                    · have hkb : (k == 47) = false := beq_eq_false_iff_ne.2 h47
                      have hx : R k = (!wantM f (memF ms.data.toList) ms.size k) := by rw [hR, hkb]; simp
                      have h47b : ((k : Int) == 47) = false := beq_eq_false_iff_ne.2 (by omega)
                      clear hR h47 hkb
                      go_wp2_with (go_at_call 26; refine (hasBit_out _ R k hk2).mono ?_; rintro e w10 ⟨rfl, hb10⟩)
                      go_roundg (256 - (k + 1))
                      case rel => exact ⟨k + 1, rfl, by omega, by go_num, HMM.out.kept hb10⟩
                      case measure => omega
                · go_wp2_with fail
                  go_ret
                  exact ⟨rfl, HMM.out.cl.below⟩
end Go.Proofs.Qxb6000758a
