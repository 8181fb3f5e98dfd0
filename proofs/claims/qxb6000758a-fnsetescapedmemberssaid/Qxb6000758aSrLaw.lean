/-
  FnSetRange (9), walked.
-/
import Derived.Test.Qxb6000758aSrTop
import Derived.Test.Qxb6000758aSetSet
namespace Go.Proofs.Qxb6000758a
open Go.RowKit

attribute [local go_sem] eq34

theorem tBs : BytesIn Try.prog 23 5 := by
  refine ⟨Try.underlying23, Try.underlying5, ?_⟩
  have h : (Try.prog.info? 5).map (fun i => (i.zero, i.size, i.bytes)) = some (some (.int .u8 0), 1, 1) := by kernel_rfl
  obtain ⟨i, hi, hz0, hz1, hz2⟩ := info_parts h
  exact ⟨i, hi, hz0, hz1, hz2⟩
theorem size_mk' (l : List UInt8) : (⟨l.toArray⟩ : ByteArray).size = l.length := by simp [ByteArray.size]
theorem one_91 : [Value.int .u8 91] = [(91 : UInt8)].map cel := rfl
theorem one_94 : [Value.int .u8 94] = [(94 : UInt8)].map cel := rfl
theorem six_sr (bl bh : UInt8) : [Value.int .u8 92, Value.int .u8 (bl.toNat : Int), Value.int .u8 45, Value.int .u8 92, Value.int .u8 (bh.toNat : Int), Value.int .u8 93] = [(92 : UInt8), bl, 45, 92, bh, 93].map cel := rfl

theorem sr_size_0 (bl bh : UInt8) (tail : ByteArray) : (⟨(srTxt false bl bh tail.data.toList).toArray⟩ : ByteArray).size = 7 + tail.size := by
  rw [size_mk', Lib.size_eq tail]; simp [srTxt]; omega
theorem sr_set_0 (f p : Bool) (bl bh : UInt8) (tail : ByteArray) (ht : tail.size ≤ 65536) (w : World) :
    Calls Try.prog 31 #[.agg #[.bool f, .bool p, .bool false], .string ⟨(srTxt false bl bh tail.data.toList).toArray⟩] w fun e w' =>
      e = .returned (if p = true ∧ bl.toNat = 47 then .tuple #[.agg #[.int .u64 0, .int .u64 0, .int .u64 0, .int .u64 0], .int .i64 0, .int .i64 2]
        else if p = true ∧ bh.toNat = 47 then .tuple #[.agg #[.int .u64 0, .int .u64 0, .int .u64 0, .int .u64 0], .int .i64 0, .int .i64 5]
        else .tuple #[.agg (clsA (wildS p (arS f Cls.none bl.toNat bh.toNat))), .int .i64 7, .int .i64 0]) ∧ Below w.heap.size w w' := by
  have hs := sr_size_0 bl bh tail
  exact set_range_0 ⟨(srTxt false bl bh tail.data.toList).toArray⟩ w f p bl.toNat bh.toNat bl.toNat_lt bh.toNat_lt (by rw [hs]; omega) (by rw [hs]; omega) rfl rfl rfl rfl rfl rfl

theorem sr_size_1 (bl bh : UInt8) (tail : ByteArray) : (⟨(srTxt true bl bh tail.data.toList).toArray⟩ : ByteArray).size = 8 + tail.size := by
  rw [size_mk', Lib.size_eq tail]; simp [srTxt]; omega
theorem sr_set_1 (f p : Bool) (bl bh : UInt8) (tail : ByteArray) (ht : tail.size ≤ 65536) (w : World) :
    Calls Try.prog 31 #[.agg #[.bool f, .bool p, .bool false], .string ⟨(srTxt true bl bh tail.data.toList).toArray⟩] w fun e w' =>
      e = .returned (if p = true ∧ bl.toNat = 47 then .tuple #[.agg #[.int .u64 0, .int .u64 0, .int .u64 0, .int .u64 0], .int .i64 0, .int .i64 3]
        else if p = true ∧ bh.toNat = 47 then .tuple #[.agg #[.int .u64 0, .int .u64 0, .int .u64 0, .int .u64 0], .int .i64 0, .int .i64 6]
        else .tuple #[.agg (clsA (wildS p (Cls.compl (arS f Cls.none bl.toNat bh.toNat)))), .int .i64 8, .int .i64 0]) ∧ Below w.heap.size w w' := by
  have hs := sr_size_1 bl bh tail
  exact set_range_1 ⟨(srTxt true bl bh tail.data.toList).toArray⟩ w f p bl.toNat bh.toNat bl.toNat_lt bh.toNat_lt (by rw [hs]; omega) (by rw [hs]; omega) rfl rfl rfl rfl rfl rfl rfl

theorem sr_lo (neg f : Bool) (bl bh : UInt8) (tail : ByteArray) (ht : tail.size ≤ 65536) (hl : bl.toNat = 47) (w : World) :
    Calls Try.prog 22 #[.bool f, .bool true, .bool false, .string ⟨(srTxt neg bl bh tail.data.toList).toArray⟩] w fun e w' => e = .returned (.tuple #[.agg #[.int .u64 0, .int .u64 0, .int .u64 0, .int .u64 0], .int .i64 0, .int .i64 (if neg then 3 else 2)]) ∧ Below w.heap.size w w' := by
  refine zz22_of _ w f true false 0 0 0 0 0 _ ?_
  intro w
  cases neg
  · have := sr_set_0 f true bl bh tail ht w
    rw [if_pos ⟨rfl, hl⟩] at this; exact this
  · have := sr_set_1 f true bl bh tail ht w
    rw [if_pos ⟨rfl, hl⟩] at this; exact this
theorem sr_hi (neg f : Bool) (bl bh : UInt8) (tail : ByteArray) (ht : tail.size ≤ 65536) (hl : ¬ bl.toNat = 47) (hh : bh.toNat = 47) (w : World) :
    Calls Try.prog 22 #[.bool f, .bool true, .bool false, .string ⟨(srTxt neg bl bh tail.data.toList).toArray⟩] w fun e w' => e = .returned (.tuple #[.agg #[.int .u64 0, .int .u64 0, .int .u64 0, .int .u64 0], .int .i64 0, .int .i64 (if neg then 6 else 5)]) ∧ Below w.heap.size w w' := by
  refine zz22_of _ w f true false 0 0 0 0 0 _ ?_
  intro w
  cases neg
  · have := sr_set_0 f true bl bh tail ht w
    rw [if_neg (fun h => hl h.2), if_pos ⟨rfl, hh⟩] at this; exact this
  · have := sr_set_1 f true bl bh tail ht w
    rw [if_neg (fun h => hl h.2), if_pos ⟨rfl, hh⟩] at this; exact this
theorem sr_in (neg f p : Bool) (bl bh : UInt8) (tail : ByteArray) (ht : tail.size ≤ 65536) (hl : p = true → ¬ bl.toNat = 47) (hh : p = true → ¬ bh.toNat = 47) (w : World) :
    Calls Try.prog 22 #[.bool f, .bool p, .bool false, .string ⟨(srTxt neg bl bh tail.data.toList).toArray⟩] w fun e w' => e = .returned (.tuple #[.agg #[.int .u64 ((Cls.wd (resS f p neg bl.toNat bh.toNat) 0 : Nat) : Int), .int .u64 ((Cls.wd (resS f p neg bl.toNat bh.toNat) 1 : Nat) : Int), .int .u64 ((Cls.wd (resS f p neg bl.toNat bh.toNat) 2 : Nat) : Int), .int .u64 ((Cls.wd (resS f p neg bl.toNat bh.toNat) 3 : Nat) : Int)], .int .i64 (if neg then 8 else 7), .int .i64 0]) ∧ Below w.heap.size w w' := by
  refine zz22_of _ w f p false _ _ _ _ _ 0 ?_
  intro w
  cases neg
  · have := sr_set_0 f p bl bh tail ht w
    rw [if_neg (fun h => hl h.1 h.2), if_neg (fun h => hh h.1 h.2)] at this; exact this
  · have := sr_set_1 f p bl bh tail ht w
    rw [if_neg (fun h => hl h.1 h.2), if_neg (fun h => hh h.1 h.2)] at this; exact this

/-- What the law's last loop knows of memory. -/
structure CL (R : Nat → Bool) (G : Nat) (w wr : World) : Prop where
  cell : ∀ j, j < 4 → wr.cell? ⟨G, j, none⟩ = some (.int .u64 ((Cls.wd R j : Nat) : Int))
  below : Below w.heap.size w wr
  lt : G < wr.heap.size
theorem CL.kept {R : Nat → Bool} {G : Nat} {w wr w' : World} (h : CL R G w wr) (hb : Below wr.heap.size wr w') : CL R G w w' :=
  ⟨fun j hj => (hb.cell (p := ⟨G, j, none⟩) h.lt).trans (h.cell j hj), h.below.trans (hb.mono h.below.size), Nat.lt_of_lt_of_le h.lt hb.size⟩
theorem CL.start {R : Nat → Bool} {w w4 : World} (hb : Below w.heap.size w w4) : CL R w4.heap.size w (w4.alloc (.cells (clsA R) 34)) := by
  refine ⟨fun j hj => ?_, hb.alloc hb.size _, by simp⟩
  rw [cell_of_row _ w4.heap.size j _ 34 (0, 0) (heap_alloc_new w4 _)]
  rcases four_cases hj with rfl | rfl | rfl | rfl <;> rfl

set_option maxRecDepth 100000 in
set_option maxHeartbeats 2000000 in
theorem sr_walk_lo_0 (f : Bool) (bl bh : UInt8) (tail : ByteArray) (w : World) (ht : tail.size ≤ 65536) (hl : bl.toNat = 47) :
    Calls Try.prog 9 #[.bool f, .bool true, .bool false, .int .u8 (bl.toNat : Int), .int .u8 (bh.toNat : Int), .string tail] w fun e w' => e = .returned (.bool true) ∧ Below w.heap.size w w' := by
  have HC := (show Hid _ from fun w => sr_lo false f bl bh tail ht hl w)
  have HL : Hid (∀ (w1 : World) (a1 : Option Addr) (m1 cap1 : Nat), Buf 5 w.heap.size w1 a1 m1 cap1 ([] ++ [91] ++ [92, bl, 45, 92, bh, 93] ++ tail.data.toList) → Buf 5 w.heap.size w1 a1 m1 cap1 (srTxt false bl bh tail.data.toList)) := by
    intro w1 a1 m1 cap1 h; simpa [srTxt] using h
  have hT : Hid True := trivial
  generalize hTX : srTxt false bl bh tail.data.toList = TX at *
  have hq : ((bl.toNat : Int) == 47) = true := beq_iff_eq.2 (by omega)
  clear hl hTX
  go_enter Try.func9, Try.ntmps9
  go_wp2_with (first | (go_at_call 27; refine (zz27_yes _ _ _ _ _ _ _ ht).mono ?_; rintro e w' ⟨rfl, hw⟩; have hw' := hw.symm; subst hw'; clear hw) | (at_make; refine wpList_mk tBs rfl _ _ rfl w.heap.size _ (8 + tail.size) rfl rfl (by omega) (by omega) (Nat.le_refl _) ?_; intro w1 hb1 hB1; have hs1 := hB1.size) | (at_builtin; refine wpList_app tBs rfl (.tmp 37) (.tmp 38) rfl [91] _ one_91 1 1 rfl rfl rfl hb1 (by omega) (by omega) ?_; intro a2 cap2 w2 hb2 hB2; have hs2 := hB2.size) | (at_builtin; refine wpList_app tBs rfl (.tmp 44) (.tmp 47) rfl [92, bl, 45, 92, bh, 93] _ (six_sr bl bh) 6 6 rfl rfl rfl hb2 (by omega) (by omega) ?_; intro a3 cap3 w3 hb3 hB3; have hs3 := hB3.size) | (at_builtin; refine wpList_appS tBs Try.underlying9 rfl (.tmp 51) (.tmp 52) rfl tail rfl rfl hb3 (by omega) (by omega) ?_; intro a4 cap4 w4 hb4 hB4; have hs4 := hB4.size; have hcv := (HL.out _ _ _ _ hb4).str tBs Try.underlying9; clear hb4) | (go_at_call 22; refine (HC.out _).mono ?_; rintro e w9 ⟨rfl, hb9⟩; have hbel : Below w.heap.size w w9 := ((((hB1).trans hB2).trans hB3).trans hB4).trans (hb9.mono (by omega)); clear hb9))
  go_ret
  exact ⟨rfl, hbel.alloc hbel.size _⟩

set_option maxRecDepth 100000 in
set_option maxHeartbeats 2000000 in
theorem sr_walk_hi_0 (f : Bool) (bl bh : UInt8) (tail : ByteArray) (w : World) (ht : tail.size ≤ 65536) (hl : ¬ bl.toNat = 47) (hh : bh.toNat = 47) :
    Calls Try.prog 9 #[.bool f, .bool true, .bool false, .int .u8 (bl.toNat : Int), .int .u8 (bh.toNat : Int), .string tail] w fun e w' => e = .returned (.bool true) ∧ Below w.heap.size w w' := by
  have HC := (show Hid _ from fun w => sr_hi false f bl bh tail ht hl hh w)
  have HL : Hid (∀ (w1 : World) (a1 : Option Addr) (m1 cap1 : Nat), Buf 5 w.heap.size w1 a1 m1 cap1 ([] ++ [91] ++ [92, bl, 45, 92, bh, 93] ++ tail.data.toList) → Buf 5 w.heap.size w1 a1 m1 cap1 (srTxt false bl bh tail.data.toList)) := by
    intro w1 a1 m1 cap1 h; simpa [srTxt] using h
  have hT : Hid True := trivial
  generalize hTX : srTxt false bl bh tail.data.toList = TX at *
  have hq : ((bl.toNat : Int) == 47) = false := beq_eq_false_iff_ne.2 (by omega)
  have hq2 : ((bh.toNat : Int) == 47) = true := beq_iff_eq.2 (by omega)
  clear hl hh hTX
  go_enter Try.func9, Try.ntmps9
  go_wp2_with (first | (go_at_call 27; refine (zz27_yes _ _ _ _ _ _ _ ht).mono ?_; rintro e w' ⟨rfl, hw⟩; have hw' := hw.symm; subst hw'; clear hw) | (at_make; refine wpList_mk tBs rfl _ _ rfl w.heap.size _ (8 + tail.size) rfl rfl (by omega) (by omega) (Nat.le_refl _) ?_; intro w1 hb1 hB1; have hs1 := hB1.size) | (at_builtin; refine wpList_app tBs rfl (.tmp 37) (.tmp 38) rfl [91] _ one_91 1 1 rfl rfl rfl hb1 (by omega) (by omega) ?_; intro a2 cap2 w2 hb2 hB2; have hs2 := hB2.size) | (at_builtin; refine wpList_app tBs rfl (.tmp 44) (.tmp 47) rfl [92, bl, 45, 92, bh, 93] _ (six_sr bl bh) 6 6 rfl rfl rfl hb2 (by omega) (by omega) ?_; intro a3 cap3 w3 hb3 hB3; have hs3 := hB3.size) | (at_builtin; refine wpList_appS tBs Try.underlying9 rfl (.tmp 51) (.tmp 52) rfl tail rfl rfl hb3 (by omega) (by omega) ?_; intro a4 cap4 w4 hb4 hB4; have hs4 := hB4.size; have hcv := (HL.out _ _ _ _ hb4).str tBs Try.underlying9; clear hb4) | (go_at_call 22; refine (HC.out _).mono ?_; rintro e w9 ⟨rfl, hb9⟩; have hbel : Below w.heap.size w w9 := ((((hB1).trans hB2).trans hB3).trans hB4).trans (hb9.mono (by omega)); clear hb9))
  go_ret
  exact ⟨rfl, hbel.alloc hbel.size _⟩

set_option maxRecDepth 100000 in
set_option maxHeartbeats 2000000 in
theorem sr_walk_lo_1 (f : Bool) (bl bh : UInt8) (tail : ByteArray) (w : World) (ht : tail.size ≤ 65536) (hl : bl.toNat = 47) :
    Calls Try.prog 9 #[.bool f, .bool true, .bool true, .int .u8 (bl.toNat : Int), .int .u8 (bh.toNat : Int), .string tail] w fun e w' => e = .returned (.bool true) ∧ Below w.heap.size w w' := by
  have HC := (show Hid _ from fun w => sr_lo true f bl bh tail ht hl w)
  have HL : Hid (∀ (w1 : World) (a1 : Option Addr) (m1 cap1 : Nat), Buf 5 w.heap.size w1 a1 m1 cap1 ([] ++ [91] ++ [94] ++ [92, bl, 45, 92, bh, 93] ++ tail.data.toList) → Buf 5 w.heap.size w1 a1 m1 cap1 (srTxt true bl bh tail.data.toList)) := by
    intro w1 a1 m1 cap1 h; simpa [srTxt] using h
  have hT : Hid True := trivial
  generalize hTX : srTxt true bl bh tail.data.toList = TX at *
  have hq : ((bl.toNat : Int) == 47) = true := beq_iff_eq.2 (by omega)
  clear hl hTX
  go_enter Try.func9, Try.ntmps9
  go_wp2_with (first | (go_at_call 27; refine (zz27_yes _ _ _ _ _ _ _ ht).mono ?_; rintro e w' ⟨rfl, hw⟩; have hw' := hw.symm; subst hw'; clear hw) | (at_make; refine wpList_mk tBs rfl _ _ rfl w.heap.size _ (8 + tail.size) rfl rfl (by omega) (by omega) (Nat.le_refl _) ?_; intro w1 hb1 hB1; have hs1 := hB1.size) | (at_builtin; refine wpList_app tBs rfl (.tmp 37) (.tmp 38) rfl [91] _ one_91 1 1 rfl rfl rfl hb1 (by omega) (by omega) ?_; intro a2 cap2 w2 hb2 hB2; have hs2 := hB2.size) | (at_builtin; refine wpList_app tBs rfl (.tmp 41) (.tmp 42) rfl [94] _ one_94 1 1 rfl rfl rfl hb2 (by omega) (by omega) ?_; intro a3 cap3 w3 hb3 hB3; have hs3 := hB3.size) | (at_builtin; refine wpList_app tBs rfl (.tmp 44) (.tmp 47) rfl [92, bl, 45, 92, bh, 93] _ (six_sr bl bh) 6 6 rfl rfl rfl hb3 (by omega) (by omega) ?_; intro a4 cap4 w4 hb4 hB4; have hs4 := hB4.size) | (at_builtin; refine wpList_appS tBs Try.underlying9 rfl (.tmp 51) (.tmp 52) rfl tail rfl rfl hb4 (by omega) (by omega) ?_; intro a5 cap5 w5 hb5 hB5; have hs5 := hB5.size; have hcv := (HL.out _ _ _ _ hb5).str tBs Try.underlying9; clear hb5) | (go_at_call 22; refine (HC.out _).mono ?_; rintro e w9 ⟨rfl, hb9⟩; have hbel : Below w.heap.size w w9 := (((((hB1).trans hB2).trans hB3).trans hB4).trans hB5).trans (hb9.mono (by omega)); clear hb9))
  go_ret
  exact ⟨rfl, hbel.alloc hbel.size _⟩

set_option maxRecDepth 100000 in
set_option maxHeartbeats 2000000 in
theorem sr_walk_hi_1 (f : Bool) (bl bh : UInt8) (tail : ByteArray) (w : World) (ht : tail.size ≤ 65536) (hl : ¬ bl.toNat = 47) (hh : bh.toNat = 47) :
    Calls Try.prog 9 #[.bool f, .bool true, .bool true, .int .u8 (bl.toNat : Int), .int .u8 (bh.toNat : Int), .string tail] w fun e w' => e = .returned (.bool true) ∧ Below w.heap.size w w' := by
  have HC := (show Hid _ from fun w => sr_hi true f bl bh tail ht hl hh w)
  have HL : Hid (∀ (w1 : World) (a1 : Option Addr) (m1 cap1 : Nat), Buf 5 w.heap.size w1 a1 m1 cap1 ([] ++ [91] ++ [94] ++ [92, bl, 45, 92, bh, 93] ++ tail.data.toList) → Buf 5 w.heap.size w1 a1 m1 cap1 (srTxt true bl bh tail.data.toList)) := by
    intro w1 a1 m1 cap1 h; simpa [srTxt] using h
  have hT : Hid True := trivial
  generalize hTX : srTxt true bl bh tail.data.toList = TX at *
  have hq : ((bl.toNat : Int) == 47) = false := beq_eq_false_iff_ne.2 (by omega)
  have hq2 : ((bh.toNat : Int) == 47) = true := beq_iff_eq.2 (by omega)
  clear hl hh hTX
  go_enter Try.func9, Try.ntmps9
  go_wp2_with (first | (go_at_call 27; refine (zz27_yes _ _ _ _ _ _ _ ht).mono ?_; rintro e w' ⟨rfl, hw⟩; have hw' := hw.symm; subst hw'; clear hw) | (at_make; refine wpList_mk tBs rfl _ _ rfl w.heap.size _ (8 + tail.size) rfl rfl (by omega) (by omega) (Nat.le_refl _) ?_; intro w1 hb1 hB1; have hs1 := hB1.size) | (at_builtin; refine wpList_app tBs rfl (.tmp 37) (.tmp 38) rfl [91] _ one_91 1 1 rfl rfl rfl hb1 (by omega) (by omega) ?_; intro a2 cap2 w2 hb2 hB2; have hs2 := hB2.size) | (at_builtin; refine wpList_app tBs rfl (.tmp 41) (.tmp 42) rfl [94] _ one_94 1 1 rfl rfl rfl hb2 (by omega) (by omega) ?_; intro a3 cap3 w3 hb3 hB3; have hs3 := hB3.size) | (at_builtin; refine wpList_app tBs rfl (.tmp 44) (.tmp 47) rfl [92, bl, 45, 92, bh, 93] _ (six_sr bl bh) 6 6 rfl rfl rfl hb3 (by omega) (by omega) ?_; intro a4 cap4 w4 hb4 hB4; have hs4 := hB4.size) | (at_builtin; refine wpList_appS tBs Try.underlying9 rfl (.tmp 51) (.tmp 52) rfl tail rfl rfl hb4 (by omega) (by omega) ?_; intro a5 cap5 w5 hb5 hB5; have hs5 := hB5.size; have hcv := (HL.out _ _ _ _ hb5).str tBs Try.underlying9; clear hb5) | (go_at_call 22; refine (HC.out _).mono ?_; rintro e w9 ⟨rfl, hb9⟩; have hbel : Below w.heap.size w w9 := (((((hB1).trans hB2).trans hB3).trans hB4).trans hB5).trans (hb9.mono (by omega)); clear hb9))
  go_ret
  exact ⟨rfl, hbel.alloc hbel.size _⟩

set_option maxRecDepth 100000 in
set_option maxHeartbeats 4000000 in
theorem sr_walk_in_00 (f : Bool) (bl bh : UInt8) (tail : ByteArray) (w : World) (ht : tail.size ≤ 65536)  :
    Calls Try.prog 9 #[.bool f, .bool false, .bool false, .int .u8 (bl.toNat : Int), .int .u8 (bh.toNat : Int), .string tail] w fun e w' => e = .returned (.bool true) ∧ Below w.heap.size w w' := by
  have HC := (show Hid _ from fun w => sr_in false f false bl bh tail ht (fun h => by cases h) (fun h => by cases h) w)
  have HL : Hid (∀ (w1 : World) (a1 : Option Addr) (m1 cap1 : Nat), Buf 5 w.heap.size w1 a1 m1 cap1 ([] ++ [91] ++ [92, bl, 45, 92, bh, 93] ++ tail.data.toList) → Buf 5 w.heap.size w1 a1 m1 cap1 (srTxt false bl bh tail.data.toList)) := by
    intro w1 a1 m1 cap1 h; simpa [srTxt] using h
  generalize hTX : srTxt false bl bh tail.data.toList = TX at *
  have HR : Hid (∀ k, resS f false false bl.toNat bh.toNat k = (if false && k == 47 then false else if false then !want0 f bl.toNat bh.toNat k else want0 f bl.toNat bh.toNat k)) := fun k => res_want f false false bl.toNat bh.toNat k
  generalize hRR : resS f false false bl.toNat bh.toNat = R at *
  clear hRR hTX
  go_enter Try.func9, Try.ntmps9
  go_wp2_with (first | (go_at_call 27; refine (zz27_yes _ _ _ _ _ _ _ ht).mono ?_; rintro e w' ⟨rfl, hw⟩; have hw' := hw.symm; subst hw'; clear hw) | (at_make; refine wpList_mk tBs rfl _ _ rfl w.heap.size _ (8 + tail.size) rfl rfl (by omega) (by omega) (Nat.le_refl _) ?_; intro w1 hb1 hB1; have hs1 := hB1.size) | (at_builtin; refine wpList_app tBs rfl (.tmp 37) (.tmp 38) rfl [91] _ one_91 1 1 rfl rfl rfl hb1 (by omega) (by omega) ?_; intro a2 cap2 w2 hb2 hB2; have hs2 := hB2.size) | (at_builtin; refine wpList_app tBs rfl (.tmp 44) (.tmp 47) rfl [92, bl, 45, 92, bh, 93] _ (six_sr bl bh) 6 6 rfl rfl rfl hb2 (by omega) (by omega) ?_; intro a3 cap3 w3 hb3 hB3; have hs3 := hB3.size) | (at_builtin; refine wpList_appS tBs Try.underlying9 rfl (.tmp 51) (.tmp 52) rfl tail rfl rfl hb3 (by omega) (by omega) ?_; intro a4 cap4 w4 hb4 hB4; have hs4 := hB4.size; have hcv := (HL.out _ _ _ _ hb4).str tBs Try.underlying9; clear hb4) | (go_at_call 22; refine (HC.out _).mono ?_; rintro e w9 ⟨rfl, hb9⟩; have hbel : Below w.heap.size w w9 := ((((hB1).trans hB2).trans hB3).trans hB4).trans (hb9.mono (by omega)); clear hb9))
  have hcl0 := CL.start (R := R) hbel
  unfold clsA at hcl0
  clear HC HL hcv hB1 hs1 hB2 hs2 hB3 hs3 hB4 hs4
  go_loopg [19, 20, 21] 256 (fun g cv _ _ wr => ∃ k : Nat, g = 256 - k ∧ k ≤ 256 ∧ cv = .int .i64 k ∧ CL R w9.heap.size w wr)
  case atStart => exact ⟨0, rfl, by omega, rfl, hcl0⟩
  case round =>
    obtain ⟨k, rfl, hk1, rfl, hcl⟩ := hrel
    clear hcl0
    by_cases hk2 : k < 256
    · go_upto_region 25 with fail
      have HCL := (show Hid _ from hcl)
      clear hcl
      go_cut [21] (fun wv wc => wv = .bool (want0 f bl.toNat bh.toNat k) ∧ wc = wr)
      case first =>
        by_cases h1 : bl.toNat ≤ k ∧ k ≤ bh.toNat
        · obtain ⟨h1a, h1b⟩ := h1
          have E : Hid (want0 f bl.toNat bh.toNat k = true) := by simp [Hid, want0, h1a, h1b]
          go_wp2_with (first | (go_at_call_of 24 (Value.int IntKind.u8 (bl.toNat : Int)); refine (lawLowerN_any bl.toNat _ bl.toNat_lt).mono ?_; rintro e w' ⟨rfl, hw⟩; have hw' := hw.symm; subst hw') | (go_at_call_of 24 (Value.int IntKind.u8 (bh.toNat : Int)); refine (lawLowerN_any bh.toNat _ bh.toNat_lt).mono ?_; rintro e w' ⟨rfl, hw⟩; have hw' := hw.symm; subst hw') | (go_at_call_of 24 (Value.int IntKind.u8 (k : Int)); refine (lawLowerN_any k _ hk2).mono ?_; rintro e w' ⟨rfl, hw⟩; have hw' := hw.symm; subst hw'))
          go_meet
          case rel => exact ⟨by rw [E.out], rfl⟩
        cases f
        · have E : Hid (want0 false bl.toNat bh.toNat k = false) := by
            show want0 _ _ _ _ = false
            unfold want0
            rw [Bool.false_and, Bool.or_false, ← Bool.decide_and]; exact decide_eq_false h1
          rcases (show ¬ bl.toNat ≤ k ∨ (bl.toNat ≤ k ∧ ¬ k ≤ bh.toNat) by omega) with h | ⟨h, h'⟩
          all_goals
            clear h1
            go_wp2_with (first | (go_at_call_of 24 (Value.int IntKind.u8 (bl.toNat : Int)); refine (lawLowerN_any bl.toNat _ bl.toNat_lt).mono ?_; rintro e w' ⟨rfl, hw⟩; have hw' := hw.symm; subst hw') | (go_at_call_of 24 (Value.int IntKind.u8 (bh.toNat : Int)); refine (lawLowerN_any bh.toNat _ bh.toNat_lt).mono ?_; rintro e w' ⟨rfl, hw⟩; have hw' := hw.symm; subst hw') | (go_at_call_of 24 (Value.int IntKind.u8 (k : Int)); refine (lawLowerN_any k _ hk2).mono ?_; rintro e w' ⟨rfl, hw⟩; have hw' := hw.symm; subst hw'))
            go_meet
            case rel => exact ⟨by rw [E.out], rfl⟩
        · have E0 : want0 true bl.toNat bh.toNat k = (decide (lowN bl.toNat ≤ lowN k) && decide (lowN k ≤ lowN bh.toNat)) := by
            unfold want0
            rw [← Bool.decide_and, decide_eq_false h1]; simp
          have g0 := lowN_lt bl.toNat bl.toNat_lt
          have g1 := lowN_lt bh.toNat bh.toNat_lt
          have g2 := lowN_lt k hk2
          rcases (show ¬ bl.toNat ≤ k ∨ (bl.toNat ≤ k ∧ ¬ k ≤ bh.toNat) by omega) with h | ⟨h, h'⟩
          all_goals
            clear h1
            by_cases hA : lowN bl.toNat ≤ lowN k
            · by_cases hB : lowN k ≤ lowN bh.toNat
              · have E : Hid (want0 true bl.toNat bh.toNat k = true) := by show want0 _ _ _ _ = true; rw [E0]; simp [hA, hB]
                clear E0
                go_wp2_with (first | (go_at_call_of 24 (Value.int IntKind.u8 (bl.toNat : Int)); refine (lawLowerN_any bl.toNat _ bl.toNat_lt).mono ?_; rintro e w' ⟨rfl, hw⟩; have hw' := hw.symm; subst hw') | (go_at_call_of 24 (Value.int IntKind.u8 (bh.toNat : Int)); refine (lawLowerN_any bh.toNat _ bh.toNat_lt).mono ?_; rintro e w' ⟨rfl, hw⟩; have hw' := hw.symm; subst hw') | (go_at_call_of 24 (Value.int IntKind.u8 (k : Int)); refine (lawLowerN_any k _ hk2).mono ?_; rintro e w' ⟨rfl, hw⟩; have hw' := hw.symm; subst hw'))
                go_meet
                case rel => exact ⟨by rw [E.out], rfl⟩
              · have E : Hid (want0 true bl.toNat bh.toNat k = false) := by show want0 _ _ _ _ = false; rw [E0]; simp [hA, hB]
                clear E0
                go_wp2_with (first | (go_at_call_of 24 (Value.int IntKind.u8 (bl.toNat : Int)); refine (lawLowerN_any bl.toNat _ bl.toNat_lt).mono ?_; rintro e w' ⟨rfl, hw⟩; have hw' := hw.symm; subst hw') | (go_at_call_of 24 (Value.int IntKind.u8 (bh.toNat : Int)); refine (lawLowerN_any bh.toNat _ bh.toNat_lt).mono ?_; rintro e w' ⟨rfl, hw⟩; have hw' := hw.symm; subst hw') | (go_at_call_of 24 (Value.int IntKind.u8 (k : Int)); refine (lawLowerN_any k _ hk2).mono ?_; rintro e w' ⟨rfl, hw⟩; have hw' := hw.symm; subst hw'))
                go_meet
                case rel => exact ⟨by rw [E.out], rfl⟩
            · have E : Hid (want0 true bl.toNat bh.toNat k = false) := by show want0 _ _ _ _ = false; rw [E0]; simp [hA]
              clear E0
              go_wp2_with (first | (go_at_call_of 24 (Value.int IntKind.u8 (bl.toNat : Int)); refine (lawLowerN_any bl.toNat _ bl.toNat_lt).mono ?_; rintro e w' ⟨rfl, hw⟩; have hw' := hw.symm; subst hw') | (go_at_call_of 24 (Value.int IntKind.u8 (bh.toNat : Int)); refine (lawLowerN_any bh.toNat _ bh.toNat_lt).mono ?_; rintro e w' ⟨rfl, hw⟩; have hw' := hw.symm; subst hw') | (go_at_call_of 24 (Value.int IntKind.u8 (k : Int)); refine (lawLowerN_any k _ hk2).mono ?_; rintro e w' ⟨rfl, hw⟩; have hw' := hw.symm; subst hw'))
              go_meet
              case rel => exact ⟨by rw [E.out], rfl⟩
      case rest =>
        obtain ⟨rfl, hwc⟩ := hcut
        subst hwc
        have c0 := HCL.out.cell 0 (by omega)
        have c1 := HCL.out.cell 1 (by omega)
        have c2 := HCL.out.cell 2 (by omega)
        have c3 := HCL.out.cell 3 (by omega)
        have hR := HR.out k
        have hx : R k = (want0 f bl.toNat bh.toNat k) := by rw [hR]; simp
        clear hR
        go_wp2_with (go_at_call 26; refine (hasBit_out _ R k hk2).mono ?_; rintro e w10 ⟨rfl, hb10⟩)
        go_roundg (256 - (k + 1))
        case rel => exact ⟨k + 1, rfl, by omega, by go_num, HCL.out.kept hb10⟩
        case measure => omega
    · go_wp2_with fail
      go_ret
      exact ⟨rfl, hcl.below⟩

set_option maxRecDepth 100000 in
set_option maxHeartbeats 4000000 in
theorem sr_walk_in_01 (f : Bool) (bl bh : UInt8) (tail : ByteArray) (w : World) (ht : tail.size ≤ 65536) (hl : ¬ bl.toNat = 47) (hh : ¬ bh.toNat = 47) :
    Calls Try.prog 9 #[.bool f, .bool true, .bool false, .int .u8 (bl.toNat : Int), .int .u8 (bh.toNat : Int), .string tail] w fun e w' => e = .returned (.bool true) ∧ Below w.heap.size w w' := by
  have HC := (show Hid _ from fun w => sr_in false f true bl bh tail ht (fun _ => hl) (fun _ => hh) w)
  have HL : Hid (∀ (w1 : World) (a1 : Option Addr) (m1 cap1 : Nat), Buf 5 w.heap.size w1 a1 m1 cap1 ([] ++ [91] ++ [92, bl, 45, 92, bh, 93] ++ tail.data.toList) → Buf 5 w.heap.size w1 a1 m1 cap1 (srTxt false bl bh tail.data.toList)) := by
    intro w1 a1 m1 cap1 h; simpa [srTxt] using h
  generalize hTX : srTxt false bl bh tail.data.toList = TX at *
  have HR : Hid (∀ k, resS f true false bl.toNat bh.toNat k = (if true && k == 47 then false else if false then !want0 f bl.toNat bh.toNat k else want0 f bl.toNat bh.toNat k)) := fun k => res_want f true false bl.toNat bh.toNat k
  generalize hRR : resS f true false bl.toNat bh.toNat = R at *
  clear hRR hTX
  have hq : ((bl.toNat : Int) == 47) = false := beq_eq_false_iff_ne.2 (by omega)
  have hq2 : ((bh.toNat : Int) == 47) = false := beq_eq_false_iff_ne.2 (by omega)
  clear hl hh
  go_enter Try.func9, Try.ntmps9
  go_wp2_with (first | (go_at_call 27; refine (zz27_yes _ _ _ _ _ _ _ ht).mono ?_; rintro e w' ⟨rfl, hw⟩; have hw' := hw.symm; subst hw'; clear hw) | (at_make; refine wpList_mk tBs rfl _ _ rfl w.heap.size _ (8 + tail.size) rfl rfl (by omega) (by omega) (Nat.le_refl _) ?_; intro w1 hb1 hB1; have hs1 := hB1.size) | (at_builtin; refine wpList_app tBs rfl (.tmp 37) (.tmp 38) rfl [91] _ one_91 1 1 rfl rfl rfl hb1 (by omega) (by omega) ?_; intro a2 cap2 w2 hb2 hB2; have hs2 := hB2.size) | (at_builtin; refine wpList_app tBs rfl (.tmp 44) (.tmp 47) rfl [92, bl, 45, 92, bh, 93] _ (six_sr bl bh) 6 6 rfl rfl rfl hb2 (by omega) (by omega) ?_; intro a3 cap3 w3 hb3 hB3; have hs3 := hB3.size) | (at_builtin; refine wpList_appS tBs Try.underlying9 rfl (.tmp 51) (.tmp 52) rfl tail rfl rfl hb3 (by omega) (by omega) ?_; intro a4 cap4 w4 hb4 hB4; have hs4 := hB4.size; have hcv := (HL.out _ _ _ _ hb4).str tBs Try.underlying9; clear hb4) | (go_at_call 22; refine (HC.out _).mono ?_; rintro e w9 ⟨rfl, hb9⟩; have hbel : Below w.heap.size w w9 := ((((hB1).trans hB2).trans hB3).trans hB4).trans (hb9.mono (by omega)); clear hb9))
  have hcl0 := CL.start (R := R) hbel
  unfold clsA at hcl0
  clear HC HL hcv hB1 hs1 hB2 hs2 hB3 hs3 hB4 hs4
  go_loopg [19, 20, 21] 256 (fun g cv _ _ wr => ∃ k : Nat, g = 256 - k ∧ k ≤ 256 ∧ cv = .int .i64 k ∧ CL R w9.heap.size w wr)
  case atStart => exact ⟨0, rfl, by omega, rfl, hcl0⟩
  case round =>
    obtain ⟨k, rfl, hk1, rfl, hcl⟩ := hrel
    clear hcl0
    by_cases hk2 : k < 256
    · go_upto_region 25 with fail
      have HCL := (show Hid _ from hcl)
      clear hcl
      go_cut [21] (fun wv wc => wv = .bool (want0 f bl.toNat bh.toNat k) ∧ wc = wr)
      case first =>
        by_cases h1 : bl.toNat ≤ k ∧ k ≤ bh.toNat
        · obtain ⟨h1a, h1b⟩ := h1
          have E : Hid (want0 f bl.toNat bh.toNat k = true) := by simp [Hid, want0, h1a, h1b]
          go_wp2_with (first | (go_at_call_of 24 (Value.int IntKind.u8 (bl.toNat : Int)); refine (lawLowerN_any bl.toNat _ bl.toNat_lt).mono ?_; rintro e w' ⟨rfl, hw⟩; have hw' := hw.symm; subst hw') | (go_at_call_of 24 (Value.int IntKind.u8 (bh.toNat : Int)); refine (lawLowerN_any bh.toNat _ bh.toNat_lt).mono ?_; rintro e w' ⟨rfl, hw⟩; have hw' := hw.symm; subst hw') | (go_at_call_of 24 (Value.int IntKind.u8 (k : Int)); refine (lawLowerN_any k _ hk2).mono ?_; rintro e w' ⟨rfl, hw⟩; have hw' := hw.symm; subst hw'))
          go_meet
          case rel => exact ⟨by rw [E.out], rfl⟩
        cases f
        · have E : Hid (want0 false bl.toNat bh.toNat k = false) := by
            show want0 _ _ _ _ = false
            unfold want0
            rw [Bool.false_and, Bool.or_false, ← Bool.decide_and]; exact decide_eq_false h1
          rcases (show ¬ bl.toNat ≤ k ∨ (bl.toNat ≤ k ∧ ¬ k ≤ bh.toNat) by omega) with h | ⟨h, h'⟩
          all_goals
            clear h1
            go_wp2_with (first | (go_at_call_of 24 (Value.int IntKind.u8 (bl.toNat : Int)); refine (lawLowerN_any bl.toNat _ bl.toNat_lt).mono ?_; rintro e w' ⟨rfl, hw⟩; have hw' := hw.symm; subst hw') | (go_at_call_of 24 (Value.int IntKind.u8 (bh.toNat : Int)); refine (lawLowerN_any bh.toNat _ bh.toNat_lt).mono ?_; rintro e w' ⟨rfl, hw⟩; have hw' := hw.symm; subst hw') | (go_at_call_of 24 (Value.int IntKind.u8 (k : Int)); refine (lawLowerN_any k _ hk2).mono ?_; rintro e w' ⟨rfl, hw⟩; have hw' := hw.symm; subst hw'))
            go_meet
            case rel => exact ⟨by rw [E.out], rfl⟩
        · have E0 : want0 true bl.toNat bh.toNat k = (decide (lowN bl.toNat ≤ lowN k) && decide (lowN k ≤ lowN bh.toNat)) := by
            unfold want0
            rw [← Bool.decide_and, decide_eq_false h1]; simp
          have g0 := lowN_lt bl.toNat bl.toNat_lt
          have g1 := lowN_lt bh.toNat bh.toNat_lt
          have g2 := lowN_lt k hk2
          rcases (show ¬ bl.toNat ≤ k ∨ (bl.toNat ≤ k ∧ ¬ k ≤ bh.toNat) by omega) with h | ⟨h, h'⟩
          all_goals
            clear h1
            by_cases hA : lowN bl.toNat ≤ lowN k
            · by_cases hB : lowN k ≤ lowN bh.toNat
              · have E : Hid (want0 true bl.toNat bh.toNat k = true) := by show want0 _ _ _ _ = true; rw [E0]; simp [hA, hB]
                clear E0
                go_wp2_with (first | (go_at_call_of 24 (Value.int IntKind.u8 (bl.toNat : Int)); refine (lawLowerN_any bl.toNat _ bl.toNat_lt).mono ?_; rintro e w' ⟨rfl, hw⟩; have hw' := hw.symm; subst hw') | (go_at_call_of 24 (Value.int IntKind.u8 (bh.toNat : Int)); refine (lawLowerN_any bh.toNat _ bh.toNat_lt).mono ?_; rintro e w' ⟨rfl, hw⟩; have hw' := hw.symm; subst hw') | (go_at_call_of 24 (Value.int IntKind.u8 (k : Int)); refine (lawLowerN_any k _ hk2).mono ?_; rintro e w' ⟨rfl, hw⟩; have hw' := hw.symm; subst hw'))
                go_meet
                case rel => exact ⟨by rw [E.out], rfl⟩
              · have E : Hid (want0 true bl.toNat bh.toNat k = false) := by show want0 _ _ _ _ = false; rw [E0]; simp [hA, hB]
                clear E0
                go_wp2_with (first | (go_at_call_of 24 (Value.int IntKind.u8 (bl.toNat : Int)); refine (lawLowerN_any bl.toNat _ bl.toNat_lt).mono ?_; rintro e w' ⟨rfl, hw⟩; have hw' := hw.symm; subst hw') | (go_at_call_of 24 (Value.int IntKind.u8 (bh.toNat : Int)); refine (lawLowerN_any bh.toNat _ bh.toNat_lt).mono ?_; rintro e w' ⟨rfl, hw⟩; have hw' := hw.symm; subst hw') | (go_at_call_of 24 (Value.int IntKind.u8 (k : Int)); refine (lawLowerN_any k _ hk2).mono ?_; rintro e w' ⟨rfl, hw⟩; have hw' := hw.symm; subst hw'))
                go_meet
                case rel => exact ⟨by rw [E.out], rfl⟩
            · have E : Hid (want0 true bl.toNat bh.toNat k = false) := by show want0 _ _ _ _ = false; rw [E0]; simp [hA]
              clear E0
              go_wp2_with (first | (go_at_call_of 24 (Value.int IntKind.u8 (bl.toNat : Int)); refine (lawLowerN_any bl.toNat _ bl.toNat_lt).mono ?_; rintro e w' ⟨rfl, hw⟩; have hw' := hw.symm; subst hw') | (go_at_call_of 24 (Value.int IntKind.u8 (bh.toNat : Int)); refine (lawLowerN_any bh.toNat _ bh.toNat_lt).mono ?_; rintro e w' ⟨rfl, hw⟩; have hw' := hw.symm; subst hw') | (go_at_call_of 24 (Value.int IntKind.u8 (k : Int)); refine (lawLowerN_any k _ hk2).mono ?_; rintro e w' ⟨rfl, hw⟩; have hw' := hw.symm; subst hw'))
              go_meet
              case rel => exact ⟨by rw [E.out], rfl⟩
      case rest =>
        obtain ⟨rfl, hwc⟩ := hcut
        subst hwc
        have c0 := HCL.out.cell 0 (by omega)
        have c1 := HCL.out.cell 1 (by omega)
        have c2 := HCL.out.cell 2 (by omega)
        have c3 := HCL.out.cell 3 (by omega)
        have hR := HR.out k
        by_cases h47 : k = 47
        · have hx : R k = false := by rw [hR, h47]; simp
          have h47b : ((k : Int) == 47) = true := beq_iff_eq.2 (by omega)
          clear hR h47
          go_wp2_with (go_at_call 26; refine (hasBit_out _ R k hk2).mono ?_; rintro e w10 ⟨rfl, hb10⟩)
          go_roundg (256 - (k + 1))
          case rel => exact ⟨k + 1, rfl, by omega, by go_num, HCL.out.kept hb10⟩
          case measure => omega
        · have hkb : (k == 47) = false := beq_eq_false_iff_ne.2 h47
          have hx : R k = (want0 f bl.toNat bh.toNat k) := by rw [hR, hkb]; simp
          have h47b : ((k : Int) == 47) = false := beq_eq_false_iff_ne.2 (by omega)
          clear hR h47 hkb
          go_wp2_with (go_at_call 26; refine (hasBit_out _ R k hk2).mono ?_; rintro e w10 ⟨rfl, hb10⟩)
          go_roundg (256 - (k + 1))
          case rel => exact ⟨k + 1, rfl, by omega, by go_num, HCL.out.kept hb10⟩
          case measure => omega
    · go_wp2_with fail
      go_ret
      exact ⟨rfl, hcl.below⟩

set_option maxRecDepth 100000 in
set_option maxHeartbeats 4000000 in
theorem sr_walk_in_10 (f : Bool) (bl bh : UInt8) (tail : ByteArray) (w : World) (ht : tail.size ≤ 65536)  :
    Calls Try.prog 9 #[.bool f, .bool false, .bool true, .int .u8 (bl.toNat : Int), .int .u8 (bh.toNat : Int), .string tail] w fun e w' => e = .returned (.bool true) ∧ Below w.heap.size w w' := by
  have HC := (show Hid _ from fun w => sr_in true f false bl bh tail ht (fun h => by cases h) (fun h => by cases h) w)
  have HL : Hid (∀ (w1 : World) (a1 : Option Addr) (m1 cap1 : Nat), Buf 5 w.heap.size w1 a1 m1 cap1 ([] ++ [91] ++ [94] ++ [92, bl, 45, 92, bh, 93] ++ tail.data.toList) → Buf 5 w.heap.size w1 a1 m1 cap1 (srTxt true bl bh tail.data.toList)) := by
    intro w1 a1 m1 cap1 h; simpa [srTxt] using h
  generalize hTX : srTxt true bl bh tail.data.toList = TX at *
  have HR : Hid (∀ k, resS f false true bl.toNat bh.toNat k = (if false && k == 47 then false else if true then !want0 f bl.toNat bh.toNat k else want0 f bl.toNat bh.toNat k)) := fun k => res_want f false true bl.toNat bh.toNat k
  generalize hRR : resS f false true bl.toNat bh.toNat = R at *
  clear hRR hTX
  go_enter Try.func9, Try.ntmps9
  go_wp2_with (first | (go_at_call 27; refine (zz27_yes _ _ _ _ _ _ _ ht).mono ?_; rintro e w' ⟨rfl, hw⟩; have hw' := hw.symm; subst hw'; clear hw) | (at_make; refine wpList_mk tBs rfl _ _ rfl w.heap.size _ (8 + tail.size) rfl rfl (by omega) (by omega) (Nat.le_refl _) ?_; intro w1 hb1 hB1; have hs1 := hB1.size) | (at_builtin; refine wpList_app tBs rfl (.tmp 37) (.tmp 38) rfl [91] _ one_91 1 1 rfl rfl rfl hb1 (by omega) (by omega) ?_; intro a2 cap2 w2 hb2 hB2; have hs2 := hB2.size) | (at_builtin; refine wpList_app tBs rfl (.tmp 41) (.tmp 42) rfl [94] _ one_94 1 1 rfl rfl rfl hb2 (by omega) (by omega) ?_; intro a3 cap3 w3 hb3 hB3; have hs3 := hB3.size) | (at_builtin; refine wpList_app tBs rfl (.tmp 44) (.tmp 47) rfl [92, bl, 45, 92, bh, 93] _ (six_sr bl bh) 6 6 rfl rfl rfl hb3 (by omega) (by omega) ?_; intro a4 cap4 w4 hb4 hB4; have hs4 := hB4.size) | (at_builtin; refine wpList_appS tBs Try.underlying9 rfl (.tmp 51) (.tmp 52) rfl tail rfl rfl hb4 (by omega) (by omega) ?_; intro a5 cap5 w5 hb5 hB5; have hs5 := hB5.size; have hcv := (HL.out _ _ _ _ hb5).str tBs Try.underlying9; clear hb5) | (go_at_call 22; refine (HC.out _).mono ?_; rintro e w9 ⟨rfl, hb9⟩; have hbel : Below w.heap.size w w9 := (((((hB1).trans hB2).trans hB3).trans hB4).trans hB5).trans (hb9.mono (by omega)); clear hb9))
  have hcl0 := CL.start (R := R) hbel
  unfold clsA at hcl0
  clear HC HL hcv hB1 hs1 hB2 hs2 hB3 hs3 hB4 hs4 hB5 hs5
  go_loopg [19, 20, 21] 256 (fun g cv _ _ wr => ∃ k : Nat, g = 256 - k ∧ k ≤ 256 ∧ cv = .int .i64 k ∧ CL R w9.heap.size w wr)
  case atStart => exact ⟨0, rfl, by omega, rfl, hcl0⟩
  case round =>
    obtain ⟨k, rfl, hk1, rfl, hcl⟩ := hrel
    clear hcl0
    by_cases hk2 : k < 256
    · go_upto_region 25 with fail
      have HCL := (show Hid _ from hcl)
      clear hcl
      go_cut [21] (fun wv wc => wv = .bool (want0 f bl.toNat bh.toNat k) ∧ wc = wr)
      case first =>
        by_cases h1 : bl.toNat ≤ k ∧ k ≤ bh.toNat
        · obtain ⟨h1a, h1b⟩ := h1
          have E : Hid (want0 f bl.toNat bh.toNat k = true) := by simp [Hid, want0, h1a, h1b]
          go_wp2_with (first | (go_at_call_of 24 (Value.int IntKind.u8 (bl.toNat : Int)); refine (lawLowerN_any bl.toNat _ bl.toNat_lt).mono ?_; rintro e w' ⟨rfl, hw⟩; have hw' := hw.symm; subst hw') | (go_at_call_of 24 (Value.int IntKind.u8 (bh.toNat : Int)); refine (lawLowerN_any bh.toNat _ bh.toNat_lt).mono ?_; rintro e w' ⟨rfl, hw⟩; have hw' := hw.symm; subst hw') | (go_at_call_of 24 (Value.int IntKind.u8 (k : Int)); refine (lawLowerN_any k _ hk2).mono ?_; rintro e w' ⟨rfl, hw⟩; have hw' := hw.symm; subst hw'))
          go_meet
          case rel => exact ⟨by rw [E.out], rfl⟩
        cases f
        · have E : Hid (want0 false bl.toNat bh.toNat k = false) := by
            show want0 _ _ _ _ = false
            unfold want0
            rw [Bool.false_and, Bool.or_false, ← Bool.decide_and]; exact decide_eq_false h1
          rcases (show ¬ bl.toNat ≤ k ∨ (bl.toNat ≤ k ∧ ¬ k ≤ bh.toNat) by omega) with h | ⟨h, h'⟩
          all_goals
            clear h1
            go_wp2_with (first | (go_at_call_of 24 (Value.int IntKind.u8 (bl.toNat : Int)); refine (lawLowerN_any bl.toNat _ bl.toNat_lt).mono ?_; rintro e w' ⟨rfl, hw⟩; have hw' := hw.symm; subst hw') | (go_at_call_of 24 (Value.int IntKind.u8 (bh.toNat : Int)); refine (lawLowerN_any bh.toNat _ bh.toNat_lt).mono ?_; rintro e w' ⟨rfl, hw⟩; have hw' := hw.symm; subst hw') | (go_at_call_of 24 (Value.int IntKind.u8 (k : Int)); refine (lawLowerN_any k _ hk2).mono ?_; rintro e w' ⟨rfl, hw⟩; have hw' := hw.symm; subst hw'))
            go_meet
            case rel => exact ⟨by rw [E.out], rfl⟩
        · have E0 : want0 true bl.toNat bh.toNat k = (decide (lowN bl.toNat ≤ lowN k) && decide (lowN k ≤ lowN bh.toNat)) := by
            unfold want0
            rw [← Bool.decide_and, decide_eq_false h1]; simp
          have g0 := lowN_lt bl.toNat bl.toNat_lt
          have g1 := lowN_lt bh.toNat bh.toNat_lt
          have g2 := lowN_lt k hk2
          rcases (show ¬ bl.toNat ≤ k ∨ (bl.toNat ≤ k ∧ ¬ k ≤ bh.toNat) by omega) with h | ⟨h, h'⟩
          all_goals
            clear h1
            by_cases hA : lowN bl.toNat ≤ lowN k
            · by_cases hB : lowN k ≤ lowN bh.toNat
              · have E : Hid (want0 true bl.toNat bh.toNat k = true) := by show want0 _ _ _ _ = true; rw [E0]; simp [hA, hB]
                clear E0
                go_wp2_with (first | (go_at_call_of 24 (Value.int IntKind.u8 (bl.toNat : Int)); refine (lawLowerN_any bl.toNat _ bl.toNat_lt).mono ?_; rintro e w' ⟨rfl, hw⟩; have hw' := hw.symm; subst hw') | (go_at_call_of 24 (Value.int IntKind.u8 (bh.toNat : Int)); refine (lawLowerN_any bh.toNat _ bh.toNat_lt).mono ?_; rintro e w' ⟨rfl, hw⟩; have hw' := hw.symm; subst hw') | (go_at_call_of 24 (Value.int IntKind.u8 (k : Int)); refine (lawLowerN_any k _ hk2).mono ?_; rintro e w' ⟨rfl, hw⟩; have hw' := hw.symm; subst hw'))
                go_meet
                case rel => exact ⟨by rw [E.out], rfl⟩
              · have E : Hid (want0 true bl.toNat bh.toNat k = false) := by show want0 _ _ _ _ = false; rw [E0]; simp [hA, hB]
                clear E0
                go_wp2_with (first | (go_at_call_of 24 (Value.int IntKind.u8 (bl.toNat : Int)); refine (lawLowerN_any bl.toNat _ bl.toNat_lt).mono ?_; rintro e w' ⟨rfl, hw⟩; have hw' := hw.symm; subst hw') | (go_at_call_of 24 (Value.int IntKind.u8 (bh.toNat : Int)); refine (lawLowerN_any bh.toNat _ bh.toNat_lt).mono ?_; rintro e w' ⟨rfl, hw⟩; have hw' := hw.symm; subst hw') | (go_at_call_of 24 (Value.int IntKind.u8 (k : Int)); refine (lawLowerN_any k _ hk2).mono ?_; rintro e w' ⟨rfl, hw⟩; have hw' := hw.symm; subst hw'))
                go_meet
                case rel => exact ⟨by rw [E.out], rfl⟩
            · have E : Hid (want0 true bl.toNat bh.toNat k = false) := by show want0 _ _ _ _ = false; rw [E0]; simp [hA]
              clear E0
              go_wp2_with (first | (go_at_call_of 24 (Value.int IntKind.u8 (bl.toNat : Int)); refine (lawLowerN_any bl.toNat _ bl.toNat_lt).mono ?_; rintro e w' ⟨rfl, hw⟩; have hw' := hw.symm; subst hw') | (go_at_call_of 24 (Value.int IntKind.u8 (bh.toNat : Int)); refine (lawLowerN_any bh.toNat _ bh.toNat_lt).mono ?_; rintro e w' ⟨rfl, hw⟩; have hw' := hw.symm; subst hw') | (go_at_call_of 24 (Value.int IntKind.u8 (k : Int)); refine (lawLowerN_any k _ hk2).mono ?_; rintro e w' ⟨rfl, hw⟩; have hw' := hw.symm; subst hw'))
              go_meet
              case rel => exact ⟨by rw [E.out], rfl⟩
      case rest =>
        obtain ⟨rfl, hwc⟩ := hcut
        subst hwc
        have c0 := HCL.out.cell 0 (by omega)
        have c1 := HCL.out.cell 1 (by omega)
        have c2 := HCL.out.cell 2 (by omega)
        have c3 := HCL.out.cell 3 (by omega)
        have hR := HR.out k
        have hx : R k = (!want0 f bl.toNat bh.toNat k) := by rw [hR]; simp
        clear hR
        go_wp2_with (go_at_call 26; refine (hasBit_out _ R k hk2).mono ?_; rintro e w10 ⟨rfl, hb10⟩)
        go_roundg (256 - (k + 1))
        case rel => exact ⟨k + 1, rfl, by omega, by go_num, HCL.out.kept hb10⟩
        case measure => omega
    · go_wp2_with fail
      go_ret
      exact ⟨rfl, hcl.below⟩

set_option maxRecDepth 100000 in
set_option maxHeartbeats 4000000 in
theorem sr_walk_in_11 (f : Bool) (bl bh : UInt8) (tail : ByteArray) (w : World) (ht : tail.size ≤ 65536) (hl : ¬ bl.toNat = 47) (hh : ¬ bh.toNat = 47) :
    Calls Try.prog 9 #[.bool f, .bool true, .bool true, .int .u8 (bl.toNat : Int), .int .u8 (bh.toNat : Int), .string tail] w fun e w' => e = .returned (.bool true) ∧ Below w.heap.size w w' := by
  have HC := (show Hid _ from fun w => sr_in true f true bl bh tail ht (fun _ => hl) (fun _ => hh) w)
  have HL : Hid (∀ (w1 : World) (a1 : Option Addr) (m1 cap1 : Nat), Buf 5 w.heap.size w1 a1 m1 cap1 ([] ++ [91] ++ [94] ++ [92, bl, 45, 92, bh, 93] ++ tail.data.toList) → Buf 5 w.heap.size w1 a1 m1 cap1 (srTxt true bl bh tail.data.toList)) := by
    intro w1 a1 m1 cap1 h; simpa [srTxt] using h
  generalize hTX : srTxt true bl bh tail.data.toList = TX at *
  have HR : Hid (∀ k, resS f true true bl.toNat bh.toNat k = (if true && k == 47 then false else if true then !want0 f bl.toNat bh.toNat k else want0 f bl.toNat bh.toNat k)) := fun k => res_want f true true bl.toNat bh.toNat k
  generalize hRR : resS f true true bl.toNat bh.toNat = R at *
  clear hRR hTX
  have hq : ((bl.toNat : Int) == 47) = false := beq_eq_false_iff_ne.2 (by omega)
  have hq2 : ((bh.toNat : Int) == 47) = false := beq_eq_false_iff_ne.2 (by omega)
  clear hl hh
  go_enter Try.func9, Try.ntmps9
  go_wp2_with (first | (go_at_call 27; refine (zz27_yes _ _ _ _ _ _ _ ht).mono ?_; rintro e w' ⟨rfl, hw⟩; have hw' := hw.symm; subst hw'; clear hw) | (at_make; refine wpList_mk tBs rfl _ _ rfl w.heap.size _ (8 + tail.size) rfl rfl (by omega) (by omega) (Nat.le_refl _) ?_; intro w1 hb1 hB1; have hs1 := hB1.size) | (at_builtin; refine wpList_app tBs rfl (.tmp 37) (.tmp 38) rfl [91] _ one_91 1 1 rfl rfl rfl hb1 (by omega) (by omega) ?_; intro a2 cap2 w2 hb2 hB2; have hs2 := hB2.size) | (at_builtin; refine wpList_app tBs rfl (.tmp 41) (.tmp 42) rfl [94] _ one_94 1 1 rfl rfl rfl hb2 (by omega) (by omega) ?_; intro a3 cap3 w3 hb3 hB3; have hs3 := hB3.size) | (at_builtin; refine wpList_app tBs rfl (.tmp 44) (.tmp 47) rfl [92, bl, 45, 92, bh, 93] _ (six_sr bl bh) 6 6 rfl rfl rfl hb3 (by omega) (by omega) ?_; intro a4 cap4 w4 hb4 hB4; have hs4 := hB4.size) | (at_builtin; refine wpList_appS tBs Try.underlying9 rfl (.tmp 51) (.tmp 52) rfl tail rfl rfl hb4 (by omega) (by omega) ?_; intro a5 cap5 w5 hb5 hB5; have hs5 := hB5.size; have hcv := (HL.out _ _ _ _ hb5).str tBs Try.underlying9; clear hb5) | (go_at_call 22; refine (HC.out _).mono ?_; rintro e w9 ⟨rfl, hb9⟩; have hbel : Below w.heap.size w w9 := (((((hB1).trans hB2).trans hB3).trans hB4).trans hB5).trans (hb9.mono (by omega)); clear hb9))
  have hcl0 := CL.start (R := R) hbel
  unfold clsA at hcl0
  clear HC HL hcv hB1 hs1 hB2 hs2 hB3 hs3 hB4 hs4 hB5 hs5
  go_loopg [19, 20, 21] 256 (fun g cv _ _ wr => ∃ k : Nat, g = 256 - k ∧ k ≤ 256 ∧ cv = .int .i64 k ∧ CL R w9.heap.size w wr)
  case atStart => exact ⟨0, rfl, by omega, rfl, hcl0⟩
  case round =>
    obtain ⟨k, rfl, hk1, rfl, hcl⟩ := hrel
    clear hcl0
    by_cases hk2 : k < 256
    · go_upto_region 25 with fail
      have HCL := (show Hid _ from hcl)
      clear hcl
      go_cut [21] (fun wv wc => wv = .bool (want0 f bl.toNat bh.toNat k) ∧ wc = wr)
      case first =>
        by_cases h1 : bl.toNat ≤ k ∧ k ≤ bh.toNat
        · obtain ⟨h1a, h1b⟩ := h1
          have E : Hid (want0 f bl.toNat bh.toNat k = true) := by simp [Hid, want0, h1a, h1b]
          go_wp2_with (first | (go_at_call_of 24 (Value.int IntKind.u8 (bl.toNat : Int)); refine (lawLowerN_any bl.toNat _ bl.toNat_lt).mono ?_; rintro e w' ⟨rfl, hw⟩; have hw' := hw.symm; subst hw') | (go_at_call_of 24 (Value.int IntKind.u8 (bh.toNat : Int)); refine (lawLowerN_any bh.toNat _ bh.toNat_lt).mono ?_; rintro e w' ⟨rfl, hw⟩; have hw' := hw.symm; subst hw') | (go_at_call_of 24 (Value.int IntKind.u8 (k : Int)); refine (lawLowerN_any k _ hk2).mono ?_; rintro e w' ⟨rfl, hw⟩; have hw' := hw.symm; subst hw'))
          go_meet
          case rel => exact ⟨by rw [E.out], rfl⟩
        cases f
        · have E : Hid (want0 false bl.toNat bh.toNat k = false) := by
            show want0 _ _ _ _ = false
            unfold want0
            rw [Bool.false_and, Bool.or_false, ← Bool.decide_and]; exact decide_eq_false h1
          rcases (show ¬ bl.toNat ≤ k ∨ (bl.toNat ≤ k ∧ ¬ k ≤ bh.toNat) by omega) with h | ⟨h, h'⟩
          all_goals
            clear h1
            go_wp2_with (first | (go_at_call_of 24 (Value.int IntKind.u8 (bl.toNat : Int)); refine (lawLowerN_any bl.toNat _ bl.toNat_lt).mono ?_; rintro e w' ⟨rfl, hw⟩; have hw' := hw.symm; subst hw') | (go_at_call_of 24 (Value.int IntKind.u8 (bh.toNat : Int)); refine (lawLowerN_any bh.toNat _ bh.toNat_lt).mono ?_; rintro e w' ⟨rfl, hw⟩; have hw' := hw.symm; subst hw') | (go_at_call_of 24 (Value.int IntKind.u8 (k : Int)); refine (lawLowerN_any k _ hk2).mono ?_; rintro e w' ⟨rfl, hw⟩; have hw' := hw.symm; subst hw'))
            go_meet
            case rel => exact ⟨by rw [E.out], rfl⟩
        · have E0 : want0 true bl.toNat bh.toNat k = (decide (lowN bl.toNat ≤ lowN k) && decide (lowN k ≤ lowN bh.toNat)) := by
            unfold want0
            rw [← Bool.decide_and, decide_eq_false h1]; simp
          have g0 := lowN_lt bl.toNat bl.toNat_lt
          have g1 := lowN_lt bh.toNat bh.toNat_lt
          have g2 := lowN_lt k hk2
          rcases (show ¬ bl.toNat ≤ k ∨ (bl.toNat ≤ k ∧ ¬ k ≤ bh.toNat) by omega) with h | ⟨h, h'⟩
          all_goals
            clear h1
            by_cases hA : lowN bl.toNat ≤ lowN k
            · by_cases hB : lowN k ≤ lowN bh.toNat
              · have E : Hid (want0 true bl.toNat bh.toNat k = true) := by show want0 _ _ _ _ = true; rw [E0]; simp [hA, hB]
                clear E0
                go_wp2_with (first | (go_at_call_of 24 (Value.int IntKind.u8 (bl.toNat : Int)); refine (lawLowerN_any bl.toNat _ bl.toNat_lt).mono ?_; rintro e w' ⟨rfl, hw⟩; have hw' := hw.symm; subst hw') | (go_at_call_of 24 (Value.int IntKind.u8 (bh.toNat : Int)); refine (lawLowerN_any bh.toNat _ bh.toNat_lt).mono ?_; rintro e w' ⟨rfl, hw⟩; have hw' := hw.symm; subst hw') | (go_at_call_of 24 (Value.int IntKind.u8 (k : Int)); refine (lawLowerN_any k _ hk2).mono ?_; rintro e w' ⟨rfl, hw⟩; have hw' := hw.symm; subst hw'))
                go_meet
                case rel => exact ⟨by rw [E.out], rfl⟩
              · have E : Hid (want0 true bl.toNat bh.toNat k = false) := by show want0 _ _ _ _ = false; rw [E0]; simp [hA, hB]
                clear E0
                go_wp2_with (first | (go_at_call_of 24 (Value.int IntKind.u8 (bl.toNat : Int)); refine (lawLowerN_any bl.toNat _ bl.toNat_lt).mono ?_; rintro e w' ⟨rfl, hw⟩; have hw' := hw.symm; subst hw') | (go_at_call_of 24 (Value.int IntKind.u8 (bh.toNat : Int)); refine (lawLowerN_any bh.toNat _ bh.toNat_lt).mono ?_; rintro e w' ⟨rfl, hw⟩; have hw' := hw.symm; subst hw') | (go_at_call_of 24 (Value.int IntKind.u8 (k : Int)); refine (lawLowerN_any k _ hk2).mono ?_; rintro e w' ⟨rfl, hw⟩; have hw' := hw.symm; subst hw'))
                go_meet
                case rel => exact ⟨by rw [E.out], rfl⟩
            · have E : Hid (want0 true bl.toNat bh.toNat k = false) := by show want0 _ _ _ _ = false; rw [E0]; simp [hA]
              clear E0
              go_wp2_with (first | (go_at_call_of 24 (Value.int IntKind.u8 (bl.toNat : Int)); refine (lawLowerN_any bl.toNat _ bl.toNat_lt).mono ?_; rintro e w' ⟨rfl, hw⟩; have hw' := hw.symm; subst hw') | (go_at_call_of 24 (Value.int IntKind.u8 (bh.toNat : Int)); refine (lawLowerN_any bh.toNat _ bh.toNat_lt).mono ?_; rintro e w' ⟨rfl, hw⟩; have hw' := hw.symm; subst hw') | (go_at_call_of 24 (Value.int IntKind.u8 (k : Int)); refine (lawLowerN_any k _ hk2).mono ?_; rintro e w' ⟨rfl, hw⟩; have hw' := hw.symm; subst hw'))
              go_meet
              case rel => exact ⟨by rw [E.out], rfl⟩
      case rest =>
        obtain ⟨rfl, hwc⟩ := hcut
        subst hwc
        have c0 := HCL.out.cell 0 (by omega)
        have c1 := HCL.out.cell 1 (by omega)
        have c2 := HCL.out.cell 2 (by omega)
        have c3 := HCL.out.cell 3 (by omega)
        have hR := HR.out k
        by_cases h47 : k = 47
        · have hx : R k = false := by rw [hR, h47]; simp
          have h47b : ((k : Int) == 47) = true := beq_iff_eq.2 (by omega)
          clear hR h47
          go_wp2_with (go_at_call 26; refine (hasBit_out _ R k hk2).mono ?_; rintro e w10 ⟨rfl, hb10⟩)
          go_roundg (256 - (k + 1))
          case rel => exact ⟨k + 1, rfl, by omega, by go_num, HCL.out.kept hb10⟩
          case measure => omega
        · have hkb : (k == 47) = false := beq_eq_false_iff_ne.2 h47
          have hx : R k = (!want0 f bl.toNat bh.toNat k) := by rw [hR, hkb]; simp
          have h47b : ((k : Int) == 47) = false := beq_eq_false_iff_ne.2 (by omega)
          clear hR h47 hkb
          go_wp2_with (go_at_call 26; refine (hasBit_out _ R k hk2).mono ?_; rintro e w10 ⟨rfl, hb10⟩)
          go_roundg (256 - (k + 1))
          case rel => exact ⟨k + 1, rfl, by omega, by go_num, HCL.out.kept hb10⟩
          case measure => omega
    · go_wp2_with fail
      go_ret
      exact ⟨rfl, hcl.below⟩

end Go.Proofs.Qxb6000758a
