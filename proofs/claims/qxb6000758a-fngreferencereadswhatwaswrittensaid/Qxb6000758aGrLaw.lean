/-
  The walk of FnGReferenceReadsWhatWasWritten (5).
-/
import Derived.Test.Qxb6000758aGrTop
namespace Go.Proofs.Qxb6000758a
open Go.RowKit

theorem size_mk (l : List UInt8) : (⟨l.toArray⟩ : ByteArray).size = l.length := by simp [ByteArray.size]

set_option maxRecDepth 100000 in
set_option maxHeartbeats 2000000 in
theorem gr_walk_00 (body tail : ByteArray) (w : World) (hb1 : body.size ≤ 65536) (ht1 : tail.size ≤ 65536) (hz : 0 < body.size) :
    Calls Try.prog 5 #[.bool false, .bool false, .string body, .string tail] w fun e w' => e = .returned (.bool true) ∧ Below w.heap.size w w' := by
  have hz0 : ((body.size : Int) == 0) = false := beq_eq_false_iff_ne.2 (by omega)
  go_enter Try.func5, Try.ntmps5
  go_wp2_with (first | (go_at_call 15; refine (zz15_yes _ _ _ _ _ hb1 ht1).mono ?_; rintro e w' ⟨rfl, hw⟩; have hw' := hw.symm; subst hw') | (go_at_call 16; refine (lawIsDigit_any _ _).mono ?_; rintro e w' ⟨rfl, hw⟩; have hw' := hw.symm; subst hw') | (go_at_call 17; refine (lawIsName_any _ _).mono ?_; rintro e w' ⟨rfl, hw⟩; have hw' := hw.symm; subst hw'))
  go_loopg [9] body.size (fun n iv wr => ∃ k : Nat, n = body.size - k ∧ k ≤ body.size ∧ iv = .int .i64 k ∧ wr = w ∧ Hid (∀ j, j < k → digB (byteAt body j) = true))
  case atStart => exact ⟨0, rfl, by omega, rfl, rfl, fun j hj => by omega⟩
  case round =>
    obtain ⟨k, rfl, hk1, rfl, hwr, hok⟩ := hrel
    subst hwr
    by_cases hk : k < body.size
    · have bk := byteAt_get body k hk
      cases hd : digB (body[k].toNat : Int)
      · clear bk
        go_wp2_with (first | (go_at_call 15; refine (zz15_yes _ _ _ _ _ hb1 ht1).mono ?_; rintro e w' ⟨rfl, hw⟩; have hw' := hw.symm; subst hw') | (go_at_call 16; refine (lawIsDigit_any _ _).mono ?_; rintro e w' ⟨rfl, hw⟩; have hw' := hw.symm; subst hw') | (go_at_call 17; refine (lawIsName_any _ _).mono ?_; rintro e w' ⟨rfl, hw⟩; have hw' := hw.symm; subst hw'))
        go_ret
        exact ⟨rfl, Below.refl _ _⟩
      · have hok2 : Hid (∀ j, j < k + 1 → digB (byteAt body j) = true) := by
          intro j hj
          by_cases h : j < k
          · exact hok.out j h
          · obtain rfl : j = k := by omega
            rw [← bk]; exact hd
        clear bk hok
        go_wp2_with (first | (go_at_call 15; refine (zz15_yes _ _ _ _ _ hb1 ht1).mono ?_; rintro e w' ⟨rfl, hw⟩; have hw' := hw.symm; subst hw') | (go_at_call 16; refine (lawIsDigit_any _ _).mono ?_; rintro e w' ⟨rfl, hw⟩; have hw' := hw.symm; subst hw') | (go_at_call 17; refine (lawIsName_any _ _).mono ?_; rintro e w' ⟨rfl, hw⟩; have hw' := hw.symm; subst hw'))
        go_roundg (body.size - (k + 1))
        case rel => exact ⟨k + 1, rfl, by omega, by go_num, rfl, hok2⟩
        case measure => omega
    · have hok1 := hok.out
      have hkk : k = body.size := by omega
      rw [hkk] at hok1
      clear hkk
      by_cases ht : 0 < tail.size
      · have bt := byteAt_get tail 0 ht
        cases hd : digB (tail[0].toNat : Int)
        · have hgr : GrOk false false body tail := ⟨fun j hj => by simpa using hok1 j hj, fun _ _ => by rw [← bt]; exact hd⟩
          clear hok1 hok bt
          obtain ⟨L, hL⟩ : ∃ L, Hid (L = [92, 103] ++ (body.data.toList ++ (tail.data.toList))) := ⟨_, by exact rfl⟩
          have HG : Hid (GRef ⟨L.toArray⟩ false false 2 (2 + body.size)) := gr_text_00 body tail hz hgr L hL.out
          have HL : Hid (∀ (w1 : World) (a1 : Option Addr) (m1 cap1 : Nat), Buf 5 wr.heap.size w1 a1 m1 cap1 ([] ++ [92, 103] ++ body.data.toList ++ tail.data.toList) → Buf 5 wr.heap.size w1 a1 m1 cap1 L) := by
            intro w1 a1 m1 cap1 h; rw [hL.out]; simpa using h
          have HSZ : Hid ((⟨L.toArray⟩ : ByteArray).size ≤ 16777216) := by
            show (⟨L.toArray⟩ : ByteArray).size ≤ 16777216
            rw [size_mk, hL.out]; simp only [List.length_append, List.length_cons, List.length_nil, ← Lib.size_eq]; omega
          clear hgr hL
          go_wp2_with (first | (go_at_call 16; refine (lawIsDigit_any _ _).mono ?_; rintro e w' ⟨rfl, hw⟩; have hw' := hw.symm; subst hw') | (at_make; refine wpList_mk tBg rfl _ _ rfl wr.heap.size _ (5 + body.size + tail.size) rfl rfl (by omega) (by omega) (Nat.le_refl _) ?_; intro w1 hb1 hB1; have hs1 := hB1.size) | (at_builtin; refine wpList_app tBg rfl (.tmp 69) (.tmp 70) rfl [92, 103] _ two_92_103 2 2 rfl rfl rfl hb1 (by omega) (by omega) ?_; intro a2 cap2 w2 hb2 hB2; have hs2 := hB2.size) | (at_builtin; refine wpList_appS tBg Try.underlying9 rfl (.tmp 80) (.tmp 81) rfl body rfl rfl hb2 (by omega) (by omega) ?_; intro a3 cap3 w3 hb3 hB3; have hs3 := hB3.size) | (at_builtin; refine wpList_appS tBg Try.underlying9 rfl (.tmp 89) (.tmp 90) rfl tail rfl rfl hb3 (by omega) (by omega) ?_; intro a4 cap4 w4 hb4 hB4; have hs4 := hB4.size; have hcv := (HL.out _ _ _ _ hb4).str tBg Try.underlying9; clear hb4) | (go_at_call 18; refine (zz18_any ⟨L.toArray⟩ _ HSZ.out _ _ _ _ HG.out).mono ?_; rintro e w' ⟨rfl, hw⟩; have hw' := hw.symm; subst hw'))
          go_ret
          exact ⟨ret_bool (by simp; try omega), (((hB1).trans hB2).trans hB3).trans hB4⟩
        · clear bt hok1 hok
          go_wp2_with (first | (go_at_call 15; refine (zz15_yes _ _ _ _ _ hb1 ht1).mono ?_; rintro e w' ⟨rfl, hw⟩; have hw' := hw.symm; subst hw') | (go_at_call 16; refine (lawIsDigit_any _ _).mono ?_; rintro e w' ⟨rfl, hw⟩; have hw' := hw.symm; subst hw') | (go_at_call 17; refine (lawIsName_any _ _).mono ?_; rintro e w' ⟨rfl, hw⟩; have hw' := hw.symm; subst hw'))
          go_ret
          exact ⟨rfl, Below.refl _ _⟩
      · have hgr : GrOk false false body tail := ⟨fun j hj => by simpa using hok1 j hj, fun _ h => absurd h ht⟩
        clear hok1 hok
        obtain ⟨L, hL⟩ : ∃ L, Hid (L = [92, 103] ++ (body.data.toList ++ (tail.data.toList))) := ⟨_, by exact rfl⟩
        have HG : Hid (GRef ⟨L.toArray⟩ false false 2 (2 + body.size)) := gr_text_00 body tail hz hgr L hL.out
        have HL : Hid (∀ (w1 : World) (a1 : Option Addr) (m1 cap1 : Nat), Buf 5 wr.heap.size w1 a1 m1 cap1 ([] ++ [92, 103] ++ body.data.toList ++ tail.data.toList) → Buf 5 wr.heap.size w1 a1 m1 cap1 L) := by
          intro w1 a1 m1 cap1 h; rw [hL.out]; simpa using h
        have HSZ : Hid ((⟨L.toArray⟩ : ByteArray).size ≤ 16777216) := by
          show (⟨L.toArray⟩ : ByteArray).size ≤ 16777216
          rw [size_mk, hL.out]; simp only [List.length_append, List.length_cons, List.length_nil, ← Lib.size_eq]; omega
        clear hgr hL
        go_wp2_with (first | (go_at_call 16; refine (lawIsDigit_any _ _).mono ?_; rintro e w' ⟨rfl, hw⟩; have hw' := hw.symm; subst hw') | (at_make; refine wpList_mk tBg rfl _ _ rfl wr.heap.size _ (5 + body.size + tail.size) rfl rfl (by omega) (by omega) (Nat.le_refl _) ?_; intro w1 hb1 hB1; have hs1 := hB1.size) | (at_builtin; refine wpList_app tBg rfl (.tmp 69) (.tmp 70) rfl [92, 103] _ two_92_103 2 2 rfl rfl rfl hb1 (by omega) (by omega) ?_; intro a2 cap2 w2 hb2 hB2; have hs2 := hB2.size) | (at_builtin; refine wpList_appS tBg Try.underlying9 rfl (.tmp 80) (.tmp 81) rfl body rfl rfl hb2 (by omega) (by omega) ?_; intro a3 cap3 w3 hb3 hB3; have hs3 := hB3.size) | (at_builtin; refine wpList_appS tBg Try.underlying9 rfl (.tmp 89) (.tmp 90) rfl tail rfl rfl hb3 (by omega) (by omega) ?_; intro a4 cap4 w4 hb4 hB4; have hs4 := hB4.size; have hcv := (HL.out _ _ _ _ hb4).str tBg Try.underlying9; clear hb4) | (go_at_call 18; refine (zz18_any ⟨L.toArray⟩ _ HSZ.out _ _ _ _ HG.out).mono ?_; rintro e w' ⟨rfl, hw⟩; have hw' := hw.symm; subst hw'))
        go_ret
        exact ⟨ret_bool (by simp; try omega), (((hB1).trans hB2).trans hB3).trans hB4⟩

set_option maxRecDepth 100000 in
set_option maxHeartbeats 2000000 in
theorem gr_walk_01 (body tail : ByteArray) (w : World) (hb1 : body.size ≤ 65536) (ht1 : tail.size ≤ 65536) (hz : 0 < body.size) :
    Calls Try.prog 5 #[.bool false, .bool true, .string body, .string tail] w fun e w' => e = .returned (.bool true) ∧ Below w.heap.size w w' := by
  have hz0 : ((body.size : Int) == 0) = false := beq_eq_false_iff_ne.2 (by omega)
  go_enter Try.func5, Try.ntmps5
  go_wp2_with (first | (go_at_call 15; refine (zz15_yes _ _ _ _ _ hb1 ht1).mono ?_; rintro e w' ⟨rfl, hw⟩; have hw' := hw.symm; subst hw') | (go_at_call 16; refine (lawIsDigit_any _ _).mono ?_; rintro e w' ⟨rfl, hw⟩; have hw' := hw.symm; subst hw') | (go_at_call 17; refine (lawIsName_any _ _).mono ?_; rintro e w' ⟨rfl, hw⟩; have hw' := hw.symm; subst hw'))
  go_loopg [9] body.size (fun n iv wr => ∃ k : Nat, n = body.size - k ∧ k ≤ body.size ∧ iv = .int .i64 k ∧ wr = w ∧ Hid (∀ j, j < k → digB (byteAt body j) = true))
  case atStart => exact ⟨0, rfl, by omega, rfl, rfl, fun j hj => by omega⟩
  case round =>
    obtain ⟨k, rfl, hk1, rfl, hwr, hok⟩ := hrel
    subst hwr
    by_cases hk : k < body.size
    · have bk := byteAt_get body k hk
      cases hd : digB (body[k].toNat : Int)
      · clear bk
        go_wp2_with (first | (go_at_call 15; refine (zz15_yes _ _ _ _ _ hb1 ht1).mono ?_; rintro e w' ⟨rfl, hw⟩; have hw' := hw.symm; subst hw') | (go_at_call 16; refine (lawIsDigit_any _ _).mono ?_; rintro e w' ⟨rfl, hw⟩; have hw' := hw.symm; subst hw') | (go_at_call 17; refine (lawIsName_any _ _).mono ?_; rintro e w' ⟨rfl, hw⟩; have hw' := hw.symm; subst hw'))
        go_ret
        exact ⟨rfl, Below.refl _ _⟩
      · have hok2 : Hid (∀ j, j < k + 1 → digB (byteAt body j) = true) := by
          intro j hj
          by_cases h : j < k
          · exact hok.out j h
          · obtain rfl : j = k := by omega
            rw [← bk]; exact hd
        clear bk hok
        go_wp2_with (first | (go_at_call 15; refine (zz15_yes _ _ _ _ _ hb1 ht1).mono ?_; rintro e w' ⟨rfl, hw⟩; have hw' := hw.symm; subst hw') | (go_at_call 16; refine (lawIsDigit_any _ _).mono ?_; rintro e w' ⟨rfl, hw⟩; have hw' := hw.symm; subst hw') | (go_at_call 17; refine (lawIsName_any _ _).mono ?_; rintro e w' ⟨rfl, hw⟩; have hw' := hw.symm; subst hw'))
        go_roundg (body.size - (k + 1))
        case rel => exact ⟨k + 1, rfl, by omega, by go_num, rfl, hok2⟩
        case measure => omega
    · have hok1 := hok.out
      have hkk : k = body.size := by omega
      rw [hkk] at hok1
      clear hkk
      by_cases ht : 0 < tail.size
      · have bt := byteAt_get tail 0 ht
        cases hd : digB (tail[0].toNat : Int)
        · have hgr : GrOk false true body tail := ⟨fun j hj => by simpa using hok1 j hj, fun _ _ => by rw [← bt]; exact hd⟩
          clear hok1 hok bt
          obtain ⟨L, hL⟩ : ∃ L, Hid (L = [92, 103, 45] ++ (body.data.toList ++ (tail.data.toList))) := ⟨_, by exact rfl⟩
          have HG : Hid (GRef ⟨L.toArray⟩ false true 3 (3 + body.size)) := gr_text_01 body tail hz hgr L hL.out
          have HL : Hid (∀ (w1 : World) (a1 : Option Addr) (m1 cap1 : Nat), Buf 5 wr.heap.size w1 a1 m1 cap1 ([] ++ [92, 103] ++ [45] ++ body.data.toList ++ tail.data.toList) → Buf 5 wr.heap.size w1 a1 m1 cap1 L) := by
            intro w1 a1 m1 cap1 h; rw [hL.out]; simpa using h
          have HSZ : Hid ((⟨L.toArray⟩ : ByteArray).size ≤ 16777216) := by
            show (⟨L.toArray⟩ : ByteArray).size ≤ 16777216
            rw [size_mk, hL.out]; simp only [List.length_append, List.length_cons, List.length_nil, ← Lib.size_eq]; omega
          clear hgr hL
          go_wp2_with (first | (go_at_call 16; refine (lawIsDigit_any _ _).mono ?_; rintro e w' ⟨rfl, hw⟩; have hw' := hw.symm; subst hw') | (at_make; refine wpList_mk tBg rfl _ _ rfl wr.heap.size _ (5 + body.size + tail.size) rfl rfl (by omega) (by omega) (Nat.le_refl _) ?_; intro w1 hb1 hB1; have hs1 := hB1.size) | (at_builtin; refine wpList_app tBg rfl (.tmp 69) (.tmp 70) rfl [92, 103] _ two_92_103 2 2 rfl rfl rfl hb1 (by omega) (by omega) ?_; intro a2 cap2 w2 hb2 hB2; have hs2 := hB2.size) | (at_builtin; refine wpList_app tBg rfl (.tmp 77) (.tmp 78) rfl [45] _ one_45 1 1 rfl rfl rfl hb2 (by omega) (by omega) ?_; intro a3 cap3 w3 hb3 hB3; have hs3 := hB3.size) | (at_builtin; refine wpList_appS tBg Try.underlying9 rfl (.tmp 80) (.tmp 81) rfl body rfl rfl hb3 (by omega) (by omega) ?_; intro a4 cap4 w4 hb4 hB4; have hs4 := hB4.size) | (at_builtin; refine wpList_appS tBg Try.underlying9 rfl (.tmp 89) (.tmp 90) rfl tail rfl rfl hb4 (by omega) (by omega) ?_; intro a5 cap5 w5 hb5 hB5; have hs5 := hB5.size; have hcv := (HL.out _ _ _ _ hb5).str tBg Try.underlying9; clear hb5) | (go_at_call 18; refine (zz18_any ⟨L.toArray⟩ _ HSZ.out _ _ _ _ HG.out).mono ?_; rintro e w' ⟨rfl, hw⟩; have hw' := hw.symm; subst hw'))
          go_ret
          exact ⟨ret_bool (by simp; try omega), ((((hB1).trans hB2).trans hB3).trans hB4).trans hB5⟩
        · clear bt hok1 hok
          go_wp2_with (first | (go_at_call 15; refine (zz15_yes _ _ _ _ _ hb1 ht1).mono ?_; rintro e w' ⟨rfl, hw⟩; have hw' := hw.symm; subst hw') | (go_at_call 16; refine (lawIsDigit_any _ _).mono ?_; rintro e w' ⟨rfl, hw⟩; have hw' := hw.symm; subst hw') | (go_at_call 17; refine (lawIsName_any _ _).mono ?_; rintro e w' ⟨rfl, hw⟩; have hw' := hw.symm; subst hw'))
          go_ret
          exact ⟨rfl, Below.refl _ _⟩
      · have hgr : GrOk false true body tail := ⟨fun j hj => by simpa using hok1 j hj, fun _ h => absurd h ht⟩
        clear hok1 hok
        obtain ⟨L, hL⟩ : ∃ L, Hid (L = [92, 103, 45] ++ (body.data.toList ++ (tail.data.toList))) := ⟨_, by exact rfl⟩
        have HG : Hid (GRef ⟨L.toArray⟩ false true 3 (3 + body.size)) := gr_text_01 body tail hz hgr L hL.out
        have HL : Hid (∀ (w1 : World) (a1 : Option Addr) (m1 cap1 : Nat), Buf 5 wr.heap.size w1 a1 m1 cap1 ([] ++ [92, 103] ++ [45] ++ body.data.toList ++ tail.data.toList) → Buf 5 wr.heap.size w1 a1 m1 cap1 L) := by
          intro w1 a1 m1 cap1 h; rw [hL.out]; simpa using h
        have HSZ : Hid ((⟨L.toArray⟩ : ByteArray).size ≤ 16777216) := by
          show (⟨L.toArray⟩ : ByteArray).size ≤ 16777216
          rw [size_mk, hL.out]; simp only [List.length_append, List.length_cons, List.length_nil, ← Lib.size_eq]; omega
        clear hgr hL
        go_wp2_with (first | (go_at_call 16; refine (lawIsDigit_any _ _).mono ?_; rintro e w' ⟨rfl, hw⟩; have hw' := hw.symm; subst hw') | (at_make; refine wpList_mk tBg rfl _ _ rfl wr.heap.size _ (5 + body.size + tail.size) rfl rfl (by omega) (by omega) (Nat.le_refl _) ?_; intro w1 hb1 hB1; have hs1 := hB1.size) | (at_builtin; refine wpList_app tBg rfl (.tmp 69) (.tmp 70) rfl [92, 103] _ two_92_103 2 2 rfl rfl rfl hb1 (by omega) (by omega) ?_; intro a2 cap2 w2 hb2 hB2; have hs2 := hB2.size) | (at_builtin; refine wpList_app tBg rfl (.tmp 77) (.tmp 78) rfl [45] _ one_45 1 1 rfl rfl rfl hb2 (by omega) (by omega) ?_; intro a3 cap3 w3 hb3 hB3; have hs3 := hB3.size) | (at_builtin; refine wpList_appS tBg Try.underlying9 rfl (.tmp 80) (.tmp 81) rfl body rfl rfl hb3 (by omega) (by omega) ?_; intro a4 cap4 w4 hb4 hB4; have hs4 := hB4.size) | (at_builtin; refine wpList_appS tBg Try.underlying9 rfl (.tmp 89) (.tmp 90) rfl tail rfl rfl hb4 (by omega) (by omega) ?_; intro a5 cap5 w5 hb5 hB5; have hs5 := hB5.size; have hcv := (HL.out _ _ _ _ hb5).str tBg Try.underlying9; clear hb5) | (go_at_call 18; refine (zz18_any ⟨L.toArray⟩ _ HSZ.out _ _ _ _ HG.out).mono ?_; rintro e w' ⟨rfl, hw⟩; have hw' := hw.symm; subst hw'))
        go_ret
        exact ⟨ret_bool (by simp; try omega), ((((hB1).trans hB2).trans hB3).trans hB4).trans hB5⟩

set_option maxRecDepth 100000 in
set_option maxHeartbeats 2000000 in
theorem gr_walk_10 (body tail : ByteArray) (w : World) (hb1 : body.size ≤ 65536) (ht1 : tail.size ≤ 65536) (hz : 0 < body.size) :
    Calls Try.prog 5 #[.bool true, .bool false, .string body, .string tail] w fun e w' => e = .returned (.bool true) ∧ Below w.heap.size w w' := by
  have hz0 : ((body.size : Int) == 0) = false := beq_eq_false_iff_ne.2 (by omega)
  go_enter Try.func5, Try.ntmps5
  go_wp2_with (first | (go_at_call 15; refine (zz15_yes _ _ _ _ _ hb1 ht1).mono ?_; rintro e w' ⟨rfl, hw⟩; have hw' := hw.symm; subst hw') | (go_at_call 16; refine (lawIsDigit_any _ _).mono ?_; rintro e w' ⟨rfl, hw⟩; have hw' := hw.symm; subst hw') | (go_at_call 17; refine (lawIsName_any _ _).mono ?_; rintro e w' ⟨rfl, hw⟩; have hw' := hw.symm; subst hw'))
  go_loopg [9] body.size (fun n iv wr => ∃ k : Nat, n = body.size - k ∧ k ≤ body.size ∧ iv = .int .i64 k ∧ wr = w ∧ Hid (∀ j, j < k → namB (byteAt body j) = true))
  case atStart => exact ⟨0, rfl, by omega, rfl, rfl, fun j hj => by omega⟩
  case round =>
    obtain ⟨k, rfl, hk1, rfl, hwr, hok⟩ := hrel
    subst hwr
    by_cases hk : k < body.size
    · have bk := byteAt_get body k hk
      cases hd : namB (body[k].toNat : Int)
      · clear bk
        go_wp2_with (first | (go_at_call 15; refine (zz15_yes _ _ _ _ _ hb1 ht1).mono ?_; rintro e w' ⟨rfl, hw⟩; have hw' := hw.symm; subst hw') | (go_at_call 16; refine (lawIsDigit_any _ _).mono ?_; rintro e w' ⟨rfl, hw⟩; have hw' := hw.symm; subst hw') | (go_at_call 17; refine (lawIsName_any _ _).mono ?_; rintro e w' ⟨rfl, hw⟩; have hw' := hw.symm; subst hw'))
        go_ret
        exact ⟨rfl, Below.refl _ _⟩
      · have hok2 : Hid (∀ j, j < k + 1 → namB (byteAt body j) = true) := by
          intro j hj
          by_cases h : j < k
          · exact hok.out j h
          · obtain rfl : j = k := by omega
            rw [← bk]; exact hd
        clear bk hok
        go_wp2_with (first | (go_at_call 15; refine (zz15_yes _ _ _ _ _ hb1 ht1).mono ?_; rintro e w' ⟨rfl, hw⟩; have hw' := hw.symm; subst hw') | (go_at_call 16; refine (lawIsDigit_any _ _).mono ?_; rintro e w' ⟨rfl, hw⟩; have hw' := hw.symm; subst hw') | (go_at_call 17; refine (lawIsName_any _ _).mono ?_; rintro e w' ⟨rfl, hw⟩; have hw' := hw.symm; subst hw'))
        go_roundg (body.size - (k + 1))
        case rel => exact ⟨k + 1, rfl, by omega, by go_num, rfl, hok2⟩
        case measure => omega
    · have hok1 := hok.out
      have hkk : k = body.size := by omega
      rw [hkk] at hok1
      clear hkk
      · have hgr : GrOk true false body tail := ⟨fun j hj => by simpa using hok1 j hj, fun h => by cases h⟩
        clear hok1 hok
        obtain ⟨L, hL⟩ : ∃ L, Hid (L = [92, 103, 123] ++ (body.data.toList ++ (125 :: tail.data.toList))) := ⟨_, by exact rfl⟩
        have HG : Hid (GRef ⟨L.toArray⟩ true false 3 (3 + body.size)) := gr_text_10 body tail hz hgr L hL.out
        have HL : Hid (∀ (w1 : World) (a1 : Option Addr) (m1 cap1 : Nat), Buf 5 wr.heap.size w1 a1 m1 cap1 ([] ++ [92, 103] ++ [123] ++ body.data.toList ++ [125] ++ tail.data.toList) → Buf 5 wr.heap.size w1 a1 m1 cap1 L) := by
          intro w1 a1 m1 cap1 h; rw [hL.out]; simpa using h
        have HSZ : Hid ((⟨L.toArray⟩ : ByteArray).size ≤ 16777216) := by
          show (⟨L.toArray⟩ : ByteArray).size ≤ 16777216
          rw [size_mk, hL.out]; simp only [List.length_append, List.length_cons, List.length_nil, ← Lib.size_eq]; omega
        clear hgr hL
        go_wp2_with (first | (go_at_call 16; refine (lawIsDigit_any _ _).mono ?_; rintro e w' ⟨rfl, hw⟩; have hw' := hw.symm; subst hw') | (at_make; refine wpList_mk tBg rfl _ _ rfl wr.heap.size _ (5 + body.size + tail.size) rfl rfl (by omega) (by omega) (Nat.le_refl _) ?_; intro w1 hb1 hB1; have hs1 := hB1.size) | (at_builtin; refine wpList_app tBg rfl (.tmp 69) (.tmp 70) rfl [92, 103] _ two_92_103 2 2 rfl rfl rfl hb1 (by omega) (by omega) ?_; intro a2 cap2 w2 hb2 hB2; have hs2 := hB2.size) | (at_builtin; refine wpList_app tBg rfl (.tmp 73) (.tmp 74) rfl [123] _ one_123 1 1 rfl rfl rfl hb2 (by omega) (by omega) ?_; intro a3 cap3 w3 hb3 hB3; have hs3 := hB3.size) | (at_builtin; refine wpList_appS tBg Try.underlying9 rfl (.tmp 80) (.tmp 81) rfl body rfl rfl hb3 (by omega) (by omega) ?_; intro a4 cap4 w4 hb4 hB4; have hs4 := hB4.size) | (at_builtin; refine wpList_app tBg rfl (.tmp 84) (.tmp 85) rfl [125] _ one_125 1 1 rfl rfl rfl hb4 (by omega) (by omega) ?_; intro a5 cap5 w5 hb5 hB5; have hs5 := hB5.size) | (at_builtin; refine wpList_appS tBg Try.underlying9 rfl (.tmp 89) (.tmp 90) rfl tail rfl rfl hb5 (by omega) (by omega) ?_; intro a6 cap6 w6 hb6 hB6; have hs6 := hB6.size; have hcv := (HL.out _ _ _ _ hb6).str tBg Try.underlying9; clear hb6) | (go_at_call 18; refine (zz18_any ⟨L.toArray⟩ _ HSZ.out _ _ _ _ HG.out).mono ?_; rintro e w' ⟨rfl, hw⟩; have hw' := hw.symm; subst hw'))
        go_ret
        exact ⟨ret_bool (by simp; try omega), (((((hB1).trans hB2).trans hB3).trans hB4).trans hB5).trans hB6⟩

set_option maxRecDepth 100000 in
set_option maxHeartbeats 2000000 in
theorem gr_walk_11 (body tail : ByteArray) (w : World) (hb1 : body.size ≤ 65536) (ht1 : tail.size ≤ 65536) (hz : 0 < body.size) :
    Calls Try.prog 5 #[.bool true, .bool true, .string body, .string tail] w fun e w' => e = .returned (.bool true) ∧ Below w.heap.size w w' := by
  have hz0 : ((body.size : Int) == 0) = false := beq_eq_false_iff_ne.2 (by omega)
  go_enter Try.func5, Try.ntmps5
  go_wp2_with (first | (go_at_call 15; refine (zz15_yes _ _ _ _ _ hb1 ht1).mono ?_; rintro e w' ⟨rfl, hw⟩; have hw' := hw.symm; subst hw') | (go_at_call 16; refine (lawIsDigit_any _ _).mono ?_; rintro e w' ⟨rfl, hw⟩; have hw' := hw.symm; subst hw') | (go_at_call 17; refine (lawIsName_any _ _).mono ?_; rintro e w' ⟨rfl, hw⟩; have hw' := hw.symm; subst hw'))
  go_loopg [9] body.size (fun n iv wr => ∃ k : Nat, n = body.size - k ∧ k ≤ body.size ∧ iv = .int .i64 k ∧ wr = w ∧ Hid (∀ j, j < k → digB (byteAt body j) = true))
  case atStart => exact ⟨0, rfl, by omega, rfl, rfl, fun j hj => by omega⟩
  case round =>
    obtain ⟨k, rfl, hk1, rfl, hwr, hok⟩ := hrel
    subst hwr
    by_cases hk : k < body.size
    · have bk := byteAt_get body k hk
      cases hd : digB (body[k].toNat : Int)
      · clear bk
        go_wp2_with (first | (go_at_call 15; refine (zz15_yes _ _ _ _ _ hb1 ht1).mono ?_; rintro e w' ⟨rfl, hw⟩; have hw' := hw.symm; subst hw') | (go_at_call 16; refine (lawIsDigit_any _ _).mono ?_; rintro e w' ⟨rfl, hw⟩; have hw' := hw.symm; subst hw') | (go_at_call 17; refine (lawIsName_any _ _).mono ?_; rintro e w' ⟨rfl, hw⟩; have hw' := hw.symm; subst hw'))
        go_ret
        exact ⟨rfl, Below.refl _ _⟩
      · have hok2 : Hid (∀ j, j < k + 1 → digB (byteAt body j) = true) := by
          intro j hj
          by_cases h : j < k
          · exact hok.out j h
          · obtain rfl : j = k := by omega
            rw [← bk]; exact hd
        clear bk hok
        go_wp2_with (first | (go_at_call 15; refine (zz15_yes _ _ _ _ _ hb1 ht1).mono ?_; rintro e w' ⟨rfl, hw⟩; have hw' := hw.symm; subst hw') | (go_at_call 16; refine (lawIsDigit_any _ _).mono ?_; rintro e w' ⟨rfl, hw⟩; have hw' := hw.symm; subst hw') | (go_at_call 17; refine (lawIsName_any _ _).mono ?_; rintro e w' ⟨rfl, hw⟩; have hw' := hw.symm; subst hw'))
        go_roundg (body.size - (k + 1))
        case rel => exact ⟨k + 1, rfl, by omega, by go_num, rfl, hok2⟩
        case measure => omega
    · have hok1 := hok.out
      have hkk : k = body.size := by omega
      rw [hkk] at hok1
      clear hkk
      · have hgr : GrOk true true body tail := ⟨fun j hj => by simpa using hok1 j hj, fun h => by cases h⟩
        clear hok1 hok
        obtain ⟨L, hL⟩ : ∃ L, Hid (L = [92, 103, 123, 45] ++ (body.data.toList ++ (125 :: tail.data.toList))) := ⟨_, by exact rfl⟩
        have HG : Hid (GRef ⟨L.toArray⟩ true true 4 (4 + body.size)) := gr_text_11 body tail hz hgr L hL.out
        have HL : Hid (∀ (w1 : World) (a1 : Option Addr) (m1 cap1 : Nat), Buf 5 wr.heap.size w1 a1 m1 cap1 ([] ++ [92, 103] ++ [123] ++ [45] ++ body.data.toList ++ [125] ++ tail.data.toList) → Buf 5 wr.heap.size w1 a1 m1 cap1 L) := by
          intro w1 a1 m1 cap1 h; rw [hL.out]; simpa using h
        have HSZ : Hid ((⟨L.toArray⟩ : ByteArray).size ≤ 16777216) := by
          show (⟨L.toArray⟩ : ByteArray).size ≤ 16777216
          rw [size_mk, hL.out]; simp only [List.length_append, List.length_cons, List.length_nil, ← Lib.size_eq]; omega
        clear hgr hL
        go_wp2_with (first | (go_at_call 16; refine (lawIsDigit_any _ _).mono ?_; rintro e w' ⟨rfl, hw⟩; have hw' := hw.symm; subst hw') | (at_make; refine wpList_mk tBg rfl _ _ rfl wr.heap.size _ (5 + body.size + tail.size) rfl rfl (by omega) (by omega) (Nat.le_refl _) ?_; intro w1 hb1 hB1; have hs1 := hB1.size) | (at_builtin; refine wpList_app tBg rfl (.tmp 69) (.tmp 70) rfl [92, 103] _ two_92_103 2 2 rfl rfl rfl hb1 (by omega) (by omega) ?_; intro a2 cap2 w2 hb2 hB2; have hs2 := hB2.size) | (at_builtin; refine wpList_app tBg rfl (.tmp 73) (.tmp 74) rfl [123] _ one_123 1 1 rfl rfl rfl hb2 (by omega) (by omega) ?_; intro a3 cap3 w3 hb3 hB3; have hs3 := hB3.size) | (at_builtin; refine wpList_app tBg rfl (.tmp 77) (.tmp 78) rfl [45] _ one_45 1 1 rfl rfl rfl hb3 (by omega) (by omega) ?_; intro a4 cap4 w4 hb4 hB4; have hs4 := hB4.size) | (at_builtin; refine wpList_appS tBg Try.underlying9 rfl (.tmp 80) (.tmp 81) rfl body rfl rfl hb4 (by omega) (by omega) ?_; intro a5 cap5 w5 hb5 hB5; have hs5 := hB5.size) | (at_builtin; refine wpList_app tBg rfl (.tmp 84) (.tmp 85) rfl [125] _ one_125 1 1 rfl rfl rfl hb5 (by omega) (by omega) ?_; intro a6 cap6 w6 hb6 hB6; have hs6 := hB6.size) | (at_builtin; refine wpList_appS tBg Try.underlying9 rfl (.tmp 89) (.tmp 90) rfl tail rfl rfl hb6 (by omega) (by omega) ?_; intro a7 cap7 w7 hb7 hB7; have hs7 := hB7.size; have hcv := (HL.out _ _ _ _ hb7).str tBg Try.underlying9; clear hb7) | (go_at_call 18; refine (zz18_any ⟨L.toArray⟩ _ HSZ.out _ _ _ _ HG.out).mono ?_; rintro e w' ⟨rfl, hw⟩; have hw' := hw.symm; subst hw'))
        go_ret
        exact ⟨ret_bool (by simp; try omega), ((((((hB1).trans hB2).trans hB3).trans hB4).trans hB5).trans hB6).trans hB7⟩

end Go.Proofs.Qxb6000758a
