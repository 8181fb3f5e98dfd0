/-
  FnNumberMatchesDecimalModel (3), walked.
-/
import Derived.Test.Qxb6600050aNmPlain
import Derived.Test.Qxb6600050aUtoa
namespace Go.Proofs.Qxb6600050a
open Go.RowKit

set_option maxRecDepth 100000 in
set_option maxHeartbeats 2000000 in
theorem nm_nodigits (s : ByteArray) (i j : Nat) (least most : Int) (w : World) (hs : s.size ≤ 1048576) (hij : i ≤ j) (hj : j ≤ s.size) (hm : most ≤ 100000000)
    (hd : Hid (∀ k (hs : k < s.size), k < j → i ≤ k → digB (s[k].toNat : Int) = true)) (he : Hid (∀ h : j < s.size, digB (s[j].toNat : Int) = false)) (hji : j = i)
    (H13 : Hid (Calls Try.prog 13 #[.string s, .int .i64 (i : Int), .int .i64 least, .int .i64 most] w fun e w' => e = .returned (.tuple #[.int .i64 0, .int .i64 (i : Int), .bool false]) ∧ Below w.heap.size w w')) :
    Calls Try.prog 3 #[.string s, .int .i64 (i : Int), .int .i64 least, .int .i64 most] w fun e w' => e = .returned (.bool true) ∧ Below w.heap.size w w' := by
  have hje : ((j : Int) == (i : Int)) = true := beq_iff_eq.2 (by omega)
  clear hji
  have hsi : (i : Int) ≤ (s.size : Int) := by omega
  have hmb : most ≤ 100000000 := hm
  have g1 : decide ((i : Int) < 0) = false := by simp
  go_enter Try.func3, Try.ntmps3
  go_wp2_with (first | (go_at_call 12; refine (zz12_yes s _ _ _ _ hs).mono ?_; rintro e w' ⟨rfl, hw⟩; have hw' := hw.symm; subst hw'; clear hw) | (go_at_call 13; refine (H13.out).mono ?_; rintro e w1 ⟨rfl, hb1⟩))
  go_loopg [12] (j - i) (fun n jv wr => ∃ q : Nat, n = j - q ∧ i ≤ q ∧ q ≤ j ∧ jv = .int .i64 q ∧ wr = w1)
  case atStart => exact ⟨i, rfl, by omega, hij, rfl, rfl⟩
  case round =>
    obtain ⟨q, rfl, hq1, hq2, rfl, hwr⟩ := hrel
    have hwr' := hwr.symm
    subst hwr'
    clear hwr
    by_cases hqj : q < j
    · have hqs : q < s.size := by omega
      have hdq := hd.out q hqs hqj hq1
      go_wp2_with (go_at_call 14; refine (isDigit_any _ _).mono ?_; rintro e w' ⟨rfl, hw⟩; have hw' := hw.symm; subst hw')
      go_roundg (j - (q + 1))
      case rel => exact ⟨q + 1, rfl, by omega, by omega, by go_num, rfl⟩
      case measure => omega
    · obtain rfl : q = j := by omega
      have hstop : s.size ≤ q ∨ ∃ h : q < s.size, digB (s[q].toNat : Int) = false := by
        by_cases h : q < s.size
        · exact .inr ⟨h, he.out h⟩
        · exact .inl (by omega)
      clear he
      rcases hstop with h | ⟨h, h'⟩
      all_goals
        go_wp2_with (go_at_call 14; refine (isDigit_any _ _).mono ?_; rintro e w' ⟨rfl, hw⟩; have hw' := hw.symm; subst hw')
        go_ret
        exact ⟨rfl, hb1⟩

set_option maxRecDepth 100000 in
set_option maxHeartbeats 2000000 in
theorem nm_neg (s : ByteArray) (i j : Nat) (least most : Int) (w : World) (hs : s.size ≤ 1048576) (hij : i ≤ j) (hj : j ≤ s.size) (hm : most ≤ 100000000)
    (hd : Hid (∀ k (hs : k < s.size), k < j → i ≤ k → digB (s[k].toNat : Int) = true)) (he : Hid (∀ h : j < s.size, digB (s[j].toNat : Int) = false)) (hji : i < j) (hneg : most < 0)
    (H13 : Hid (Calls Try.prog 13 #[.string s, .int .i64 (i : Int), .int .i64 least, .int .i64 most] w fun e w' => e = .returned (.tuple #[.int .i64 0, .int .i64 (i : Int), .bool false]) ∧ Below w.heap.size w w')) :
    Calls Try.prog 3 #[.string s, .int .i64 (i : Int), .int .i64 least, .int .i64 most] w fun e w' => e = .returned (.bool true) ∧ Below w.heap.size w w' := by
  have hje : ((j : Int) == (i : Int)) = false := beq_eq_false_iff_ne.2 (by omega)
  have hsi : (i : Int) ≤ (s.size : Int) := by omega
  have hmb : most ≤ 100000000 := hm
  have g1 : decide ((i : Int) < 0) = false := by simp
  go_enter Try.func3, Try.ntmps3
  go_wp2_with (first | (go_at_call 12; refine (zz12_yes s _ _ _ _ hs).mono ?_; rintro e w' ⟨rfl, hw⟩; have hw' := hw.symm; subst hw'; clear hw) | (go_at_call 13; refine (H13.out).mono ?_; rintro e w1 ⟨rfl, hb1⟩))
  go_loopg [12] (j - i) (fun n jv wr => ∃ q : Nat, n = j - q ∧ i ≤ q ∧ q ≤ j ∧ jv = .int .i64 q ∧ wr = w1)
  case atStart => exact ⟨i, rfl, by omega, hij, rfl, rfl⟩
  case round =>
    obtain ⟨q, rfl, hq1, hq2, rfl, hwr⟩ := hrel
    have hwr' := hwr.symm
    subst hwr'
    clear hwr
    by_cases hqj : q < j
    · have hqs : q < s.size := by omega
      have hdq := hd.out q hqs hqj hq1
      go_wp2_with (go_at_call 14; refine (isDigit_any _ _).mono ?_; rintro e w' ⟨rfl, hw⟩; have hw' := hw.symm; subst hw')
      go_roundg (j - (q + 1))
      case rel => exact ⟨q + 1, rfl, by omega, by omega, by go_num, rfl⟩
      case measure => omega
    · obtain rfl : q = j := by omega
      have hstop : s.size ≤ q ∨ ∃ h : q < s.size, digB (s[q].toNat : Int) = false := by
        by_cases h : q < s.size
        · exact .inr ⟨h, he.out h⟩
        · exact .inl (by omega)
      clear he
      rcases hstop with h | ⟨h, h'⟩
      all_goals
        go_wp2_with (go_at_call 14; refine (isDigit_any _ _).mono ?_; rintro e w' ⟨rfl, hw⟩; have hw' := hw.symm; subst hw')
        go_ret
        exact ⟨rfl, hb1⟩

set_option maxRecDepth 100000 in
set_option maxHeartbeats 4000000 in
theorem nm_over (s : ByteArray) (i j : Nat) (least most : Int) (w : World) (hs : s.size ≤ 1048576) (hij : i ≤ j) (hj : j ≤ s.size) (hm : most ≤ 100000000)
    (hd : Hid (∀ k (hs : k < s.size), k < j → i ≤ k → digB (s[k].toNat : Int) = true)) (he : Hid (∀ h : j < s.size, digB (s[j].toNat : Int) = false)) (hji : i < j) (hm0 : 0 ≤ most) (ee : Nat) (hee1 : i ≤ ee) (hee2 : ee < j) (hov : most < (vl s i j : Int))
    (H13 : Hid (Calls Try.prog 13 #[.string s, .int .i64 (i : Int), .int .i64 least, .int .i64 most] w fun e w' => e = .returned (.tuple #[.int .i64 0, .int .i64 (ee : Int), .bool false]) ∧ Below w.heap.size w w')) :
    Calls Try.prog 3 #[.string s, .int .i64 (i : Int), .int .i64 least, .int .i64 most] w fun e w' => e = .returned (.bool true) ∧ Below w.heap.size w w' := by
  have hje : ((j : Int) == (i : Int)) = false := beq_eq_false_iff_ne.2 (by omega)
  have hsi : (i : Int) ≤ (s.size : Int) := by omega
  have hmb : most ≤ 100000000 := hm
  have g1 : decide ((i : Int) < 0) = false := by simp
  go_enter Try.func3, Try.ntmps3
  go_wp2_with (first | (go_at_call 12; refine (zz12_yes s _ _ _ _ hs).mono ?_; rintro e w' ⟨rfl, hw⟩; have hw' := hw.symm; subst hw'; clear hw) | (go_at_call 13; refine (H13.out).mono ?_; rintro e w1 ⟨rfl, hb1⟩))
  go_loopg [12] (j - i) (fun n jv wr => ∃ q : Nat, n = j - q ∧ i ≤ q ∧ q ≤ j ∧ jv = .int .i64 q ∧ wr = w1)
  case atStart => exact ⟨i, rfl, by omega, hij, rfl, rfl⟩
  case round =>
    obtain ⟨q, rfl, hq1, hq2, rfl, hwr⟩ := hrel
    have hwr' := hwr.symm
    subst hwr'
    clear hwr
    by_cases hqj : q < j
    · have hqs : q < s.size := by omega
      have hdq := hd.out q hqs hqj hq1
      go_wp2_with (go_at_call 14; refine (isDigit_any _ _).mono ?_; rintro e w' ⟨rfl, hw⟩; have hw' := hw.symm; subst hw')
      go_roundg (j - (q + 1))
      case rel => exact ⟨q + 1, rfl, by omega, by omega, by go_num, rfl⟩
      case measure => omega
    · obtain rfl : q = j := by omega
      have hstop : s.size ≤ q ∨ ∃ h : q < s.size, digB (s[q].toNat : Int) = false := by
        by_cases h : q < s.size
        · exact .inr ⟨h, he.out h⟩
        · exact .inl (by omega)
      have hji2 : i < q := hji
      rcases hstop with hstop | ⟨hstop, hstop2⟩
      all_goals
        go_wp2_with (go_at_call 14; refine (isDigit_any _ _).mono ?_; rintro e w' ⟨rfl, hw⟩; have hw' := hw.symm; subst hw')
        go_loopg [13] (q - i) (fun n kv wr => ∃ k : Nat, n = q - k ∧ i ≤ k ∧ k ≤ q ∧ kv = .int .i64 k ∧ Hid (∀ p (hp : p < s.size), p < k → i ≤ p → s[p] = 48) ∧ wr = w1)
        case atStart => exact ⟨i, rfl, by omega, by omega, rfl, (fun p _ h1 h2 => by omega), rfl⟩
        case round =>
          rename Nat => gi
          obtain ⟨k, hgi, hk1, hk2, rfl, hz, hwr⟩ := hrel
          have hwr' := hwr.symm
          subst hwr'
          clear hwr
          subst hgi
          by_cases hkq : k < q ∧ (∀ h : k < s.size, s[k] = 48)
          · obtain ⟨hkq, hk48⟩ := hkq
            have hks : k < s.size := by omega
            have h48 : ((s[k].toNat : Int) == 48) = true := by rw [hk48 hks]; rfl
            have hz2 : Hid (∀ p (hp : p < s.size), p < k + 1 → i ≤ p → s[p] = 48) := by
              intro p hp h1 h2
              by_cases e : p = k
              · subst e; exact hk48 hp
              · exact hz.out p hp (by omega) h2
            clear hk48 hz
            go_wp2_with fail
            go_roundg (q - (k + 1))
            case rel => exact ⟨k + 1, rfl, by omega, by omega, by go_num, hz2, rfl⟩
            case measure => omega
          · have hks0 : ∀ hkq : k < q, ∀ h : k < s.size, ¬ s[k] = 48 := by
              intro h1 h2 h3
              exact hkq ⟨h1, fun _ => h3⟩
            clear hkq
            have hstrip := vl_strip s i q hj k hk1 hk2 hz.out
            have hT : ∀ c ∈ seg s k q, Num.isD c = true := seg_mem s k q hj _ (fun p hp h => by rw [isD_digB]; exact hd.out p (by omega) hp (by omega))
            have hF : ∀ d l, seg s k q = d :: l → ¬ d = 48 := by
              intro d l e
              have hkq : k < q := by
                rcases Nat.lt_or_ge k q with h | h
                · exact h
                · have : q = k := by omega
                  subst this; rw [seg_nil] at e; cases e
              rw [seg_cons s k q hkq hj] at e
              injection e with e1 e2
              rw [← e1]; exact hks0 hkq (by omega)
            have hL := seg_len s k q hj
            have hmn : (most.toNat : Int) = most := by omega
            have hN : most.toNat < 10 ^ 24 := by omega
            have X1 := len_gt (seg s k q) most.toNat hN hT hF
            have X2 := len_lt (seg s k q) most.toNat hN hT
            have X3 := len_eq (seg s k q) most.toNat hN hT
            rw [hL] at X1 X2 X3
            have hval : Num.val (seg s k q) 0 = vl s i q := hstrip
            rw [hval] at X1 X2 X3
            have hul := Num.utoa_len most.toNat 9 (by omega) (by omega)
            have hsz : (⟨(Num.utoa most.toNat).toArray⟩ : ByteArray).size = (Num.utoa most.toNat).length := by simp [ByteArray.size]
            have HX1 := (show Hid _ from X1)
            have HX2 := (show Hid _ from X2)
            have HX3 := (show Hid _ from X3)
            have HT := (show Hid _ from hT)
            have hes : (s.extract k q).size = q - k := by simp; omega
            have HVE : Hid (vl (s.extract k q) 0 (s.extract k q).size = vl s i q) := (vl_ext s k q).trans hstrip
            clear X1 X2 X3 hT hF hval hz hstrip
            have hcond : (k < q → ∃ h : k < s.size, ((s[k].toNat : Int) == 48) = false) := by
              intro h1
              refine ⟨by omega, beq_eq_false_iff_ne.2 ?_⟩
              intro h2
              exact hks0 h1 (by omega) (UInt8.toNat_inj.1 (by simp; omega))
            clear hks0
            obtain ⟨N, hNN⟩ : ∃ N : Nat, most = (N : Int) := ⟨most.toNat, by omega⟩
            subst hNN
            simp only [Int.toNat_natCast] at *
            have H15 := (show Hid _ from fun W : World => utoa_any W N (by omega))
            generalize hUU : Num.utoa N = U at *
            have hUs : (⟨U.toArray⟩ : ByteArray).size = U.length := hsz
            clear hUU hsz hmn
            by_cases hkq : k < q
            · obtain ⟨hks, h48⟩ := hcond hkq
              clear hcond
              rcases (show U.length < q - k ∨ q - k = U.length by rcases Nat.lt_trichotomy (q - k) U.length with h | h | h; (have := HX2.out h; omega); exact .inr h; exact .inl h) with hl | hl
              · have hl1 : U.length < (s.extract k q).size := by rw [hes]; exact hl
                go_wp2_with (go_at_call 15; refine (H15.out _).mono ?_; rintro e w2 ⟨rfl, hb2⟩)
                go_ret
                exact ⟨rfl, hb1.trans (hb2.mono hb1.size)⟩
              · have HGR : Hid (grt (s.extract k q).data.toList (⟨U.toArray⟩ : ByteArray).data.toList = true) := by
                  show grt _ U = true
                  rw [ext_data, HX3.out hl]; simp; omega
                have hl1 : ((s.extract k q).size : Int) = (U.length : Int) := by rw [hes]; omega
                go_wp2_with (first | (go_at_call 15; refine (H15.out _).mono ?_; rintro e w2 ⟨rfl, hb2⟩) | (go_at_call 16; refine (greater_any _ _ _ (by rw [hes]; omega) (by rw [hUs]; omega) true HGR).mono ?_; rintro e w3 ⟨rfl, hb3⟩))
                go_ret
                exact ⟨rfl, (hb1.trans (hb2.mono hb1.size)).trans (hb3.mono (by have := hb1.size; have := hb2.size; omega))⟩
            · clear hcond
              rcases (show U.length < q - k ∨ q - k = U.length by rcases Nat.lt_trichotomy (q - k) U.length with h | h | h; (have := HX2.out h; omega); exact .inr h; exact .inl h) with hl | hl
              · have hl1 : U.length < (s.extract k q).size := by rw [hes]; exact hl
                go_wp2_with (go_at_call 15; refine (H15.out _).mono ?_; rintro e w2 ⟨rfl, hb2⟩)
                go_ret
                exact ⟨rfl, hb1.trans (hb2.mono hb1.size)⟩
              · have HGR : Hid (grt (s.extract k q).data.toList (⟨U.toArray⟩ : ByteArray).data.toList = true) := by
                  show grt _ U = true
                  rw [ext_data, HX3.out hl]; simp; omega
                have hl1 : ((s.extract k q).size : Int) = (U.length : Int) := by rw [hes]; omega
                go_wp2_with (first | (go_at_call 15; refine (H15.out _).mono ?_; rintro e w2 ⟨rfl, hb2⟩) | (go_at_call 16; refine (greater_any _ _ _ (by rw [hes]; omega) (by rw [hUs]; omega) true HGR).mono ?_; rintro e w3 ⟨rfl, hb3⟩))
                go_ret
                exact ⟨rfl, (hb1.trans (hb2.mono hb1.size)).trans (hb3.mono (by have := hb1.size; have := hb2.size; omega))⟩


set_option maxRecDepth 100000 in
set_option maxHeartbeats 4000000 in
theorem nm_fit1 (s : ByteArray) (i j : Nat) (least most : Int) (w : World) (hs : s.size ≤ 1048576) (hij : i ≤ j) (hj : j ≤ s.size) (hm : most ≤ 100000000)
    (hd : Hid (∀ k (hs : k < s.size), k < j → i ≤ k → digB (s[k].toNat : Int) = true)) (he : Hid (∀ h : j < s.size, digB (s[j].toNat : Int) = false)) (hji : i < j) (hm0 : 0 ≤ most) (hov : (vl s i j : Int) ≤ most) (hle : least ≤ (vl s i j : Int))
    (H13 : Hid (Calls Try.prog 13 #[.string s, .int .i64 (i : Int), .int .i64 least, .int .i64 most] w fun e w' => e = .returned (.tuple #[.int .i64 (vl s i j : Int), .int .i64 (j : Int), .bool true]) ∧ Below w.heap.size w w')) :
    Calls Try.prog 3 #[.string s, .int .i64 (i : Int), .int .i64 least, .int .i64 most] w fun e w' => e = .returned (.bool true) ∧ Below w.heap.size w w' := by
  have hje : ((j : Int) == (i : Int)) = false := beq_eq_false_iff_ne.2 (by omega)
  have hsi : (i : Int) ≤ (s.size : Int) := by omega
  have hmb : most ≤ 100000000 := hm
  have g1 : decide ((i : Int) < 0) = false := by simp
  go_enter Try.func3, Try.ntmps3
  go_wp2_with (first | (go_at_call 12; refine (zz12_yes s _ _ _ _ hs).mono ?_; rintro e w' ⟨rfl, hw⟩; have hw' := hw.symm; subst hw'; clear hw) | (go_at_call 13; refine (H13.out).mono ?_; rintro e w1 ⟨rfl, hb1⟩))
  go_loopg [12] (j - i) (fun n jv wr => ∃ q : Nat, n = j - q ∧ i ≤ q ∧ q ≤ j ∧ jv = .int .i64 q ∧ wr = w1)
  case atStart => exact ⟨i, rfl, by omega, hij, rfl, rfl⟩
  case round =>
    obtain ⟨q, rfl, hq1, hq2, rfl, hwr⟩ := hrel
    have hwr' := hwr.symm
    subst hwr'
    clear hwr
    by_cases hqj : q < j
    · have hqs : q < s.size := by omega
      have hdq := hd.out q hqs hqj hq1
      go_wp2_with (go_at_call 14; refine (isDigit_any _ _).mono ?_; rintro e w' ⟨rfl, hw⟩; have hw' := hw.symm; subst hw')
      go_roundg (j - (q + 1))
      case rel => exact ⟨q + 1, rfl, by omega, by omega, by go_num, rfl⟩
      case measure => omega
    · obtain rfl : q = j := by omega
      have hstop : s.size ≤ q ∨ ∃ h : q < s.size, digB (s[q].toNat : Int) = false := by
        by_cases h : q < s.size
        · exact .inr ⟨h, he.out h⟩
        · exact .inl (by omega)
      have hji2 : i < q := hji
      rcases hstop with hstop | ⟨hstop, hstop2⟩
      all_goals
        go_wp2_with (go_at_call 14; refine (isDigit_any _ _).mono ?_; rintro e w' ⟨rfl, hw⟩; have hw' := hw.symm; subst hw')
        go_loopg [13] (q - i) (fun n kv wr => ∃ k : Nat, n = q - k ∧ i ≤ k ∧ k ≤ q ∧ kv = .int .i64 k ∧ Hid (∀ p (hp : p < s.size), p < k → i ≤ p → s[p] = 48) ∧ wr = w1)
        case atStart => exact ⟨i, rfl, by omega, by omega, rfl, (fun p _ h1 h2 => by omega), rfl⟩
        case round =>
          rename Nat => gi
          obtain ⟨k, hgi, hk1, hk2, rfl, hz, hwr⟩ := hrel
          have hwr' := hwr.symm
          subst hwr'
          clear hwr
          subst hgi
          by_cases hkq : k < q ∧ (∀ h : k < s.size, s[k] = 48)
          · obtain ⟨hkq, hk48⟩ := hkq
            have hks : k < s.size := by omega
            have h48 : ((s[k].toNat : Int) == 48) = true := by rw [hk48 hks]; rfl
            have hz2 : Hid (∀ p (hp : p < s.size), p < k + 1 → i ≤ p → s[p] = 48) := by
              intro p hp h1 h2
              by_cases e : p = k
              · subst e; exact hk48 hp
              · exact hz.out p hp (by omega) h2
            clear hk48 hz
            go_wp2_with fail
            go_roundg (q - (k + 1))
            case rel => exact ⟨k + 1, rfl, by omega, by omega, by go_num, hz2, rfl⟩
            case measure => omega
          · have hks0 : ∀ hkq : k < q, ∀ h : k < s.size, ¬ s[k] = 48 := by
              intro h1 h2 h3
              exact hkq ⟨h1, fun _ => h3⟩
            clear hkq
            have hstrip := vl_strip s i q hj k hk1 hk2 hz.out
            have hT : ∀ c ∈ seg s k q, Num.isD c = true := seg_mem s k q hj _ (fun p hp h => by rw [isD_digB]; exact hd.out p (by omega) hp (by omega))
            have hF : ∀ d l, seg s k q = d :: l → ¬ d = 48 := by
              intro d l e
              have hkq : k < q := by
                rcases Nat.lt_or_ge k q with h | h
                · exact h
                · have : q = k := by omega
                  subst this; rw [seg_nil] at e; cases e
              rw [seg_cons s k q hkq hj] at e
              injection e with e1 e2
              rw [← e1]; exact hks0 hkq (by omega)
            have hL := seg_len s k q hj
            have hmn : (most.toNat : Int) = most := by omega
            have hN : most.toNat < 10 ^ 24 := by omega
            have X1 := len_gt (seg s k q) most.toNat hN hT hF
            have X2 := len_lt (seg s k q) most.toNat hN hT
            have X3 := len_eq (seg s k q) most.toNat hN hT
            rw [hL] at X1 X2 X3
            have hval : Num.val (seg s k q) 0 = vl s i q := hstrip
            rw [hval] at X1 X2 X3
            have hul := Num.utoa_len most.toNat 9 (by omega) (by omega)
            have hsz : (⟨(Num.utoa most.toNat).toArray⟩ : ByteArray).size = (Num.utoa most.toNat).length := by simp [ByteArray.size]
            have HX1 := (show Hid _ from X1)
            have HX2 := (show Hid _ from X2)
            have HX3 := (show Hid _ from X3)
            have HT := (show Hid _ from hT)
            have hes : (s.extract k q).size = q - k := by simp; omega
            have HVE : Hid (vl (s.extract k q) 0 (s.extract k q).size = vl s i q) := (vl_ext s k q).trans hstrip
            clear X1 X2 X3 hT hF hval hz hstrip
            have hcond : (k < q → ∃ h : k < s.size, ((s[k].toNat : Int) == 48) = false) := by
              intro h1
              refine ⟨by omega, beq_eq_false_iff_ne.2 ?_⟩
              intro h2
              exact hks0 h1 (by omega) (UInt8.toNat_inj.1 (by simp; omega))
            clear hks0
            obtain ⟨N, hNN⟩ : ∃ N : Nat, most = (N : Int) := ⟨most.toNat, by omega⟩
            subst hNN
            simp only [Int.toNat_natCast] at *
            have H15 := (show Hid _ from fun W : World => utoa_any W N (by omega))
            generalize hUU : Num.utoa N = U at *
            have hUs : (⟨U.toArray⟩ : ByteArray).size = U.length := hsz
            clear hUU hsz hmn
            have H17 : Hid (∀ W : World, U.length < 13 → q - k ≤ U.length → Calls Try.prog 17 #[.string (s.extract k q)] W fun e w' => e = .returned (.int .i64 (vl s i q : Int)) ∧ w' = W) := by
              intro W h1 h2
              have := value_any (s.extract k q) W (by rw [hes]; omega) (by
                intro p hp
                have hmem : (s.extract k q)[p] ∈ (s.extract k q).data.toList := by
                  have := Lib.data_getElem? (s.extract k q) p hp
                  exact List.mem_of_getElem? this
                rw [ext_data] at hmem
                rw [← isD_digB]; exact HT.out _ hmem)
              rw [HVE.out] at this
              exact this
            by_cases hkq : k < q
            · obtain ⟨hks, h48⟩ := hcond hkq
              clear hcond
              rcases (show q - k < U.length ∨ q - k = U.length by rcases Nat.lt_trichotomy (q - k) U.length with h | h | h; exact .inl h; exact .inr h; (have := HX1.out h; omega)) with hl | hl
              · have hl1 : (s.extract k q).size < U.length := by rw [hes]; exact hl
                go_wp2_with (first | (go_at_call 15; refine (H15.out _).mono ?_; rintro e w2 ⟨rfl, hb2⟩) | (go_at_call 17; refine (H17.out _ (by omega) (by omega)).mono ?_; rintro e w' ⟨rfl, hw⟩; have hw' := hw.symm; subst hw'))
                go_ret
                exact ⟨rfl, hb1.trans (hb2.mono hb1.size)⟩
              · have HGR : Hid (grt (s.extract k q).data.toList (⟨U.toArray⟩ : ByteArray).data.toList = false) := by
                  show grt _ U = false
                  rw [ext_data, HX3.out hl]; simp; omega
                have hl1 : ((s.extract k q).size : Int) = (U.length : Int) := by rw [hes]; omega
                go_wp2_with (first | (go_at_call 15; refine (H15.out _).mono ?_; rintro e w2 ⟨rfl, hb2⟩) | (go_at_call 16; refine (greater_any _ _ _ (by rw [hes]; omega) (by rw [hUs]; omega) false HGR).mono ?_; rintro e w3 ⟨rfl, hb3⟩) | (go_at_call 17; refine (H17.out _ (by omega) (by omega)).mono ?_; rintro e w' ⟨rfl, hw⟩; have hw' := hw.symm; subst hw'))
                go_ret
                exact ⟨rfl, (hb1.trans (hb2.mono hb1.size)).trans (hb3.mono (by have := hb1.size; have := hb2.size; omega))⟩
            · clear hcond
              rcases (show q - k < U.length ∨ q - k = U.length by rcases Nat.lt_trichotomy (q - k) U.length with h | h | h; exact .inl h; exact .inr h; (have := HX1.out h; omega)) with hl | hl
              · have hl1 : (s.extract k q).size < U.length := by rw [hes]; exact hl
                go_wp2_with (first | (go_at_call 15; refine (H15.out _).mono ?_; rintro e w2 ⟨rfl, hb2⟩) | (go_at_call 17; refine (H17.out _ (by omega) (by omega)).mono ?_; rintro e w' ⟨rfl, hw⟩; have hw' := hw.symm; subst hw'))
                go_ret
                exact ⟨rfl, hb1.trans (hb2.mono hb1.size)⟩
              · have HGR : Hid (grt (s.extract k q).data.toList (⟨U.toArray⟩ : ByteArray).data.toList = false) := by
                  show grt _ U = false
                  rw [ext_data, HX3.out hl]; simp; omega
                have hl1 : ((s.extract k q).size : Int) = (U.length : Int) := by rw [hes]; omega
                go_wp2_with (first | (go_at_call 15; refine (H15.out _).mono ?_; rintro e w2 ⟨rfl, hb2⟩) | (go_at_call 16; refine (greater_any _ _ _ (by rw [hes]; omega) (by rw [hUs]; omega) false HGR).mono ?_; rintro e w3 ⟨rfl, hb3⟩) | (go_at_call 17; refine (H17.out _ (by omega) (by omega)).mono ?_; rintro e w' ⟨rfl, hw⟩; have hw' := hw.symm; subst hw'))
                go_ret
                exact ⟨rfl, (hb1.trans (hb2.mono hb1.size)).trans (hb3.mono (by have := hb1.size; have := hb2.size; omega))⟩


set_option maxRecDepth 100000 in
set_option maxHeartbeats 4000000 in
theorem nm_fit0 (s : ByteArray) (i j : Nat) (least most : Int) (w : World) (hs : s.size ≤ 1048576) (hij : i ≤ j) (hj : j ≤ s.size) (hm : most ≤ 100000000)
    (hd : Hid (∀ k (hs : k < s.size), k < j → i ≤ k → digB (s[k].toNat : Int) = true)) (he : Hid (∀ h : j < s.size, digB (s[j].toNat : Int) = false)) (hji : i < j) (hm0 : 0 ≤ most) (hov : (vl s i j : Int) ≤ most) (hle : (vl s i j : Int) < least)
    (H13 : Hid (Calls Try.prog 13 #[.string s, .int .i64 (i : Int), .int .i64 least, .int .i64 most] w fun e w' => e = .returned (.tuple #[.int .i64 (vl s i j : Int), .int .i64 (j : Int), .bool false]) ∧ Below w.heap.size w w')) :
    Calls Try.prog 3 #[.string s, .int .i64 (i : Int), .int .i64 least, .int .i64 most] w fun e w' => e = .returned (.bool true) ∧ Below w.heap.size w w' := by
  have hje : ((j : Int) == (i : Int)) = false := beq_eq_false_iff_ne.2 (by omega)
  have hsi : (i : Int) ≤ (s.size : Int) := by omega
  have hmb : most ≤ 100000000 := hm
  have g1 : decide ((i : Int) < 0) = false := by simp
  go_enter Try.func3, Try.ntmps3
  go_wp2_with (first | (go_at_call 12; refine (zz12_yes s _ _ _ _ hs).mono ?_; rintro e w' ⟨rfl, hw⟩; have hw' := hw.symm; subst hw'; clear hw) | (go_at_call 13; refine (H13.out).mono ?_; rintro e w1 ⟨rfl, hb1⟩))
  go_loopg [12] (j - i) (fun n jv wr => ∃ q : Nat, n = j - q ∧ i ≤ q ∧ q ≤ j ∧ jv = .int .i64 q ∧ wr = w1)
  case atStart => exact ⟨i, rfl, by omega, hij, rfl, rfl⟩
  case round =>
    obtain ⟨q, rfl, hq1, hq2, rfl, hwr⟩ := hrel
    have hwr' := hwr.symm
    subst hwr'
    clear hwr
    by_cases hqj : q < j
    · have hqs : q < s.size := by omega
      have hdq := hd.out q hqs hqj hq1
      go_wp2_with (go_at_call 14; refine (isDigit_any _ _).mono ?_; rintro e w' ⟨rfl, hw⟩; have hw' := hw.symm; subst hw')
      go_roundg (j - (q + 1))
      case rel => exact ⟨q + 1, rfl, by omega, by omega, by go_num, rfl⟩
      case measure => omega
    · obtain rfl : q = j := by omega
      have hstop : s.size ≤ q ∨ ∃ h : q < s.size, digB (s[q].toNat : Int) = false := by
        by_cases h : q < s.size
        · exact .inr ⟨h, he.out h⟩
        · exact .inl (by omega)
      have hji2 : i < q := hji
      rcases hstop with hstop | ⟨hstop, hstop2⟩
      all_goals
        go_wp2_with (go_at_call 14; refine (isDigit_any _ _).mono ?_; rintro e w' ⟨rfl, hw⟩; have hw' := hw.symm; subst hw')
        go_loopg [13] (q - i) (fun n kv wr => ∃ k : Nat, n = q - k ∧ i ≤ k ∧ k ≤ q ∧ kv = .int .i64 k ∧ Hid (∀ p (hp : p < s.size), p < k → i ≤ p → s[p] = 48) ∧ wr = w1)
        case atStart => exact ⟨i, rfl, by omega, by omega, rfl, (fun p _ h1 h2 => by omega), rfl⟩
        case round =>
          rename Nat => gi
          obtain ⟨k, hgi, hk1, hk2, rfl, hz, hwr⟩ := hrel
          have hwr' := hwr.symm
          subst hwr'
          clear hwr
          subst hgi
          by_cases hkq : k < q ∧ (∀ h : k < s.size, s[k] = 48)
          · obtain ⟨hkq, hk48⟩ := hkq
            have hks : k < s.size := by omega
            have h48 : ((s[k].toNat : Int) == 48) = true := by rw [hk48 hks]; rfl
            have hz2 : Hid (∀ p (hp : p < s.size), p < k + 1 → i ≤ p → s[p] = 48) := by
              intro p hp h1 h2
              by_cases e : p = k
              · subst e; exact hk48 hp
              · exact hz.out p hp (by omega) h2
            clear hk48 hz
            go_wp2_with fail
            go_roundg (q - (k + 1))
            case rel => exact ⟨k + 1, rfl, by omega, by omega, by go_num, hz2, rfl⟩
            case measure => omega
          · have hks0 : ∀ hkq : k < q, ∀ h : k < s.size, ¬ s[k] = 48 := by
              intro h1 h2 h3
              exact hkq ⟨h1, fun _ => h3⟩
            clear hkq
            have hstrip := vl_strip s i q hj k hk1 hk2 hz.out
            have hT : ∀ c ∈ seg s k q, Num.isD c = true := seg_mem s k q hj _ (fun p hp h => by rw [isD_digB]; exact hd.out p (by omega) hp (by omega))
            have hF : ∀ d l, seg s k q = d :: l → ¬ d = 48 := by
              intro d l e
              have hkq : k < q := by
                rcases Nat.lt_or_ge k q with h | h
                · exact h
                · have : q = k := by omega
                  subst this; rw [seg_nil] at e; cases e
              rw [seg_cons s k q hkq hj] at e
              injection e with e1 e2
              rw [← e1]; exact hks0 hkq (by omega)
            have hL := seg_len s k q hj
            have hmn : (most.toNat : Int) = most := by omega
            have hN : most.toNat < 10 ^ 24 := by omega
            have X1 := len_gt (seg s k q) most.toNat hN hT hF
            have X2 := len_lt (seg s k q) most.toNat hN hT
            have X3 := len_eq (seg s k q) most.toNat hN hT
            rw [hL] at X1 X2 X3
            have hval : Num.val (seg s k q) 0 = vl s i q := hstrip
            rw [hval] at X1 X2 X3
            have hul := Num.utoa_len most.toNat 9 (by omega) (by omega)
            have hsz : (⟨(Num.utoa most.toNat).toArray⟩ : ByteArray).size = (Num.utoa most.toNat).length := by simp [ByteArray.size]
            have HX1 := (show Hid _ from X1)
            have HX2 := (show Hid _ from X2)
            have HX3 := (show Hid _ from X3)
            have HT := (show Hid _ from hT)
            have hes : (s.extract k q).size = q - k := by simp; omega
            have HVE : Hid (vl (s.extract k q) 0 (s.extract k q).size = vl s i q) := (vl_ext s k q).trans hstrip
            clear X1 X2 X3 hT hF hval hz hstrip
            have hcond : (k < q → ∃ h : k < s.size, ((s[k].toNat : Int) == 48) = false) := by
              intro h1
              refine ⟨by omega, beq_eq_false_iff_ne.2 ?_⟩
              intro h2
              exact hks0 h1 (by omega) (UInt8.toNat_inj.1 (by simp; omega))
            clear hks0
            obtain ⟨N, hNN⟩ : ∃ N : Nat, most = (N : Int) := ⟨most.toNat, by omega⟩
            subst hNN
            simp only [Int.toNat_natCast] at *
            have H15 := (show Hid _ from fun W : World => utoa_any W N (by omega))
            generalize hUU : Num.utoa N = U at *
            have hUs : (⟨U.toArray⟩ : ByteArray).size = U.length := hsz
            clear hUU hsz hmn
            have H17 : Hid (∀ W : World, U.length < 13 → q - k ≤ U.length → Calls Try.prog 17 #[.string (s.extract k q)] W fun e w' => e = .returned (.int .i64 (vl s i q : Int)) ∧ w' = W) := by
              intro W h1 h2
              have := value_any (s.extract k q) W (by rw [hes]; omega) (by
                intro p hp
                have hmem : (s.extract k q)[p] ∈ (s.extract k q).data.toList := by
                  have := Lib.data_getElem? (s.extract k q) p hp
                  exact List.mem_of_getElem? this
                rw [ext_data] at hmem
                rw [← isD_digB]; exact HT.out _ hmem)
              rw [HVE.out] at this
              exact this
            by_cases hkq : k < q
            · obtain ⟨hks, h48⟩ := hcond hkq
              clear hcond
              rcases (show q - k < U.length ∨ q - k = U.length by rcases Nat.lt_trichotomy (q - k) U.length with h | h | h; exact .inl h; exact .inr h; (have := HX1.out h; omega)) with hl | hl
              · have hl1 : (s.extract k q).size < U.length := by rw [hes]; exact hl
                go_wp2_with (first | (go_at_call 15; refine (H15.out _).mono ?_; rintro e w2 ⟨rfl, hb2⟩) | (go_at_call 17; refine (H17.out _ (by omega) (by omega)).mono ?_; rintro e w' ⟨rfl, hw⟩; have hw' := hw.symm; subst hw'))
                go_ret
                exact ⟨rfl, hb1.trans (hb2.mono hb1.size)⟩
              · have HGR : Hid (grt (s.extract k q).data.toList (⟨U.toArray⟩ : ByteArray).data.toList = false) := by
                  show grt _ U = false
                  rw [ext_data, HX3.out hl]; simp; omega
                have hl1 : ((s.extract k q).size : Int) = (U.length : Int) := by rw [hes]; omega
                go_wp2_with (first | (go_at_call 15; refine (H15.out _).mono ?_; rintro e w2 ⟨rfl, hb2⟩) | (go_at_call 16; refine (greater_any _ _ _ (by rw [hes]; omega) (by rw [hUs]; omega) false HGR).mono ?_; rintro e w3 ⟨rfl, hb3⟩) | (go_at_call 17; refine (H17.out _ (by omega) (by omega)).mono ?_; rintro e w' ⟨rfl, hw⟩; have hw' := hw.symm; subst hw'))
                go_ret
                exact ⟨rfl, (hb1.trans (hb2.mono hb1.size)).trans (hb3.mono (by have := hb1.size; have := hb2.size; omega))⟩
            · clear hcond
              rcases (show q - k < U.length ∨ q - k = U.length by rcases Nat.lt_trichotomy (q - k) U.length with h | h | h; exact .inl h; exact .inr h; (have := HX1.out h; omega)) with hl | hl
              · have hl1 : (s.extract k q).size < U.length := by rw [hes]; exact hl
                go_wp2_with (first | (go_at_call 15; refine (H15.out _).mono ?_; rintro e w2 ⟨rfl, hb2⟩) | (go_at_call 17; refine (H17.out _ (by omega) (by omega)).mono ?_; rintro e w' ⟨rfl, hw⟩; have hw' := hw.symm; subst hw'))
                go_ret
                exact ⟨rfl, hb1.trans (hb2.mono hb1.size)⟩
              · have HGR : Hid (grt (s.extract k q).data.toList (⟨U.toArray⟩ : ByteArray).data.toList = false) := by
                  show grt _ U = false
                  rw [ext_data, HX3.out hl]; simp; omega
                have hl1 : ((s.extract k q).size : Int) = (U.length : Int) := by rw [hes]; omega
                go_wp2_with (first | (go_at_call 15; refine (H15.out _).mono ?_; rintro e w2 ⟨rfl, hb2⟩) | (go_at_call 16; refine (greater_any _ _ _ (by rw [hes]; omega) (by rw [hUs]; omega) false HGR).mono ?_; rintro e w3 ⟨rfl, hb3⟩) | (go_at_call 17; refine (H17.out _ (by omega) (by omega)).mono ?_; rintro e w' ⟨rfl, hw⟩; have hw' := hw.symm; subst hw'))
                go_ret
                exact ⟨rfl, (hb1.trans (hb2.mono hb1.size)).trans (hb3.mono (by have := hb1.size; have := hb2.size; omega))⟩


end Go.Proofs.Qxb6600050a
