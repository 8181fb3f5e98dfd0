/-
  The walks of IsLetter (39), lawIsLetter (23), IsNameByte (33), lawIsNameByte (17), gReferenceLength (30), ZZGReferenceLength (18).
-/
import Derived.Test.Qxb6000758aIpWalk
namespace Go.Proofs.Qxb6000758a
open Go.RowKit

def letB (c : Int) : Bool := decide ((97 ≤ c ∧ c ≤ 122) ∨ (65 ≤ c ∧ c ≤ 90))
def namB (c : Int) : Bool := letB c || digB c || c == 95

theorem isLetter_any (c : Int) (w : World) :
    Calls Try.prog 39 #[.int .u8 c] w fun e w' => e = .returned (.bool (letB c)) ∧ w' = w := by
  rcases (show c < 65 ∨ (65 ≤ c ∧ c ≤ 90) ∨ (90 < c ∧ c < 97) ∨ (97 ≤ c ∧ c ≤ 122) ∨ 122 < c by omega) with h | h | h | h | h
  all_goals
    go_enter Try.func39, Try.ntmps39
    go_wp2
    go_ret
    exact ⟨ret_bool (by unfold letB; first | (simp; omega) | (rw [Bool.eq_iff_iff]; simp; omega)), rfl⟩
theorem lawIsLetter_any (c : Int) (w : World) :
    Calls Try.prog 23 #[.int .u8 c] w fun e w' => e = .returned (.bool (letB c)) ∧ w' = w := by
  rcases (show c < 65 ∨ (65 ≤ c ∧ c ≤ 90) ∨ (90 < c ∧ c < 97) ∨ (97 ≤ c ∧ c ≤ 122) ∨ 122 < c by omega) with h | h | h | h | h
  all_goals
    go_enter Try.func23, Try.ntmps23
    go_wp2
    go_ret
    exact ⟨ret_bool (by unfold letB; first | (simp; omega) | (rw [Bool.eq_iff_iff]; simp; omega)), rfl⟩

theorem isName_any (c : Int) (w : World) :
    Calls Try.prog 33 #[.int .u8 c] w fun e w' => e = .returned (.bool (namB c)) ∧ w' = w := by
  cases hl : letB c
  · cases hd : digB c
    · cases hu : (c == 95)
      all_goals
        go_enter Try.func33, Try.ntmps33
        go_wp2_with (first | (go_at_call 39; refine (isLetter_any _ _).mono ?_; rintro e w' ⟨rfl, rfl⟩) | (go_at_call 32; refine (isDigit_any _ _).mono ?_; rintro e w' ⟨rfl, rfl⟩))
        go_ret
        exact ⟨ret_bool (by simp [namB, hl, hd, hu]), rfl⟩
    · go_enter Try.func33, Try.ntmps33
      go_wp2_with (first | (go_at_call 39; refine (isLetter_any _ _).mono ?_; rintro e w' ⟨rfl, rfl⟩) | (go_at_call 32; refine (isDigit_any _ _).mono ?_; rintro e w' ⟨rfl, rfl⟩))
      go_ret
      exact ⟨ret_bool (by simp [namB, hl, hd]), rfl⟩
  · go_enter Try.func33, Try.ntmps33
    go_wp2_with (first | (go_at_call 39; refine (isLetter_any _ _).mono ?_; rintro e w' ⟨rfl, rfl⟩) | (go_at_call 32; refine (isDigit_any _ _).mono ?_; rintro e w' ⟨rfl, rfl⟩))
    go_ret
    exact ⟨ret_bool (by simp [namB, hl]), rfl⟩

theorem lawIsName_any (c : Int) (w : World) :
    Calls Try.prog 17 #[.int .u8 c] w fun e w' => e = .returned (.bool (namB c)) ∧ w' = w := by
  cases hl : letB c
  · cases hd : digB c
    · cases hu : (c == 95)
      all_goals
        go_enter Try.func17, Try.ntmps17
        go_wp2_with (first | (go_at_call 23; refine (lawIsLetter_any _ _).mono ?_; rintro e w' ⟨rfl, rfl⟩) | (go_at_call 16; refine (lawIsDigit_any _ _).mono ?_; rintro e w' ⟨rfl, rfl⟩))
        go_ret
        exact ⟨ret_bool (by simp [namB, hl, hd, hu]), rfl⟩
    · go_enter Try.func17, Try.ntmps17
      go_wp2_with (first | (go_at_call 23; refine (lawIsLetter_any _ _).mono ?_; rintro e w' ⟨rfl, rfl⟩) | (go_at_call 16; refine (lawIsDigit_any _ _).mono ?_; rintro e w' ⟨rfl, rfl⟩))
      go_ret
      exact ⟨ret_bool (by simp [namB, hl, hd]), rfl⟩
  · go_enter Try.func17, Try.ntmps17
    go_wp2_with (first | (go_at_call 23; refine (lawIsLetter_any _ _).mono ?_; rintro e w' ⟨rfl, rfl⟩) | (go_at_call 16; refine (lawIsDigit_any _ _).mono ?_; rintro e w' ⟨rfl, rfl⟩))
    go_ret
    exact ⟨ret_bool (by simp [namB, hl]), rfl⟩

/-- The byte at place k, as the walk's number. -/
def byteAt (s : ByteArray) (k : Nat) : Int := ((s.data.toList.getD k 0).toNat : Int)
theorem byteAt_get (s : ByteArray) (k : Nat) (h : k < s.size) : (s[k].toNat : Int) = byteAt s k := by
  unfold byteAt
  rw [List.getD_eq_getElem?_getD, Lib.data_getElem? s k h]
  rfl

/-- What gReferenceLength finds: braced, negative, the number or name from st to en. -/
structure GRef (s : ByteArray) (br ng : Bool) (st en : Nat) : Prop where
  h2 : (byteAt s 2 == 123) = br
  h3 : (byteAt s (2 + br.toNat) == 45) = ng
  at0 : st = 2 + br.toNat + ng.toNat
  lt : st < en
  le : en ≤ s.size
  body : ∀ k, st ≤ k → k < en → digB (byteAt s k) = true ∨ (br = true ∧ namB (byteAt s k) = true)
  stop : en < s.size → digB (byteAt s en) = false ∧ (br = true → namB (byteAt s en) = false)
  close : br = true → en < s.size ∧ (byteAt s en != 125) = false

set_option maxHeartbeats 1000000 in
set_option maxRecDepth 100000 in
theorem gref_any (s : ByteArray) (w : World) (hs : s.size ≤ 16777216) (br ng : Bool) (st en : Nat) (g : GRef s br ng st en) :
    Calls Try.prog 30 #[.string s] w fun e w' => e = .returned (.int .i64 ((en + br.toNat : Nat) : Int)) ∧ w' = w := by
  have hst := g.at0
  have hlt := g.lt
  have hle := g.le
  have hst2 : 2 ≤ st := by omega
  have b2 := byteAt_get s 2 (by omega)
  have g2 : (((s[2]'(by omega)).toNat : Int) == 123) = br := by rw [b2]; exact g.h2
  clear b2
  have G : Hid (GRef s br ng st en) := g
  cases br
  · have h3 := g.h3
    simp only [Bool.toNat_false, Nat.add_zero] at h3 hst
    have b3 := byteAt_get s 2 (by omega)
    have g3 : (((s[2]'(by omega)).toNat : Int) == 45) = ng := by rw [b3]; exact h3
    clear b3 h3 g
    have h2s : 2 < s.size := by omega
    cases ng
    · obtain rfl : st = 2 := hst
      go_enter Try.func30, Try.ntmps30
      go_wp2_with fail
      go_loopg [3] (en - 2) (fun n iv wr => ∃ k : Nat, n = en - k ∧ 2 ≤ k ∧ k ≤ en ∧ iv = .int .i64 k ∧ wr = w)
      case atStart => exact ⟨2, rfl, by omega, by omega, rfl, rfl⟩
      case round =>
        obtain ⟨k, rfl, hk1, hk2, rfl, rfl⟩ := hrel
        by_cases hk : k < en
        · have hks : k < s.size := by omega
          have bk := byteAt_get s k hks
          have hb := G.out.body k hk1 hk
          rw [← bk] at hb
          clear bk
          have hd : digB (s[k].toNat : Int) = true := by rcases hb with h | ⟨h, _⟩; exact h; cases h
          clear hb
          go_wp2_with (first | (go_at_call 32; refine (isDigit_any _ _).mono ?_; rintro e w' ⟨rfl, rfl⟩) | (go_at_call 33; refine (isName_any _ _).mono ?_; rintro e w' ⟨rfl, rfl⟩))
          go_roundg (en - (k + 1))
          case rel => exact ⟨k + 1, rfl, by omega, by omega, by go_num, rfl⟩
          case measure => omega
        · obtain rfl : k = en := by omega
          have hne : ((k : Int) == 2) = false := by simp; omega
          by_cases hsz : k < s.size
          · have bk := byteAt_get s k hsz
            have hd := (G.out.stop hsz).1
            rw [← bk] at hd
            clear bk
            go_wp2_with (first | (go_at_call 32; refine (isDigit_any _ _).mono ?_; rintro e w' ⟨rfl, rfl⟩) | (go_at_call 33; refine (isName_any _ _).mono ?_; rintro e w' ⟨rfl, rfl⟩))
            go_ret
            exact ⟨rfl, rfl⟩
          · go_wp2_with (first | (go_at_call 32; refine (isDigit_any _ _).mono ?_; rintro e w' ⟨rfl, rfl⟩) | (go_at_call 33; refine (isName_any _ _).mono ?_; rintro e w' ⟨rfl, rfl⟩))
            go_ret
            exact ⟨rfl, rfl⟩
    · obtain rfl : st = 3 := hst
      go_enter Try.func30, Try.ntmps30
      go_wp2_with fail
      go_loopg [3] (en - 3) (fun n iv wr => ∃ k : Nat, n = en - k ∧ 3 ≤ k ∧ k ≤ en ∧ iv = .int .i64 k ∧ wr = w)
      case atStart => exact ⟨3, rfl, by omega, by omega, rfl, rfl⟩
      case round =>
        obtain ⟨k, rfl, hk1, hk2, rfl, rfl⟩ := hrel
        by_cases hk : k < en
        · have hks : k < s.size := by omega
          have bk := byteAt_get s k hks
          have hb := G.out.body k hk1 hk
          rw [← bk] at hb
          clear bk
          have hd : digB (s[k].toNat : Int) = true := by rcases hb with h | ⟨h, _⟩; exact h; cases h
          clear hb
          go_wp2_with (first | (go_at_call 32; refine (isDigit_any _ _).mono ?_; rintro e w' ⟨rfl, rfl⟩) | (go_at_call 33; refine (isName_any _ _).mono ?_; rintro e w' ⟨rfl, rfl⟩))
          go_roundg (en - (k + 1))
          case rel => exact ⟨k + 1, rfl, by omega, by omega, by go_num, rfl⟩
          case measure => omega
        · obtain rfl : k = en := by omega
          have hne : ((k : Int) == 3) = false := by simp; omega
          by_cases hsz : k < s.size
          · have bk := byteAt_get s k hsz
            have hd := (G.out.stop hsz).1
            rw [← bk] at hd
            clear bk
            go_wp2_with (first | (go_at_call 32; refine (isDigit_any _ _).mono ?_; rintro e w' ⟨rfl, rfl⟩) | (go_at_call 33; refine (isName_any _ _).mono ?_; rintro e w' ⟨rfl, rfl⟩))
            go_ret
            exact ⟨rfl, rfl⟩
          · go_wp2_with (first | (go_at_call 32; refine (isDigit_any _ _).mono ?_; rintro e w' ⟨rfl, rfl⟩) | (go_at_call 33; refine (isName_any _ _).mono ?_; rintro e w' ⟨rfl, rfl⟩))
            go_ret
            exact ⟨rfl, rfl⟩
  · have h3 := g.h3
    simp only [Bool.toNat_true] at h3 hst
    have h3s : 3 < s.size := by have := g.close rfl; omega
    have b3 := byteAt_get s 3 h3s
    have g3 : ((s[3].toNat : Int) == 45) = ng := by rw [b3]; exact h3
    clear b3 h3 g
    have h2s : 2 < s.size := by omega
    cases ng
    · obtain rfl : st = 3 := hst
      go_enter Try.func30, Try.ntmps30
      go_wp2_with fail
      go_loopg [3] (en - 3) (fun n iv wr => ∃ k : Nat, n = en - k ∧ 3 ≤ k ∧ k ≤ en ∧ iv = .int .i64 k ∧ wr = w)
      case atStart => exact ⟨3, rfl, by omega, by omega, rfl, rfl⟩
      case round =>
        obtain ⟨k, rfl, hk1, hk2, rfl, rfl⟩ := hrel
        by_cases hk : k < en
        · have hks : k < s.size := by omega
          have bk := byteAt_get s k hks
          have hb := G.out.body k hk1 hk
          rw [← bk] at hb
          clear bk
          cases hd : digB (s[k].toNat : Int)
          · have hn : namB (s[k].toNat : Int) = true := by rcases hb with h | ⟨_, h⟩; (rw [hd] at h; cases h); exact h
            clear hb
            go_wp2_with (first | (go_at_call 32; refine (isDigit_any _ _).mono ?_; rintro e w' ⟨rfl, rfl⟩) | (go_at_call 33; refine (isName_any _ _).mono ?_; rintro e w' ⟨rfl, rfl⟩))
            go_roundg (en - (k + 1))
            case rel => exact ⟨k + 1, rfl, by omega, by omega, by go_num, rfl⟩
            case measure => omega
          · clear hb
            go_wp2_with (first | (go_at_call 32; refine (isDigit_any _ _).mono ?_; rintro e w' ⟨rfl, rfl⟩) | (go_at_call 33; refine (isName_any _ _).mono ?_; rintro e w' ⟨rfl, rfl⟩))
            go_roundg (en - (k + 1))
            case rel => exact ⟨k + 1, rfl, by omega, by omega, by go_num, rfl⟩
            case measure => omega
        · obtain rfl : k = en := by omega
          have hne : ((k : Int) == 3) = false := by simp; omega
          obtain ⟨hsz, hcl⟩ := G.out.close rfl
          have bk := byteAt_get s k hsz
          obtain ⟨hd, hn0⟩ := G.out.stop hsz
          have hn := hn0 rfl
          rw [← bk] at hd hn hcl
          clear bk hn0
          have hnl : ((k : Int) == (s.size : Int)) = false := by simp; omega
          go_wp2_with (first | (go_at_call 32; refine (isDigit_any _ _).mono ?_; rintro e w' ⟨rfl, rfl⟩) | (go_at_call 33; refine (isName_any _ _).mono ?_; rintro e w' ⟨rfl, rfl⟩))
          go_ret
          exact ⟨rfl, rfl⟩
    · obtain rfl : st = 4 := hst
      go_enter Try.func30, Try.ntmps30
      go_wp2_with fail
      go_loopg [3] (en - 4) (fun n iv wr => ∃ k : Nat, n = en - k ∧ 4 ≤ k ∧ k ≤ en ∧ iv = .int .i64 k ∧ wr = w)
      case atStart => exact ⟨4, rfl, by omega, by omega, rfl, rfl⟩
      case round =>
        obtain ⟨k, rfl, hk1, hk2, rfl, rfl⟩ := hrel
        by_cases hk : k < en
        · have hks : k < s.size := by omega
          have bk := byteAt_get s k hks
          have hb := G.out.body k hk1 hk
          rw [← bk] at hb
          clear bk
          cases hd : digB (s[k].toNat : Int)
          · have hn : namB (s[k].toNat : Int) = true := by rcases hb with h | ⟨_, h⟩; (rw [hd] at h; cases h); exact h
            clear hb
            go_wp2_with (first | (go_at_call 32; refine (isDigit_any _ _).mono ?_; rintro e w' ⟨rfl, rfl⟩) | (go_at_call 33; refine (isName_any _ _).mono ?_; rintro e w' ⟨rfl, rfl⟩))
            go_roundg (en - (k + 1))
            case rel => exact ⟨k + 1, rfl, by omega, by omega, by go_num, rfl⟩
            case measure => omega
          · clear hb
            go_wp2_with (first | (go_at_call 32; refine (isDigit_any _ _).mono ?_; rintro e w' ⟨rfl, rfl⟩) | (go_at_call 33; refine (isName_any _ _).mono ?_; rintro e w' ⟨rfl, rfl⟩))
            go_roundg (en - (k + 1))
            case rel => exact ⟨k + 1, rfl, by omega, by omega, by go_num, rfl⟩
            case measure => omega
        · obtain rfl : k = en := by omega
          have hne : ((k : Int) == 4) = false := by simp; omega
          obtain ⟨hsz, hcl⟩ := G.out.close rfl
          have bk := byteAt_get s k hsz
          obtain ⟨hd, hn0⟩ := G.out.stop hsz
          have hn := hn0 rfl
          rw [← bk] at hd hn hcl
          clear bk hn0
          have hnl : ((k : Int) == (s.size : Int)) = false := by simp; omega
          go_wp2_with (first | (go_at_call 32; refine (isDigit_any _ _).mono ?_; rintro e w' ⟨rfl, rfl⟩) | (go_at_call 33; refine (isName_any _ _).mono ?_; rintro e w' ⟨rfl, rfl⟩))
          go_ret
          exact ⟨rfl, rfl⟩

theorem zz18_any (s : ByteArray) (w : World) (hs : s.size ≤ 16777216) (br ng : Bool) (st en : Nat) (g : GRef s br ng st en) :
    Calls Try.prog 18 #[.string s] w fun e w' => e = .returned (.int .i64 ((en + br.toNat : Nat) : Int)) ∧ w' = w := by
  have G : Hid (GRef s br ng st en) := g
  clear g
  go_enter Try.func18, Try.ntmps18
  go_wp2_with (go_at_call 30; refine (gref_any s _ hs br ng st en G.out).mono ?_; rintro e w' ⟨rfl, rfl⟩)
  go_ret
  exact ⟨rfl, rfl⟩
end Go.Proofs.Qxb6000758a
