/-
  What the text of FnSetEscapedMembers reads, and which bytes it matches: plain facts. ZZWildcardSet (22) at it. zzBytes (21).
-/
import Derived.Test.Qxb6000758aSrTop
import Derived.Test.Qxb6000758aSetMem
namespace Go.Proofs.Qxb6000758a
open Go.RowKit

/-- Each member with its escape. -/
def pairs : List UInt8 → List UInt8
  | [] => []
  | x :: l => 92 :: x :: pairs l
theorem pairs_length : ∀ l : List UInt8, (pairs l).length = 2 * l.length
  | [] => rfl
  | x :: l => by simp [pairs, pairs_length l]; omega
theorem pairs_append : ∀ l r : List UInt8, pairs (l ++ r) = pairs l ++ pairs r
  | [], r => rfl
  | x :: l, r => by simp [pairs, pairs_append l r]
theorem pairs_step (l : List UInt8) (k : Nat) (h : k < l.length) : pairs (l.take k) ++ [92, l[k]] = pairs (l.take (k + 1)) := by
  rw [List.take_succ_eq_append_getElem h, pairs_append]; rfl
theorem pairs_esc : ∀ (l r : List UInt8) (j : Nat), j < l.length → (pairs l ++ r).getD (2 * j) 0 = 92
  | [], _, _, h => by simp at h
  | x :: l, r, 0, _ => rfl
  | x :: l, r, j + 1, h => by
    have := pairs_esc l r j (by simpa using h)
    rw [show 2 * (j + 1) = 2 * j + 1 + 1 by omega]
    simpa [pairs] using this
theorem pairs_mem : ∀ (l r : List UInt8) (j : Nat), j < l.length → (pairs l ++ r).getD (2 * j + 1) 0 = l.getD j 0
  | [], _, _, h => by simp at h
  | x :: l, r, 0, _ => rfl
  | x :: l, r, j + 1, h => by
    have := pairs_mem l r j (by simpa using h)
    rw [show 2 * (j + 1) + 1 = 2 * j + 1 + 1 + 1 by omega]
    simpa [pairs] using this
theorem pairs_close : ∀ (l r : List UInt8), (pairs l ++ r).getD (2 * l.length) 0 = r.getD 0 0
  | [], r => rfl
  | x :: l, r => by
    have := pairs_close l r
    rw [show 2 * (x :: l).length = 2 * l.length + 1 + 1 by simp; omega]
    simpa [pairs] using this

def smTxt (neg : Bool) (l tail : List UInt8) : List UInt8 := if neg then 91 :: 94 :: (pairs l ++ (93 :: tail)) else 91 :: (pairs l ++ (93 :: tail))
def memF (l : List UInt8) (j : Nat) : Nat := (l.getD j 0).toNat
theorem sm_size (neg : Bool) (l tail : List UInt8) : (⟨(smTxt neg l tail).toArray⟩ : ByteArray).size = (if neg then 2 else 1) + 2 * l.length + 1 + tail.length := by
  show (smTxt neg l tail).toArray.size = _
  cases neg <;> simp [smTxt, pairs_length] <;> omega
theorem sm_txt_0 (l tail : List UInt8) (hp : 0 < l.length) : MemTxt ⟨(smTxt false l tail).toArray⟩ 1 l.length (memF l) := by
  refine ⟨fun j hj => ?_, fun j hj => ?_, fun j _ => UInt8.toNat_lt _, ?_, by rw [sm_size]; simp; omega, hp⟩
  · have := pairs_esc l (93 :: tail) j hj
    unfold byteAt; rw [show 1 + 2 * j = 2 * j + 1 by omega]; simp only [smTxt, Bool.false_eq_true, if_false, List.getD_cons_succ]; rw [this]; rfl
  · have := pairs_mem l (93 :: tail) j hj
    unfold byteAt; rw [show 1 + 2 * j + 1 = 2 * j + 1 + 1 by omega]; simp only [smTxt, Bool.false_eq_true, if_false, List.getD_cons_succ]; rw [this]; rfl
  · have := pairs_close l (93 :: tail)
    unfold byteAt; rw [show 1 + 2 * l.length = 2 * l.length + 1 by omega]; simp only [smTxt, Bool.false_eq_true, if_false, List.getD_cons_succ]; rw [this]; rfl
theorem sm_txt_1 (l tail : List UInt8) (hp : 0 < l.length) : MemTxt ⟨(smTxt true l tail).toArray⟩ 2 l.length (memF l) := by
  refine ⟨fun j hj => ?_, fun j hj => ?_, fun j _ => UInt8.toNat_lt _, ?_, by rw [sm_size]; simp; omega, hp⟩
  · have := pairs_esc l (93 :: tail) j hj
    unfold byteAt; rw [show 2 + 2 * j = 2 * j + 1 + 1 by omega]; simp only [smTxt, if_true, List.getD_cons_succ]; rw [this]; rfl
  · have := pairs_mem l (93 :: tail) j hj
    unfold byteAt; rw [show 2 + 2 * j + 1 = 2 * j + 1 + 1 + 1 by omega]; simp only [smTxt, if_true, List.getD_cons_succ]; rw [this]; rfl
  · have := pairs_close l (93 :: tail)
    unfold byteAt; rw [show 2 + 2 * l.length = 2 * l.length + 1 + 1 by omega]; simp only [smTxt, if_true, List.getD_cons_succ]; rw [this]; rfl

/-- The first member that is the path's separator, or the end. -/
theorem first_47 (m : Nat → Nat) : ∀ M : Nat, ∃ J, J ≤ M ∧ (∀ j, j < J → ¬ m j = 47) ∧ (J < M → m J = 47)
  | 0 => ⟨0, Nat.le_refl _, fun j h => by omega, fun h => by omega⟩
  | M + 1 => by
    obtain ⟨J, h1, h2, h3⟩ := first_47 m M
    by_cases hJ : J < M
    · exact ⟨J, by omega, h2, fun _ => h3 hJ⟩
    · have e : J = M := by omega
      subst e
      by_cases h : m J = 47
      · exact ⟨J, by omega, h2, fun _ => h⟩
      · exact ⟨J + 1, by omega, fun j hj => by
          by_cases hjJ : j < J
          · exact h2 j hjJ
          · rw [show j = J by omega]; exact h, fun h => by omega⟩

/-- Byte c is among the first n members. -/
def memB (m : Nat → Nat) : Nat → Nat → Bool
  | 0, _ => false
  | n + 1, c => memB m n c || c == m n
def upN (c : Nat) : Nat := if 97 ≤ c ∧ c ≤ 122 then c - 32 else c
theorem up_eq (c : Nat) : upI (c : Int) = ((upN c : Nat) : Int) := by
  unfold upI upN; split <;> split <;> omega
theorem upN_lt (c : Nat) (h : c < 256) : upN c < 256 := by unfold upN; split <;> omega
theorem lawUpperN_any (c : Nat) (w : World) (h1 : c < 256) :
    Calls Try.prog 25 #[.int .u8 (c : Int)] w fun e w' => e = .returned (.int .u8 ((upN c : Nat) : Int)) ∧ w' = w := by
  have := lawUpper_any (c : Int) w (by omega) (by omega)
  rw [up_eq] at this
  exact this
/-- What the law wants of byte c, ahead of negation. -/
def wantM (f : Bool) (m : Nat → Nat) (M c : Nat) : Bool := memB m M c || (f && (letB (c : Int) && (memB m M (lowN c) || memB m M (upN c))))

theorem lit_tab : ∀ b, b < 256 → ∀ c, c < 256 → litS true b c = (c == b || (letB (c : Int) && (lowN c == b || upN c == b))) := by
  have h : ∀ b : Fin 256, ∀ c : Fin 256, litS true b.val c.val = (c.val == b.val || (letB (c.val : Int) && (lowN c.val == b.val || upN c.val == b.val))) := by decide +kernel
  intro b hb c hc
  exact h ⟨b, hb⟩ ⟨c, hc⟩
theorem mem_want (f : Bool) (m : Nat → Nat) (hm : ∀ j, m j < 256) (c : Nat) (hc : c < 256) : ∀ M, memS f m M c = wantM f m M c
  | 0 => by simp [memS, wantM, memB, Cls.none]
  | M + 1 => by
    have ih := mem_want f m hm c hc M
    rw [memS, Cls.union, ih]
    cases f
    · simp [wantM, memB, litS, Cls.add, Cls.none]
    · rw [lit_tab (m M) (hm M) c hc]
      unfold wantM
      rw [memB, memB, memB]
      generalize memB m M c = a1, memB m M (lowN c) = a2, memB m M (upN c) = a3, (c == m M) = a4, letB (c : Int) = a5, (lowN c == m M) = a6, (upN c == m M) = a7
      revert a1 a2 a3 a4 a5 a6 a7
      decide

def smS (f p neg : Bool) (m : Nat → Nat) (M : Nat) : Nat → Bool := wildS p (if neg then Cls.compl (memS f m M) else memS f m M)
theorem sm_want (f p neg : Bool) (m : Nat → Nat) (hm : ∀ j, m j < 256) (M k : Nat) (hk : k < 256) : smS f p neg m M k = (if p && k == 47 then false else if neg then !wantM f m M k else wantM f m M k) := by
  unfold smS wildS
  rw [← mem_want f m hm k hk M]
  cases p <;> cases neg <;> simp [Cls.del, Cls.compl]
  · by_cases h : k = 47 <;> simp [h]
  · by_cases h : k = 47 <;> simp [h]

theorem sm_in (f neg : Bool) (l tail : List UInt8) (hp : 0 < l.length) (hs : 2 + 2 * l.length + 1 + tail.length ≤ 16777216) (w : World) :
    Calls Try.prog 22 #[.bool f, .bool false, .bool false, .string ⟨(smTxt neg l tail).toArray⟩] w fun e w' => e = .returned (.tuple #[.agg #[.int .u64 ((Cls.wd (smS f false neg (memF l) l.length) 0 : Nat) : Int), .int .u64 ((Cls.wd (smS f false neg (memF l) l.length) 1 : Nat) : Int), .int .u64 ((Cls.wd (smS f false neg (memF l) l.length) 2 : Nat) : Int), .int .u64 ((Cls.wd (smS f false neg (memF l) l.length) 3 : Nat) : Int)], .int .i64 (((if neg then 2 else 1) + 2 * l.length + 1 : Nat) : Int), .int .i64 0]) ∧ Below w.heap.size w w' := by
  refine zz22_of _ w f false false _ _ _ _ _ 0 ?_
  intro w
  have hz := sm_size neg l tail
  cases neg
  · exact set_mem_00 _ w f l.length (memF l) (by rw [hz]; simp; omega) (by rw [hz]; simp; omega) (by cases l with | nil => simp at hp | cons x l => rfl) (sm_txt_0 l tail hp)
  · exact set_mem_10 _ w f l.length (memF l) (by rw [hz]; simp; omega) (by rw [hz]; simp; omega) rfl (sm_txt_1 l tail hp)

theorem sm_no (f neg : Bool) (l tail : List UInt8) (hp : 0 < l.length) (hs : 2 + 2 * l.length + 1 + tail.length ≤ 16777216) (J : Nat) (hJ : J < l.length) (hgo : ∀ j, j < J → ¬ memF l j = 47) (hend : memF l J = 47) (w : World) :
    Calls Try.prog 22 #[.bool f, .bool true, .bool false, .string ⟨(smTxt neg l tail).toArray⟩] w fun e w' => e = .returned (.tuple #[.agg #[.int .u64 0, .int .u64 0, .int .u64 0, .int .u64 0], .int .i64 0, .int .i64 (((if neg then 2 else 1) + 2 * J + 1 : Nat) : Int)]) ∧ Below w.heap.size w w' := by
  refine zz22_of _ w f true false 0 0 0 0 0 _ ?_
  intro w
  have hz := sm_size neg l tail
  cases neg
  · have := set_mem_01 ⟨(smTxt false l tail).toArray⟩ w f l.length (memF l) (by rw [hz]; simp; omega) (by rw [hz]; simp; omega) (by cases l with | nil => simp at hp | cons x l => rfl) (sm_txt_0 l tail hp) J (by omega) hgo (fun _ => hend)
    rw [if_pos hJ] at this; exact this
  · have := set_mem_11 ⟨(smTxt true l tail).toArray⟩ w f l.length (memF l) (by rw [hz]; simp; omega) (by rw [hz]; simp; omega) rfl (sm_txt_1 l tail hp) J (by omega) hgo (fun _ => hend)
    rw [if_pos hJ] at this; exact this

theorem sm_yes (f neg : Bool) (l tail : List UInt8) (hp : 0 < l.length) (hs : 2 + 2 * l.length + 1 + tail.length ≤ 16777216) (hgo : ∀ j, j < l.length → ¬ memF l j = 47) (w : World) :
    Calls Try.prog 22 #[.bool f, .bool true, .bool false, .string ⟨(smTxt neg l tail).toArray⟩] w fun e w' => e = .returned (.tuple #[.agg #[.int .u64 ((Cls.wd (smS f true neg (memF l) l.length) 0 : Nat) : Int), .int .u64 ((Cls.wd (smS f true neg (memF l) l.length) 1 : Nat) : Int), .int .u64 ((Cls.wd (smS f true neg (memF l) l.length) 2 : Nat) : Int), .int .u64 ((Cls.wd (smS f true neg (memF l) l.length) 3 : Nat) : Int)], .int .i64 (((if neg then 2 else 1) + 2 * l.length + 1 : Nat) : Int), .int .i64 0]) ∧ Below w.heap.size w w' := by
  refine zz22_of _ w f true false _ _ _ _ _ 0 ?_
  intro w
  have hz := sm_size neg l tail
  cases neg
  · have := set_mem_01 ⟨(smTxt false l tail).toArray⟩ w f l.length (memF l) (by rw [hz]; simp; omega) (by rw [hz]; simp; omega) (by cases l with | nil => simp at hp | cons x l => rfl) (sm_txt_0 l tail hp) l.length (by omega) hgo (fun h => absurd h (by omega))
    rw [if_neg (by omega)] at this; exact this
  · have := set_mem_11 ⟨(smTxt true l tail).toArray⟩ w f l.length (memF l) (by rw [hz]; simp; omega) (by rw [hz]; simp; omega) rfl (sm_txt_1 l tail hp) l.length (by omega) hgo (fun h => absurd h (by omega))
    rw [if_neg (by omega)] at this; exact this

theorem zz21_any (f p n : Bool) (ms tail : ByteArray) (w : World) (h1 : ms.size ≤ maxLen) (h2 : tail.size ≤ maxLen) :
    Calls Try.prog 21 #[.bool f, .bool p, .bool n, .string ms, .string tail] w fun e w' => (∃ r, e = .returned (.bool r)) ∧ w' = w := by
  unfold maxLen at h1 h2
  by_cases ha : ms.size ≤ 1048576
  · by_cases hb : tail.size ≤ 1048576
    · by_cases hc : ms.size + tail.size ≤ 1048576
      · go_enter Try.func21, Try.ntmps21
        go_wp2
        all_goals go_ret
        all_goals exact ⟨⟨_, rfl⟩, rfl⟩
      · go_enter Try.func21, Try.ntmps21
        go_wp2
        all_goals go_ret
        all_goals exact ⟨⟨_, rfl⟩, rfl⟩
    · go_enter Try.func21, Try.ntmps21
      go_wp2
      all_goals go_ret
      all_goals exact ⟨⟨_, rfl⟩, rfl⟩
  · go_enter Try.func21, Try.ntmps21
    go_wp2
    all_goals go_ret
    all_goals exact ⟨⟨_, rfl⟩, rfl⟩
theorem zz21_yes (f p n : Bool) (ms tail : ByteArray) (w : World) (h1 : ms.size ≤ 65536) (h2 : tail.size ≤ 65536) :
    Calls Try.prog 21 #[.bool f, .bool p, .bool n, .string ms, .string tail] w fun e w' => e = .returned (.bool true) ∧ w' = w := by
  go_enter Try.func21, Try.ntmps21
  go_wp2
  go_ret
  exact ⟨rfl, rfl⟩
end Go.Proofs.Qxb6000758a
