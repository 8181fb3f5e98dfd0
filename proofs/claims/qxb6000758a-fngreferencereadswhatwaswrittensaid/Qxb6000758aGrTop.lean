/-
  The text that FnGReferenceReadsWhatWasWritten (5) writes, and her walk.
-/
import Derived.Test.Qxb6000758aGrWalk
import Derived.Test.Qxb6000758aBuf
namespace Go.Proofs.Qxb6000758a
open Go.RowKit

theorem getD_mid (pre b post : List UInt8) (k : Nat) (h1 : pre.length ≤ k) (h2 : k < pre.length + b.length) : (pre ++ (b ++ post)).getD k 0 = b.getD (k - pre.length) 0 := by
  rw [List.getD_eq_getElem?_getD, List.getElem?_append_right h1, List.getElem?_append_left (by omega), ← List.getD_eq_getElem?_getD]
theorem getD_post (pre b post : List UInt8) : (pre ++ (b ++ post)).getD (pre.length + b.length) 0 = post.getD 0 0 := by
  rw [List.getD_eq_getElem?_getD, List.getElem?_append_right (by omega), List.getElem?_append_right (by omega), List.getD_eq_getElem?_getD]
  congr 2; omega

theorem dig_of {c : Int} (h : digB c = true) : 48 ≤ c ∧ c ≤ 57 := by unfold digB at h; simpa using h
theorem nam_of {c : Int} (h : namB c = true) : 48 ≤ c ∧ c ≤ 122 := by
  unfold namB letB digB at h
  simp at h; omega

/-- What was written, said by parts: a head, the body, what follows. -/
theorem gref_of (br ng : Bool) (pre post : List UInt8) (body : ByteArray) (hpre : pre.length = 2 + br.toNat + ng.toNat) (hb : 0 < body.size)
    (h2 : br = true → byteAt ⟨pre.toArray⟩ 2 = 123) (h2n : br = false → ng = true → byteAt ⟨pre.toArray⟩ 2 = 45) (h3 : br = true → ng = true → byteAt ⟨pre.toArray⟩ 3 = 45)
    (hok : ∀ j, j < body.size → if ng || !br then digB (byteAt body j) = true else namB (byteAt body j) = true)
    (hpost : br = true → ∃ t, post = 125 :: t) (htail : br = false → 0 < post.length → digB ((post.getD 0 0).toNat : Int) = false) :
    GRef ⟨(pre ++ (body.data.toList ++ post)).toArray⟩ br ng (2 + br.toNat + ng.toNat) (2 + br.toNat + ng.toNat + body.size) := by
  have hsz : (⟨(pre ++ (body.data.toList ++ post)).toArray⟩ : ByteArray).size = pre.length + (body.size + post.length) := by
    rw [Lib.size_eq, Lib.size_eq body]
    show (pre ++ (body.data.toList ++ post)).length = _
    rw [List.length_append, List.length_append]
  have hbl : body.data.toList.length = body.size := (Lib.size_eq body).symm
  have mid : ∀ k, pre.length ≤ k → k < pre.length + body.size → byteAt ⟨(pre ++ (body.data.toList ++ post)).toArray⟩ k = byteAt body (k - pre.length) := by
    intro k h1 h2
    unfold byteAt
    show (((pre ++ (body.data.toList ++ post)).getD k 0).toNat : Int) = _
    rw [getD_mid pre _ post k h1 (by omega)]
  have pos : byteAt ⟨(pre ++ (body.data.toList ++ post)).toArray⟩ (pre.length + body.size) = ((post.getD 0 0).toNat : Int) := by
    unfold byteAt
    show (((pre ++ (body.data.toList ++ post)).getD (pre.length + body.size) 0).toNat : Int) = _
    rw [← hbl, getD_post]
  have pr : ∀ k, k < pre.length → byteAt ⟨(pre ++ (body.data.toList ++ post)).toArray⟩ k = byteAt ⟨pre.toArray⟩ k := by
    intro k h
    unfold byteAt
    show (((pre ++ (body.data.toList ++ post)).getD k 0).toNat : Int) = ((pre.getD k 0).toNat : Int)
    rw [List.getD_eq_getElem?_getD, List.getElem?_append_left h, List.getD_eq_getElem?_getD]
  have first : (if ng || !br then digB (byteAt body 0) = true else namB (byteAt body 0) = true) := hok 0 hb
  rw [← hpre]
  refine ⟨?_, ?_, hpre, by omega, by rw [hsz]; omega, ?_, ?_, ?_⟩
  · cases br
    · cases ng
      · simp at hpre first
        rw [mid 2 (by omega) (by omega), hpre]
        have := dig_of first
        simp; omega
      · simp at hpre
        rw [pr 2 (by omega), h2n rfl rfl]; rfl
    · rw [pr 2 (by simp at hpre; omega), h2 rfl]; rfl
  · cases br
    · cases ng
      · simp at hpre first
        show (byteAt _ 2 == 45) = false
        rw [mid 2 (by omega) (by omega), hpre]
        have := dig_of first
        simp; omega
      · simp at hpre
        show (byteAt _ 2 == 45) = true
        rw [pr 2 (by omega), h2n rfl rfl]; rfl
    · cases ng
      · simp at hpre first
        show (byteAt _ 3 == 45) = false
        rw [mid 3 (by omega) (by omega), hpre]
        have := nam_of first
        simp; omega
      · simp at hpre
        show (byteAt _ 3 == 45) = true
        rw [pr 3 (by omega), h3 rfl rfl]; rfl
  · intro k h1 h2
    rw [mid k h1 h2]
    have := hok (k - pre.length) (by omega)
    cases br <;> cases ng <;> simp at this ⊢ <;> simp [this]
  · intro h
    rw [pos]
    cases br
    · exact ⟨htail rfl (by rw [hsz] at h; omega), by simp⟩
    · obtain ⟨t, rfl⟩ := hpost rfl
      exact ⟨by show digB 125 = false; decide, fun _ => by show namB 125 = false; decide⟩
  · intro h
    obtain ⟨t, rfl⟩ := hpost h
    exact ⟨by rw [hsz]; simp, by rw [pos]; show ((125 : Int) != 125) = false; decide⟩

theorem zz15_yes (b1 b2 : Bool) (body tail : ByteArray) (w : World) (h : body.size ≤ 65536) (h2 : tail.size ≤ 65536) :
    Calls Try.prog 15 #[.bool b1, .bool b2, .string body, .string tail] w fun e w' => e = .returned (.bool true) ∧ w' = w := by
  go_enter Try.func15, Try.ntmps15
  go_wp2
  go_ret
  exact ⟨rfl, rfl⟩
theorem zz15_any (b1 b2 : Bool) (body tail : ByteArray) (w : World) (h : body.size ≤ maxLen) (h2 : tail.size ≤ maxLen) :
    Calls Try.prog 15 #[.bool b1, .bool b2, .string body, .string tail] w fun e w' => (∃ r, e = .returned (.bool r)) ∧ w' = w := by
  unfold maxLen at h h2
  go_enter Try.func15, Try.ntmps15
  go_wp2
  all_goals go_ret
  all_goals exact ⟨⟨_, rfl⟩, rfl⟩

theorem tBg : BytesIn Try.prog 23 5 := by
  refine ⟨Try.underlying23, Try.underlying5, ?_⟩
  have h : (Try.prog.info? 5).map (fun i => (i.zero, i.size, i.bytes)) = some (some (.int .u8 0), 1, 1) := by kernel_rfl
  obtain ⟨i, hi, hz0, hz1, hz2⟩ := info_parts h
  exact ⟨i, hi, hz0, hz1, hz2⟩

theorem two_92_103 : [Value.int .u8 92, Value.int .u8 103] = [(92 : UInt8), 103].map cel := rfl
theorem one_123 : [Value.int .u8 123] = [(123 : UInt8)].map cel := rfl
theorem one_45 : [Value.int .u8 45] = [(45 : UInt8)].map cel := rfl
theorem one_125 : [Value.int .u8 125] = [(125 : UInt8)].map cel := rfl

/-- The writing, and the reading back: the walk behind the checks (the loop over body has found it fit). -/
def GrOk (br ng : Bool) (body tail : ByteArray) : Prop :=
  (∀ j, j < body.size → if ng || !br then digB (byteAt body j) = true else namB (byteAt body j) = true) ∧ (br = false → 0 < tail.size → digB (byteAt tail 0) = false)

/-- What the text comes to, in the form of the walk. -/
theorem gr_text_00 (body tail : ByteArray) (hb : 0 < body.size) (h : GrOk false false body tail) (l : List UInt8) (hl : l = [92, 103] ++ (body.data.toList ++ (tail.data.toList))) :
    GRef ⟨l.toArray⟩ false false 2 (2 + body.size) := by
  subst hl
  refine gref_of false false [92, 103] (tail.data.toList) body rfl hb (fun h => by cases h) (fun _ h => by cases h) (fun h => by cases h) h.1 (fun h => by cases h) ?_
  intro _ ht
  exact h.2 rfl (by rw [Lib.size_eq]; exact ht)

/-- What the text comes to, in the form of the walk. -/
theorem gr_text_01 (body tail : ByteArray) (hb : 0 < body.size) (h : GrOk false true body tail) (l : List UInt8) (hl : l = [92, 103, 45] ++ (body.data.toList ++ (tail.data.toList))) :
    GRef ⟨l.toArray⟩ false true 3 (3 + body.size) := by
  subst hl
  refine gref_of false true [92, 103, 45] (tail.data.toList) body rfl hb (fun h => by cases h) (fun _ _ => rfl) (fun h => by cases h) h.1 (fun h => by cases h) ?_
  intro _ ht
  exact h.2 rfl (by rw [Lib.size_eq]; exact ht)

/-- What the text comes to, in the form of the walk. -/
theorem gr_text_10 (body tail : ByteArray) (hb : 0 < body.size) (h : GrOk true false body tail) (l : List UInt8) (hl : l = [92, 103, 123] ++ (body.data.toList ++ (125 :: tail.data.toList))) :
    GRef ⟨l.toArray⟩ true false 3 (3 + body.size) := by
  subst hl
  refine gref_of true false [92, 103, 123] (125 :: tail.data.toList) body rfl hb (fun _ => rfl) (fun h => by cases h) (fun _ h => by cases h) h.1 (fun _ => ⟨_, rfl⟩) ?_
  intro h; cases h

/-- What the text comes to, in the form of the walk. -/
theorem gr_text_11 (body tail : ByteArray) (hb : 0 < body.size) (h : GrOk true true body tail) (l : List UInt8) (hl : l = [92, 103, 123, 45] ++ (body.data.toList ++ (125 :: tail.data.toList))) :
    GRef ⟨l.toArray⟩ true true 4 (4 + body.size) := by
  subst hl
  refine gref_of true true [92, 103, 123, 45] (125 :: tail.data.toList) body rfl hb (fun _ => rfl) (fun h => by cases h) (fun _ _ => rfl) h.1 (fun _ => ⟨_, rfl⟩) ?_
  intro h; cases h

end Go.Proofs.Qxb6000758a
