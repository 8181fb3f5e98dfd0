/-
  FnOffsetReadsBackWhatWasWritten (6): the ways out, and all together.
-/
import Derived.Test.Qxb6600050aOfLaw
namespace Go.Proofs.Qxb6600050a
open Go.RowKit
set_option linter.unusedSimpArgs false

theorem from_mid (p : ByteArray) (T r : List UInt8) : From ⟨(p.data.toList ++ T ++ r).toArray⟩ p.size (T ++ r) := by
  have hp : p.data.toList.length = p.size := (Lib.size_eq p).symm
  refine ⟨?_, ?_⟩
  · show p.size ≤ (p.data.toList ++ T ++ r).toArray.size
    simp only [List.size_toArray, List.length_append]; omega
  · show (p.data.toList ++ T ++ r).toArray.toList.drop p.size = T ++ r
    rw [List.append_assoc, ← hp]; simp
theorem size_mid (p : ByteArray) (T r : List UInt8) : (⟨(p.data.toList ++ T ++ r).toArray⟩ : ByteArray).size = p.size + T.length + r.length := by
  show (p.data.toList ++ T ++ r).toArray.size = _
  rw [List.size_toArray, List.length_append, List.length_append, ← Lib.size_eq]

theorem law6_of (p tail : ByteArray) (sg h m sec fm V : Int) (pH pM pS : Nat) (T : List UInt8) (w : World) (hsz : p.size + tail.size ≤ 1048576) (hpH : pH ≤ 4096) (hpM : pM ≤ 4096) (hpS : pS ≤ 4096) (hTl : T.length ≤ 100000) (hnd : NoDig tail.data.toList) (hnc : NotAt 58 tail.data.toList)
    (H23 : Hid (∀ w : World, Calls Try.prog 23 #[.int .i64 sg, .int .i64 h, .int .i64 m, .int .i64 sec, .int .i64 fm] w fun e w' => e = .returned (.bool true) ∧ w' = w))
    (H24 : Hid (∀ w : World, Calls Try.prog 24 #[.int .i64 sg, .int .i64 h, .int .i64 m, .int .i64 sec, .int .i64 fm] w fun e w' => e = .returned (.int .i64 V) ∧ w' = w))
    (H25 : Hid (∀ (w : World) (B : Nat) (a : Option Addr) (n cap : Nat) (l : List UInt8), Buf 5 B w a n cap l → B ≤ w.heap.size → n ≤ 4194304 → Calls Try.prog 25 #[.slice a n cap, .int .i64 sg, .int .i64 h, .int .i64 m, .int .i64 sec, .int .i64 fm, .int .i64 (pH : Int), .int .i64 (pM : Int), .int .i64 (pS : Int)] w fun e w' => ∃ a' n' cap', e = .returned (.slice a' n' cap') ∧ Buf 5 B w' a' n' cap' (l ++ T) ∧ Below B w w'))
    (H34 : ∀ (w : World) (g : Nat) (s : ByteArray) (i j : Nat), j = i + T.length → Rd w g s i → s.size ≤ 16777216 → From s i (T ++ tail.data.toList) → Calls Try.prog 34 #[.pointer (some ⟨g, 0, none⟩)] w fun e w' => e = .returned (.tuple #[.int .i64 V, .bool true]) ∧ Moved g s j w w') :
    Calls Try.prog 6 #[.string p, .int .i64 sg, .int .i64 h, .int .i64 m, .int .i64 sec, .int .i64 fm, .int .i64 (pH : Int), .int .i64 (pM : Int), .int .i64 (pS : Int), .string tail] w fun e w' => e = .returned (.bool true) ∧ Below w.heap.size w w' := by
  have hlt : tail.data.toList.length = tail.size := (Lib.size_eq tail).symm
  have H26 : Hid (∀ (w : World) (j : Nat), j = p.size + T.length → Calls Try.prog 26 #[.string ⟨(p.data.toList ++ T ++ tail.data.toList).toArray⟩, .int .i64 (p.size : Int)] w fun e w' => e = .returned (.tuple #[.int .i64 V, .int .i64 (j : Int), .bool true]) ∧ Below w.heap.size w w') := by
    intro w j hj
    exact zz26_of _ p.size j V true w (fun W hr => H34 W _ _ _ j hj hr (by rw [size_mid]; omega) (from_mid p T tail.data.toList))
  by_cases ht : tail.size < 1
  · exact law6_nil p tail sg h m sec fm V pH pM pS T _ w rfl hsz hpH hpM hpS hTl ht H23 H24 H25 H26
  · have ht2 : 0 < tail.size := by omega
    have hc := drop_cons tail 0 ht2
    rw [List.drop_zero] at hc
    have h1 := hnd _ _ hc
    have h2 := hnc _ _ hc
    rw [isD_digB] at h1
    exact law6_more p tail sg h m sec fm V pH pM pS T _ w rfl hsz hpH hpM hpS hTl ht2 h1 (beq_eq_false_iff_ne.2 (fun e => h2 (UInt8.toNat_inj.1 (by have h58 : (58 : UInt8).toNat = 58 := rfl; omega)))) H23 H24 H25 H26

theorem law6_00 (p tail : ByteArray) (h : Nat) (m : Int) (sec : Int) (pH pM pS : Nat) (w : World) (hsz : p.size + tail.size ≤ 1048576) (hpH : pH ≤ 4096) (hpM : pM ≤ 4096) (hpS : pS ≤ 4096) (hnd : NoDig tail.data.toList) (hnc : NotAt 58 tail.data.toList) (hh : h ≤ 167) :
    Calls Try.prog 6 #[.string p, .int .i64 0, .int .i64 (h : Int), .int .i64 m, .int .i64 sec, .int .i64 0, .int .i64 (pH : Int), .int .i64 (pM : Int), .int .i64 (pS : Int), .string tail] w fun e w' => e = .returned (.bool true) ∧ Below w.heap.size w w' := by
  refine law6_of p tail 0 h m sec 0 ((h : Int) * 3600) pH pM pS (padded pH h) w hsz hpH hpM hpS ?_ hnd hnc (fun w => inRange_yes _ _ _ _ _ w ⟨by omega, by omega, by omega, by omega, by omega, by omega, fun _ => by omega, fun _ => by omega⟩) (fun w => secs_00 w h m sec hh) (fun w B a n cap l hb hB hn => app_off_00 w B a n cap l h m sec pH pM pS hb hB hn (by omega) hpH) (fun w g s i j hj hr hs hF => off_00 w g s i h pH _ j hj hr hs hF hnd hnc hh)
  have l1 := padded_len pH h (by omega); first | omega | (simp only [List.length_append, List.length_cons, List.length_nil]; omega)

theorem law6_01 (p tail : ByteArray) (h : Nat) (m : Nat) (sec : Int) (pH pM pS : Nat) (w : World) (hsz : p.size + tail.size ≤ 1048576) (hpH : pH ≤ 4096) (hpM : pM ≤ 4096) (hpS : pS ≤ 4096) (hnd : NoDig tail.data.toList) (hnc : NotAt 58 tail.data.toList) (hh : h ≤ 167) (hm : m ≤ 59) :
    Calls Try.prog 6 #[.string p, .int .i64 0, .int .i64 (h : Int), .int .i64 (m : Int), .int .i64 sec, .int .i64 1, .int .i64 (pH : Int), .int .i64 (pM : Int), .int .i64 (pS : Int), .string tail] w fun e w' => e = .returned (.bool true) ∧ Below w.heap.size w w' := by
  refine law6_of p tail 0 h (m : Int) sec 1 ((h : Int) * 3600 + (m : Int) * 60) pH pM pS (padded pH h ++ ([58] ++ (padded pM m))) w hsz hpH hpM hpS ?_ hnd hnc (fun w => inRange_yes _ _ _ _ _ w ⟨by omega, by omega, by omega, by omega, by omega, by omega, fun _ => by omega, fun _ => by omega⟩) (fun w => secs_01 w h m sec hh hm) (fun w B a n cap l hb hB hn => app_off_01 w B a n cap l h m sec pH pM pS hb hB hn (by omega) (by omega) hpH hpM) (fun w g s i j hj hr hs hF => off_01 w g s i h m pH pM _ j hj hr hs hF hnd hnc hh hm)
  have l1 := padded_len pH h (by omega); have l2 := padded_len pM m (by omega); first | omega | (simp only [List.length_append, List.length_cons, List.length_nil]; omega)

theorem law6_02 (p tail : ByteArray) (h : Nat) (m : Nat) (sec : Nat) (pH pM pS : Nat) (w : World) (hsz : p.size + tail.size ≤ 1048576) (hpH : pH ≤ 4096) (hpM : pM ≤ 4096) (hpS : pS ≤ 4096) (hnd : NoDig tail.data.toList) (hnc : NotAt 58 tail.data.toList) (hh : h ≤ 167) (hm : m ≤ 59) (hsec : sec ≤ 60) :
    Calls Try.prog 6 #[.string p, .int .i64 0, .int .i64 (h : Int), .int .i64 (m : Int), .int .i64 (sec : Int), .int .i64 2, .int .i64 (pH : Int), .int .i64 (pM : Int), .int .i64 (pS : Int), .string tail] w fun e w' => e = .returned (.bool true) ∧ Below w.heap.size w w' := by
  refine law6_of p tail 0 h (m : Int) (sec : Int) 2 ((h : Int) * 3600 + (m : Int) * 60 + (sec : Int)) pH pM pS (padded pH h ++ ([58] ++ (padded pM m ++ ([58] ++ (padded pS sec))))) w hsz hpH hpM hpS ?_ hnd hnc (fun w => inRange_yes _ _ _ _ _ w ⟨by omega, by omega, by omega, by omega, by omega, by omega, fun _ => by omega, fun _ => by omega⟩) (fun w => secs_02 w h m sec hh hm hsec) (fun w B a n cap l hb hB hn => app_off_02 w B a n cap l h m sec pH pM pS hb hB hn (by omega) (by omega) (by omega) hpH hpM hpS) (fun w g s i j hj hr hs hF => off_02 w g s i h m sec pH pM pS _ j hj hr hs hF hnd hh hm hsec)
  have l1 := padded_len pH h (by omega); have l2 := padded_len pM m (by omega); have l3 := padded_len pS sec (by omega); first | omega | (simp only [List.length_append, List.length_cons, List.length_nil]; omega)

theorem law6_10 (p tail : ByteArray) (h : Nat) (m : Int) (sec : Int) (pH pM pS : Nat) (w : World) (hsz : p.size + tail.size ≤ 1048576) (hpH : pH ≤ 4096) (hpM : pM ≤ 4096) (hpS : pS ≤ 4096) (hnd : NoDig tail.data.toList) (hnc : NotAt 58 tail.data.toList) (hh : h ≤ 167) :
    Calls Try.prog 6 #[.string p, .int .i64 1, .int .i64 (h : Int), .int .i64 m, .int .i64 sec, .int .i64 0, .int .i64 (pH : Int), .int .i64 (pM : Int), .int .i64 (pS : Int), .string tail] w fun e w' => e = .returned (.bool true) ∧ Below w.heap.size w w' := by
  refine law6_of p tail 1 h m sec 0 ((h : Int) * 3600) pH pM pS ([43] ++ (padded pH h)) w hsz hpH hpM hpS ?_ hnd hnc (fun w => inRange_yes _ _ _ _ _ w ⟨by omega, by omega, by omega, by omega, by omega, by omega, fun _ => by omega, fun _ => by omega⟩) (fun w => secs_10 w h m sec hh) (fun w B a n cap l hb hB hn => app_off_10 w B a n cap l h m sec pH pM pS hb hB hn (by omega) hpH) (fun w g s i j hj hr hs hF => off_10 w g s i h pH _ j hj hr hs hF hnd hnc hh)
  have l1 := padded_len pH h (by omega); first | omega | (simp only [List.length_append, List.length_cons, List.length_nil]; omega)

theorem law6_11 (p tail : ByteArray) (h : Nat) (m : Nat) (sec : Int) (pH pM pS : Nat) (w : World) (hsz : p.size + tail.size ≤ 1048576) (hpH : pH ≤ 4096) (hpM : pM ≤ 4096) (hpS : pS ≤ 4096) (hnd : NoDig tail.data.toList) (hnc : NotAt 58 tail.data.toList) (hh : h ≤ 167) (hm : m ≤ 59) :
    Calls Try.prog 6 #[.string p, .int .i64 1, .int .i64 (h : Int), .int .i64 (m : Int), .int .i64 sec, .int .i64 1, .int .i64 (pH : Int), .int .i64 (pM : Int), .int .i64 (pS : Int), .string tail] w fun e w' => e = .returned (.bool true) ∧ Below w.heap.size w w' := by
  refine law6_of p tail 1 h (m : Int) sec 1 ((h : Int) * 3600 + (m : Int) * 60) pH pM pS ([43] ++ (padded pH h ++ ([58] ++ (padded pM m)))) w hsz hpH hpM hpS ?_ hnd hnc (fun w => inRange_yes _ _ _ _ _ w ⟨by omega, by omega, by omega, by omega, by omega, by omega, fun _ => by omega, fun _ => by omega⟩) (fun w => secs_11 w h m sec hh hm) (fun w B a n cap l hb hB hn => app_off_11 w B a n cap l h m sec pH pM pS hb hB hn (by omega) (by omega) hpH hpM) (fun w g s i j hj hr hs hF => off_11 w g s i h m pH pM _ j hj hr hs hF hnd hnc hh hm)
  have l1 := padded_len pH h (by omega); have l2 := padded_len pM m (by omega); first | omega | (simp only [List.length_append, List.length_cons, List.length_nil]; omega)

theorem law6_12 (p tail : ByteArray) (h : Nat) (m : Nat) (sec : Nat) (pH pM pS : Nat) (w : World) (hsz : p.size + tail.size ≤ 1048576) (hpH : pH ≤ 4096) (hpM : pM ≤ 4096) (hpS : pS ≤ 4096) (hnd : NoDig tail.data.toList) (hnc : NotAt 58 tail.data.toList) (hh : h ≤ 167) (hm : m ≤ 59) (hsec : sec ≤ 60) :
    Calls Try.prog 6 #[.string p, .int .i64 1, .int .i64 (h : Int), .int .i64 (m : Int), .int .i64 (sec : Int), .int .i64 2, .int .i64 (pH : Int), .int .i64 (pM : Int), .int .i64 (pS : Int), .string tail] w fun e w' => e = .returned (.bool true) ∧ Below w.heap.size w w' := by
  refine law6_of p tail 1 h (m : Int) (sec : Int) 2 ((h : Int) * 3600 + (m : Int) * 60 + (sec : Int)) pH pM pS ([43] ++ (padded pH h ++ ([58] ++ (padded pM m ++ ([58] ++ (padded pS sec)))))) w hsz hpH hpM hpS ?_ hnd hnc (fun w => inRange_yes _ _ _ _ _ w ⟨by omega, by omega, by omega, by omega, by omega, by omega, fun _ => by omega, fun _ => by omega⟩) (fun w => secs_12 w h m sec hh hm hsec) (fun w B a n cap l hb hB hn => app_off_12 w B a n cap l h m sec pH pM pS hb hB hn (by omega) (by omega) (by omega) hpH hpM hpS) (fun w g s i j hj hr hs hF => off_12 w g s i h m sec pH pM pS _ j hj hr hs hF hnd hh hm hsec)
  have l1 := padded_len pH h (by omega); have l2 := padded_len pM m (by omega); have l3 := padded_len pS sec (by omega); first | omega | (simp only [List.length_append, List.length_cons, List.length_nil]; omega)

theorem law6_20 (p tail : ByteArray) (h : Nat) (m : Int) (sec : Int) (pH pM pS : Nat) (w : World) (hsz : p.size + tail.size ≤ 1048576) (hpH : pH ≤ 4096) (hpM : pM ≤ 4096) (hpS : pS ≤ 4096) (hnd : NoDig tail.data.toList) (hnc : NotAt 58 tail.data.toList) (hh : h ≤ 167) :
    Calls Try.prog 6 #[.string p, .int .i64 2, .int .i64 (h : Int), .int .i64 m, .int .i64 sec, .int .i64 0, .int .i64 (pH : Int), .int .i64 (pM : Int), .int .i64 (pS : Int), .string tail] w fun e w' => e = .returned (.bool true) ∧ Below w.heap.size w w' := by
  refine law6_of p tail 2 h m sec 0 (-((h : Int) * 3600)) pH pM pS ([45] ++ (padded pH h)) w hsz hpH hpM hpS ?_ hnd hnc (fun w => inRange_yes _ _ _ _ _ w ⟨by omega, by omega, by omega, by omega, by omega, by omega, fun _ => by omega, fun _ => by omega⟩) (fun w => secs_20 w h m sec hh) (fun w B a n cap l hb hB hn => app_off_20 w B a n cap l h m sec pH pM pS hb hB hn (by omega) hpH) (fun w g s i j hj hr hs hF => off_20 w g s i h pH _ j hj hr hs hF hnd hnc hh)
  have l1 := padded_len pH h (by omega); first | omega | (simp only [List.length_append, List.length_cons, List.length_nil]; omega)

theorem law6_21 (p tail : ByteArray) (h : Nat) (m : Nat) (sec : Int) (pH pM pS : Nat) (w : World) (hsz : p.size + tail.size ≤ 1048576) (hpH : pH ≤ 4096) (hpM : pM ≤ 4096) (hpS : pS ≤ 4096) (hnd : NoDig tail.data.toList) (hnc : NotAt 58 tail.data.toList) (hh : h ≤ 167) (hm : m ≤ 59) :
    Calls Try.prog 6 #[.string p, .int .i64 2, .int .i64 (h : Int), .int .i64 (m : Int), .int .i64 sec, .int .i64 1, .int .i64 (pH : Int), .int .i64 (pM : Int), .int .i64 (pS : Int), .string tail] w fun e w' => e = .returned (.bool true) ∧ Below w.heap.size w w' := by
  refine law6_of p tail 2 h (m : Int) sec 1 (-((h : Int) * 3600 + (m : Int) * 60)) pH pM pS ([45] ++ (padded pH h ++ ([58] ++ (padded pM m)))) w hsz hpH hpM hpS ?_ hnd hnc (fun w => inRange_yes _ _ _ _ _ w ⟨by omega, by omega, by omega, by omega, by omega, by omega, fun _ => by omega, fun _ => by omega⟩) (fun w => secs_21 w h m sec hh hm) (fun w B a n cap l hb hB hn => app_off_21 w B a n cap l h m sec pH pM pS hb hB hn (by omega) (by omega) hpH hpM) (fun w g s i j hj hr hs hF => off_21 w g s i h m pH pM _ j hj hr hs hF hnd hnc hh hm)
  have l1 := padded_len pH h (by omega); have l2 := padded_len pM m (by omega); first | omega | (simp only [List.length_append, List.length_cons, List.length_nil]; omega)

theorem law6_22 (p tail : ByteArray) (h : Nat) (m : Nat) (sec : Nat) (pH pM pS : Nat) (w : World) (hsz : p.size + tail.size ≤ 1048576) (hpH : pH ≤ 4096) (hpM : pM ≤ 4096) (hpS : pS ≤ 4096) (hnd : NoDig tail.data.toList) (hnc : NotAt 58 tail.data.toList) (hh : h ≤ 167) (hm : m ≤ 59) (hsec : sec ≤ 60) :
    Calls Try.prog 6 #[.string p, .int .i64 2, .int .i64 (h : Int), .int .i64 (m : Int), .int .i64 (sec : Int), .int .i64 2, .int .i64 (pH : Int), .int .i64 (pM : Int), .int .i64 (pS : Int), .string tail] w fun e w' => e = .returned (.bool true) ∧ Below w.heap.size w w' := by
  refine law6_of p tail 2 h (m : Int) (sec : Int) 2 (-((h : Int) * 3600 + (m : Int) * 60 + (sec : Int))) pH pM pS ([45] ++ (padded pH h ++ ([58] ++ (padded pM m ++ ([58] ++ (padded pS sec)))))) w hsz hpH hpM hpS ?_ hnd hnc (fun w => inRange_yes _ _ _ _ _ w ⟨by omega, by omega, by omega, by omega, by omega, by omega, fun _ => by omega, fun _ => by omega⟩) (fun w => secs_22 w h m sec hh hm hsec) (fun w B a n cap l hb hB hn => app_off_22 w B a n cap l h m sec pH pM pS hb hB hn (by omega) (by omega) (by omega) hpH hpM hpS) (fun w g s i j hj hr hs hF => off_22 w g s i h m sec pH pM pS _ j hj hr hs hF hnd hh hm hsec)
  have l1 := padded_len pH h (by omega); have l2 := padded_len pM m (by omega); have l3 := padded_len pS sec (by omega); first | omega | (simp only [List.length_append, List.length_cons, List.length_nil]; omega)

theorem law6_ok (p tail : ByteArray) (sg h m sec fm : Int) (pH pM pS : Nat) (w : World) (hsz : p.size + tail.size ≤ 1048576) (hpH : pH ≤ 4096) (hpM : pM ≤ 4096) (hpS : pS ≤ 4096) (hnd : NoDig tail.data.toList) (hnc : NotAt 58 tail.data.toList) (hk : OffOk sg h m sec fm) :
    Calls Try.prog 6 #[.string p, .int .i64 sg, .int .i64 h, .int .i64 m, .int .i64 sec, .int .i64 fm, .int .i64 (pH : Int), .int .i64 (pM : Int), .int .i64 (pS : Int), .string tail] w fun e w' => e = .returned (.bool true) ∧ Below w.heap.size w w' := by
  obtain ⟨h1, h2, h3, h4, h5, h6, h7, h8⟩ := hk
  obtain ⟨hN, rfl⟩ := Int.eq_ofNat_of_zero_le h5
  rcases (show fm = 0 ∨ fm = 1 ∨ fm = 2 by omega) with rfl | rfl | rfl
  · rcases (show sg = 0 ∨ sg = 1 ∨ sg = 2 by omega) with rfl | rfl | rfl
    · exact law6_00 p tail hN m sec pH pM pS w hsz hpH hpM hpS hnd hnc (by omega)
    · exact law6_10 p tail hN m sec pH pM pS w hsz hpH hpM hpS hnd hnc (by omega)
    · exact law6_20 p tail hN m sec pH pM pS w hsz hpH hpM hpS hnd hnc (by omega)
  · obtain ⟨h9, h10⟩ := h7 (by omega)
    obtain ⟨mN, rfl⟩ := Int.eq_ofNat_of_zero_le h9
    rcases (show sg = 0 ∨ sg = 1 ∨ sg = 2 by omega) with rfl | rfl | rfl
    · exact law6_01 p tail hN mN sec pH pM pS w hsz hpH hpM hpS hnd hnc (by omega) (by omega)
    · exact law6_11 p tail hN mN sec pH pM pS w hsz hpH hpM hpS hnd hnc (by omega) (by omega)
    · exact law6_21 p tail hN mN sec pH pM pS w hsz hpH hpM hpS hnd hnc (by omega) (by omega)
  · obtain ⟨h9, h10⟩ := h7 (by omega)
    obtain ⟨h11, h12⟩ := h8 rfl
    obtain ⟨mN, rfl⟩ := Int.eq_ofNat_of_zero_le h9
    obtain ⟨sN, rfl⟩ := Int.eq_ofNat_of_zero_le h11
    rcases (show sg = 0 ∨ sg = 1 ∨ sg = 2 by omega) with rfl | rfl | rfl
    · exact law6_02 p tail hN mN sN pH pM pS w hsz hpH hpM hpS hnd hnc (by omega) (by omega) (by omega)
    · exact law6_12 p tail hN mN sN pH pM pS w hsz hpH hpM hpS hnd hnc (by omega) (by omega) (by omega)
    · exact law6_22 p tail hN mN sN pH pM pS w hsz hpH hpM hpS hnd hnc (by omega) (by omega) (by omega)

set_option maxRecDepth 100000 in
theorem out6_big (p tail : ByteArray) (sg h m sec fm pH pM pS : Int) (w : World) (h1 : p.size ≤ maxLen) (h2 : tail.size ≤ maxLen) (hs : 1048576 < p.size + tail.size) :
    Calls Try.prog 6 #[.string p, .int .i64 sg, .int .i64 h, .int .i64 m, .int .i64 sec, .int .i64 fm, .int .i64 pH, .int .i64 pM, .int .i64 pS, .string tail] w fun e w' => e = .returned (.bool true) ∧ Below w.heap.size w w' := by
  go_enter Try.func6, Try.ntmps6
  go_wp2_with fail
  refine (zz22_no p tail _ _ _ _ _ _ _ _ _ h1 h2 hs).mono ?_
  rintro e w' ⟨rfl, rfl⟩
  go_wp2_with fail
  go_ret
  exact ⟨rfl, Below.refl _ _⟩

set_option maxRecDepth 100000 in
set_option maxHeartbeats 1000000 in
theorem out6_pad (p tail : ByteArray) (sg h m sec fm pH pM pS : Int) (w : World) (hsz : p.size + tail.size ≤ 1048576) (hc : (pH < 0) ∨ (0 ≤ pH ∧ 4096 < pH) ∨ (0 ≤ pH ∧ pH ≤ 4096 ∧ pM < 0) ∨ (0 ≤ pH ∧ pH ≤ 4096 ∧ 0 ≤ pM ∧ 4096 < pM) ∨ (0 ≤ pH ∧ pH ≤ 4096 ∧ 0 ≤ pM ∧ pM ≤ 4096 ∧ pS < 0) ∨ (0 ≤ pH ∧ pH ≤ 4096 ∧ 0 ≤ pM ∧ pM ≤ 4096 ∧ 0 ≤ pS ∧ 4096 < pS)) :
    Calls Try.prog 6 #[.string p, .int .i64 sg, .int .i64 h, .int .i64 m, .int .i64 sec, .int .i64 fm, .int .i64 pH, .int .i64 pM, .int .i64 pS, .string tail] w fun e w' => e = .returned (.bool true) ∧ Below w.heap.size w w' := by
  rcases hc with h1 | ⟨h1, h2⟩ | ⟨h1, h2, h3⟩ | ⟨h1, h2, h3, h4⟩ | ⟨h1, h2, h3, h4, h5⟩ | ⟨h1, h2, h3, h4, h5, h6⟩
  all_goals
    go_enter Try.func6, Try.ntmps6
    go_wp2_with (go_at_call 22; refine (zz22_yes p tail _ _ _ _ _ _ _ _ _ hsz).mono ?_; rintro e w' ⟨rfl, hw⟩; have hw' := hw.symm; subst hw'; clear hw)
    go_ret
    exact ⟨rfl, Below.refl _ _⟩

set_option maxRecDepth 100000 in
set_option maxHeartbeats 1000000 in
theorem out6_rng (p tail : ByteArray) (sg h m sec fm : Int) (pH pM pS : Nat) (w : World) (hsz : p.size + tail.size ≤ 1048576) (hpH : pH ≤ 4096) (hpM : pM ≤ 4096) (hpS : pS ≤ 4096) (hk : ¬ OffOk sg h m sec fm) :
    Calls Try.prog 6 #[.string p, .int .i64 sg, .int .i64 h, .int .i64 m, .int .i64 sec, .int .i64 fm, .int .i64 (pH : Int), .int .i64 (pM : Int), .int .i64 (pS : Int), .string tail] w fun e w' => e = .returned (.bool true) ∧ Below w.heap.size w w' := by
  have HK := (show Hid _ from hk)
  clear hk
  go_enter Try.func6, Try.ntmps6
  go_wp2_with (first | (go_at_call 22; refine (zz22_yes p tail _ _ _ _ _ _ _ _ _ hsz).mono ?_; rintro e w' ⟨rfl, hw⟩; have hw' := hw.symm; subst hw'; clear hw) | (go_at_call 23; refine (inRange_no _ _ _ _ _ _ HK.out).mono ?_; rintro e w' ⟨rfl, hw⟩; have hw' := hw.symm; subst hw'; clear hw))
  go_ret
  exact ⟨rfl, Below.refl _ _⟩

set_option maxRecDepth 100000 in
set_option maxHeartbeats 1000000 in
theorem out6_tail (p tail : ByteArray) (sg h m sec fm : Int) (pH pM pS : Nat) (w : World) (hsz : p.size + tail.size ≤ 1048576) (hpH : pH ≤ 4096) (hpM : pM ≤ 4096) (hpS : pS ≤ 4096) (hk : OffOk sg h m sec fm) (ht : 0 < tail.size) (hc : digB ((tail[0]'ht).toNat : Int) = true ∨ (digB ((tail[0]'ht).toNat : Int) = false ∧ (((tail[0]'ht).toNat : Int) == 58) = true)) :
    Calls Try.prog 6 #[.string p, .int .i64 sg, .int .i64 h, .int .i64 m, .int .i64 sec, .int .i64 fm, .int .i64 (pH : Int), .int .i64 (pM : Int), .int .i64 (pS : Int), .string tail] w fun e w' => e = .returned (.bool true) ∧ Below w.heap.size w w' := by
  have HK := (show Hid _ from hk)
  clear hk
  rcases hc with hd | ⟨hd, he⟩
  all_goals
    go_enter Try.func6, Try.ntmps6
    go_wp2_with (first | (go_at_call 22; refine (zz22_yes p tail _ _ _ _ _ _ _ _ _ hsz).mono ?_; rintro e w' ⟨rfl, hw⟩; have hw' := hw.symm; subst hw'; clear hw) | (go_at_call 23; refine (inRange_yes _ _ _ _ _ _ HK.out).mono ?_; rintro e w' ⟨rfl, hw⟩; have hw' := hw.symm; subst hw'; clear hw) | (go_at_call 14; refine (isDigit_any _ _).mono ?_; rintro e w' ⟨rfl, hw⟩; have hw' := hw.symm; subst hw'; clear hw))
    go_ret
    exact ⟨rfl, Below.refl _ _⟩

theorem law6 (p tail : ByteArray) (sg h m sec fm pH pM pS : Int) (w : World) (h1 : p.size ≤ maxLen) (h2 : tail.size ≤ maxLen) :
    Calls Try.prog 6 #[.string p, .int .i64 sg, .int .i64 h, .int .i64 m, .int .i64 sec, .int .i64 fm, .int .i64 pH, .int .i64 pM, .int .i64 pS, .string tail] w fun e w' => e = .returned (.bool true) ∧ Below w.heap.size w w' := by
  by_cases hsz : p.size + tail.size ≤ 1048576
  · by_cases a1 : pH < 0
    · exact out6_pad p tail sg h m sec fm pH pM pS w hsz (.inl a1)
    by_cases a2 : 4096 < pH
    · exact out6_pad p tail sg h m sec fm pH pM pS w hsz (.inr (.inl ⟨by omega, a2⟩))
    by_cases a3 : pM < 0
    · exact out6_pad p tail sg h m sec fm pH pM pS w hsz (.inr (.inr (.inl ⟨by omega, by omega, a3⟩)))
    by_cases a4 : 4096 < pM
    · exact out6_pad p tail sg h m sec fm pH pM pS w hsz (.inr (.inr (.inr (.inl ⟨by omega, by omega, by omega, a4⟩))))
    by_cases a5 : pS < 0
    · exact out6_pad p tail sg h m sec fm pH pM pS w hsz (.inr (.inr (.inr (.inr (.inl ⟨by omega, by omega, by omega, by omega, a5⟩)))))
    by_cases a6 : 4096 < pS
    · exact out6_pad p tail sg h m sec fm pH pM pS w hsz (.inr (.inr (.inr (.inr (.inr ⟨by omega, by omega, by omega, by omega, by omega, a6⟩)))))
    obtain ⟨xH, rfl⟩ := Int.eq_ofNat_of_zero_le (show 0 ≤ pH by omega)
    obtain ⟨xM, rfl⟩ := Int.eq_ofNat_of_zero_le (show 0 ≤ pM by omega)
    obtain ⟨xS, rfl⟩ := Int.eq_ofNat_of_zero_le (show 0 ≤ pS by omega)
    by_cases hk : OffOk sg h m sec fm
    · by_cases ht : 0 < tail.size
      · have hc := drop_cons tail 0 ht
        rw [List.drop_zero] at hc
        by_cases hd : digB ((tail[0]'ht).toNat : Int) = true
        · exact out6_tail p tail sg h m sec fm xH xM xS w hsz (by omega) (by omega) (by omega) hk ht (.inl hd)
        have hd' : digB ((tail[0]'ht).toNat : Int) = false := by simpa using hd
        by_cases he : (((tail[0]'ht).toNat : Int) == 58) = true
        · exact out6_tail p tail sg h m sec fm xH xM xS w hsz (by omega) (by omega) (by omega) hk ht (.inr ⟨hd', he⟩)
        refine law6_ok p tail sg h m sec fm xH xM xS w hsz (by omega) (by omega) (by omega) ?_ ?_ hk
        · rw [hc]; exact NoDig.cons (by rw [isD_digB]; exact hd')
        · rw [hc]; exact NotAt.cons (fun e => he (by rw [e]; rfl))
      · have hn : tail.data.toList = [] := List.eq_nil_of_length_eq_zero (by rw [← Lib.size_eq]; omega)
        refine law6_ok p tail sg h m sec fm xH xM xS w hsz (by omega) (by omega) (by omega) ?_ ?_ hk
        · rw [hn]; intro d r e; cases e
        · rw [hn]; intro d r e; cases e
    · exact out6_rng p tail sg h m sec fm xH xM xS w hsz (by omega) (by omega) (by omega) hk
  · exact out6_big p tail sg h m sec fm pH pM pS w h1 h2 (by omega)
end Go.Proofs.Qxb6600050a
