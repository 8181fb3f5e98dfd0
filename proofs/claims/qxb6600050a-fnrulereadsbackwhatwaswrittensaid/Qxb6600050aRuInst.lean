/-
  FnRuleReadsBackWhatWasWritten (9): the instances.
-/
import Derived.Test.Qxb6600050aRuLaw
import Derived.Test.Qxb6600050aOfLaw
namespace Go.Proofs.Qxb6600050a
open Go.RowKit
set_option linter.unusedSimpArgs false
set_option linter.unusedVariables false

theorem from_mid (p : ByteArray) (T r : List UInt8) : From ⟨(p.data.toList ++ T ++ r).toArray⟩ p.size (T ++ r) := by
  have hp : p.data.toList.length = p.size := (Lib.size_eq p).symm
  refine ⟨?_, ?_⟩
  · show p.size ≤ (p.data.toList ++ T ++ r).toArray.size
    simp only [List.size_toArray, List.length_append]; omega
  · show (p.data.toList ++ T ++ r).toArray.toList.drop p.size = T ++ r
    rw [List.append_assoc, ← hp]; simp
theorem size_mid (p : ByteArray) (T r : List UInt8) : (⟨(p.data.toList ++ T ++ r).toArray⟩ : ByteArray).size = p.size + T.length + r.length := by
  show (p.data.toList ++ T ++ r).toArray.size = _
  rw [List.size_toArray, List.length_append, List.length_append, ← Lib.size_eq]

/-- What the law asks of the tail. -/
structure TailOk (l : List UInt8) : Prop where
  nd : NoDig l
  n47 : NotAt 47 l
  n58 : NotAt 58 l
  n46 : NotAt 46 l

/-- A written time: its text, its value, and the four functions on it. -/
structure AtOk (sg h m sec fm : Int) (r T : List UInt8) (V : Int) : Prop where
  len : T.length ≤ 1000
  h23 : ∀ w : World, Calls Try.prog 23 #[.int .i64 sg, .int .i64 h, .int .i64 m, .int .i64 sec, .int .i64 fm] w fun e w' => e = .returned (.bool true) ∧ w' = w
  h24 : ∀ w : World, Calls Try.prog 24 #[.int .i64 sg, .int .i64 h, .int .i64 m, .int .i64 sec, .int .i64 fm] w fun e w' => e = .returned (.int .i64 V) ∧ w' = w
  h25 : ∀ (w : World) (B : Nat) (a : Option Addr) (n cap : Nat) (l : List UInt8), Buf 5 B w a n cap l → B ≤ w.heap.size → n ≤ 4194304 → Calls Try.prog 25 #[.slice a n cap, .int .i64 sg, .int .i64 h, .int .i64 m, .int .i64 sec, .int .i64 fm, .int .i64 0, .int .i64 0, .int .i64 0] w fun e w' => ∃ a' n' cap', e = .returned (.slice a' n' cap') ∧ Buf 5 B w' a' n' cap' (l ++ T) ∧ Below B w w'
  h34 : ∀ (g : Nat) (s : ByteArray), s.size ≤ 16777216 → ∀ (w : World) (i j : Nat), j = i + T.length → Rd w g s i → From s i (T ++ r) → Calls Try.prog 34 #[.pointer (some ⟨g, 0, none⟩)] w fun e w' => e = .returned (.tuple #[.int .i64 V, .bool true]) ∧ Moved g s j w w'

theorem at_00 (h : Nat) (m : Int) (sec : Int) (r : List UInt8) (hnd : NoDig r) (hnc : NotAt 58 r) (hh : h ≤ 167) : AtOk 0 (h : Int) m sec 0 r (padded 0 h) ((h : Int) * 3600) := by
  refine ⟨?_, fun w => inRange_yes _ _ _ _ _ w ⟨by omega, by omega, by omega, by omega, by omega, by omega, fun _ => by omega, fun _ => by omega⟩, fun w => secs_00 w h m sec hh, fun w B a n cap l hb hB hn => app_off_00 w B a n cap l h m sec 0 0 0 hb hB hn (by omega) (by omega), fun g s hs w i j hj hr hF => off_00 w g s i h 0 _ j hj hr hs hF hnd hnc hh⟩
  have l1 := padded_len 0 h (by omega); first | omega | (simp only [List.length_append, List.length_cons, List.length_nil]; omega)

theorem at_01 (h : Nat) (m : Nat) (sec : Int) (r : List UInt8) (hnd : NoDig r) (hnc : NotAt 58 r) (hh : h ≤ 167) (hm : m ≤ 59) : AtOk 0 (h : Int) (m : Int) sec 1 r (padded 0 h ++ ([58] ++ (padded 0 m))) ((h : Int) * 3600 + (m : Int) * 60) := by
  refine ⟨?_, fun w => inRange_yes _ _ _ _ _ w ⟨by omega, by omega, by omega, by omega, by omega, by omega, fun _ => by omega, fun _ => by omega⟩, fun w => secs_01 w h m sec hh hm, fun w B a n cap l hb hB hn => app_off_01 w B a n cap l h m sec 0 0 0 hb hB hn (by omega) (by omega) (by omega) (by omega), fun g s hs w i j hj hr hF => off_01 w g s i h m 0 0 _ j hj hr hs hF hnd hnc hh hm⟩
  have l1 := padded_len 0 h (by omega); have l2 := padded_len 0 m (by omega); first | omega | (simp only [List.length_append, List.length_cons, List.length_nil]; omega)

theorem at_02 (h : Nat) (m : Nat) (sec : Nat) (r : List UInt8) (hnd : NoDig r) (hnc : NotAt 58 r) (hh : h ≤ 167) (hm : m ≤ 59) (hsec : sec ≤ 60) : AtOk 0 (h : Int) (m : Int) (sec : Int) 2 r (padded 0 h ++ ([58] ++ (padded 0 m ++ ([58] ++ (padded 0 sec))))) ((h : Int) * 3600 + (m : Int) * 60 + (sec : Int)) := by
  refine ⟨?_, fun w => inRange_yes _ _ _ _ _ w ⟨by omega, by omega, by omega, by omega, by omega, by omega, fun _ => by omega, fun _ => by omega⟩, fun w => secs_02 w h m sec hh hm hsec, fun w B a n cap l hb hB hn => app_off_02 w B a n cap l h m sec 0 0 0 hb hB hn (by omega) (by omega) (by omega) (by omega) (by omega) (by omega), fun g s hs w i j hj hr hF => off_02 w g s i h m sec 0 0 0 _ j hj hr hs hF hnd hh hm hsec⟩
  have l1 := padded_len 0 h (by omega); have l2 := padded_len 0 m (by omega); have l3 := padded_len 0 sec (by omega); first | omega | (simp only [List.length_append, List.length_cons, List.length_nil]; omega)

theorem at_10 (h : Nat) (m : Int) (sec : Int) (r : List UInt8) (hnd : NoDig r) (hnc : NotAt 58 r) (hh : h ≤ 167) : AtOk 1 (h : Int) m sec 0 r ([43] ++ (padded 0 h)) ((h : Int) * 3600) := by
  refine ⟨?_, fun w => inRange_yes _ _ _ _ _ w ⟨by omega, by omega, by omega, by omega, by omega, by omega, fun _ => by omega, fun _ => by omega⟩, fun w => secs_10 w h m sec hh, fun w B a n cap l hb hB hn => app_off_10 w B a n cap l h m sec 0 0 0 hb hB hn (by omega) (by omega), fun g s hs w i j hj hr hF => off_10 w g s i h 0 _ j hj hr hs hF hnd hnc hh⟩
  have l1 := padded_len 0 h (by omega); first | omega | (simp only [List.length_append, List.length_cons, List.length_nil]; omega)

theorem at_11 (h : Nat) (m : Nat) (sec : Int) (r : List UInt8) (hnd : NoDig r) (hnc : NotAt 58 r) (hh : h ≤ 167) (hm : m ≤ 59) : AtOk 1 (h : Int) (m : Int) sec 1 r ([43] ++ (padded 0 h ++ ([58] ++ (padded 0 m)))) ((h : Int) * 3600 + (m : Int) * 60) := by
  refine ⟨?_, fun w => inRange_yes _ _ _ _ _ w ⟨by omega, by omega, by omega, by omega, by omega, by omega, fun _ => by omega, fun _ => by omega⟩, fun w => secs_11 w h m sec hh hm, fun w B a n cap l hb hB hn => app_off_11 w B a n cap l h m sec 0 0 0 hb hB hn (by omega) (by omega) (by omega) (by omega), fun g s hs w i j hj hr hF => off_11 w g s i h m 0 0 _ j hj hr hs hF hnd hnc hh hm⟩
  have l1 := padded_len 0 h (by omega); have l2 := padded_len 0 m (by omega); first | omega | (simp only [List.length_append, List.length_cons, List.length_nil]; omega)

theorem at_12 (h : Nat) (m : Nat) (sec : Nat) (r : List UInt8) (hnd : NoDig r) (hnc : NotAt 58 r) (hh : h ≤ 167) (hm : m ≤ 59) (hsec : sec ≤ 60) : AtOk 1 (h : Int) (m : Int) (sec : Int) 2 r ([43] ++ (padded 0 h ++ ([58] ++ (padded 0 m ++ ([58] ++ (padded 0 sec)))))) ((h : Int) * 3600 + (m : Int) * 60 + (sec : Int)) := by
  refine ⟨?_, fun w => inRange_yes _ _ _ _ _ w ⟨by omega, by omega, by omega, by omega, by omega, by omega, fun _ => by omega, fun _ => by omega⟩, fun w => secs_12 w h m sec hh hm hsec, fun w B a n cap l hb hB hn => app_off_12 w B a n cap l h m sec 0 0 0 hb hB hn (by omega) (by omega) (by omega) (by omega) (by omega) (by omega), fun g s hs w i j hj hr hF => off_12 w g s i h m sec 0 0 0 _ j hj hr hs hF hnd hh hm hsec⟩
  have l1 := padded_len 0 h (by omega); have l2 := padded_len 0 m (by omega); have l3 := padded_len 0 sec (by omega); first | omega | (simp only [List.length_append, List.length_cons, List.length_nil]; omega)

theorem at_20 (h : Nat) (m : Int) (sec : Int) (r : List UInt8) (hnd : NoDig r) (hnc : NotAt 58 r) (hh : h ≤ 167) : AtOk 2 (h : Int) m sec 0 r ([45] ++ (padded 0 h)) (-((h : Int) * 3600)) := by
  refine ⟨?_, fun w => inRange_yes _ _ _ _ _ w ⟨by omega, by omega, by omega, by omega, by omega, by omega, fun _ => by omega, fun _ => by omega⟩, fun w => secs_20 w h m sec hh, fun w B a n cap l hb hB hn => app_off_20 w B a n cap l h m sec 0 0 0 hb hB hn (by omega) (by omega), fun g s hs w i j hj hr hF => off_20 w g s i h 0 _ j hj hr hs hF hnd hnc hh⟩
  have l1 := padded_len 0 h (by omega); first | omega | (simp only [List.length_append, List.length_cons, List.length_nil]; omega)

theorem at_21 (h : Nat) (m : Nat) (sec : Int) (r : List UInt8) (hnd : NoDig r) (hnc : NotAt 58 r) (hh : h ≤ 167) (hm : m ≤ 59) : AtOk 2 (h : Int) (m : Int) sec 1 r ([45] ++ (padded 0 h ++ ([58] ++ (padded 0 m)))) (-((h : Int) * 3600 + (m : Int) * 60)) := by
  refine ⟨?_, fun w => inRange_yes _ _ _ _ _ w ⟨by omega, by omega, by omega, by omega, by omega, by omega, fun _ => by omega, fun _ => by omega⟩, fun w => secs_21 w h m sec hh hm, fun w B a n cap l hb hB hn => app_off_21 w B a n cap l h m sec 0 0 0 hb hB hn (by omega) (by omega) (by omega) (by omega), fun g s hs w i j hj hr hF => off_21 w g s i h m 0 0 _ j hj hr hs hF hnd hnc hh hm⟩
  have l1 := padded_len 0 h (by omega); have l2 := padded_len 0 m (by omega); first | omega | (simp only [List.length_append, List.length_cons, List.length_nil]; omega)

theorem at_22 (h : Nat) (m : Nat) (sec : Nat) (r : List UInt8) (hnd : NoDig r) (hnc : NotAt 58 r) (hh : h ≤ 167) (hm : m ≤ 59) (hsec : sec ≤ 60) : AtOk 2 (h : Int) (m : Int) (sec : Int) 2 r ([45] ++ (padded 0 h ++ ([58] ++ (padded 0 m ++ ([58] ++ (padded 0 sec)))))) (-((h : Int) * 3600 + (m : Int) * 60 + (sec : Int))) := by
  refine ⟨?_, fun w => inRange_yes _ _ _ _ _ w ⟨by omega, by omega, by omega, by omega, by omega, by omega, fun _ => by omega, fun _ => by omega⟩, fun w => secs_22 w h m sec hh hm hsec, fun w B a n cap l hb hB hn => app_off_22 w B a n cap l h m sec 0 0 0 hb hB hn (by omega) (by omega) (by omega) (by omega) (by omega) (by omega), fun g s hs w i j hj hr hF => off_22 w g s i h m sec 0 0 0 _ j hj hr hs hF hnd hh hm hsec⟩
  have l1 := padded_len 0 h (by omega); have l2 := padded_len 0 m (by omega); have l3 := padded_len 0 sec (by omega); first | omega | (simp only [List.length_append, List.length_cons, List.length_nil]; omega)

theorem at_ok (sg h m sec fm : Int) (r : List UInt8) (hnd : NoDig r) (hnc : NotAt 58 r) (hk : OffOk sg h m sec fm) : ∃ T V, AtOk sg h m sec fm r T V := by
  obtain ⟨h1, h2, h3, h4, h5, h6, h7, h8⟩ := hk
  obtain ⟨hN, rfl⟩ := Int.eq_ofNat_of_zero_le h5
  rcases (show fm = 0 ∨ fm = 1 ∨ fm = 2 by omega) with rfl | rfl | rfl
  · rcases (show sg = 0 ∨ sg = 1 ∨ sg = 2 by omega) with rfl | rfl | rfl
    · exact ⟨_, _, at_00 hN m sec r hnd hnc (by omega)⟩
    · exact ⟨_, _, at_10 hN m sec r hnd hnc (by omega)⟩
    · exact ⟨_, _, at_20 hN m sec r hnd hnc (by omega)⟩
  · obtain ⟨h9, h10⟩ := h7 (by omega)
    obtain ⟨mN, rfl⟩ := Int.eq_ofNat_of_zero_le h9
    rcases (show sg = 0 ∨ sg = 1 ∨ sg = 2 by omega) with rfl | rfl | rfl
    · exact ⟨_, _, at_01 hN mN sec r hnd hnc (by omega) (by omega)⟩
    · exact ⟨_, _, at_11 hN mN sec r hnd hnc (by omega) (by omega)⟩
    · exact ⟨_, _, at_21 hN mN sec r hnd hnc (by omega) (by omega)⟩
  · obtain ⟨h9, h10⟩ := h7 (by omega)
    obtain ⟨h11, h12⟩ := h8 rfl
    obtain ⟨mN, rfl⟩ := Int.eq_ofNat_of_zero_le h9
    obtain ⟨sN, rfl⟩ := Int.eq_ofNat_of_zero_le h11
    rcases (show sg = 0 ∨ sg = 1 ∨ sg = 2 by omega) with rfl | rfl | rfl
    · exact ⟨_, _, at_02 hN mN sN r hnd hnc (by omega) (by omega) (by omega)⟩
    · exact ⟨_, _, at_12 hN mN sN r hnd hnc (by omega) (by omega) (by omega)⟩
    · exact ⟨_, _, at_22 hN mN sN r hnd hnc (by omega) (by omega) (by omega)⟩

theorem h30_of (p tail : ByteArray) (R raw : List UInt8) (hraw : raw = p.data.toList ++ R) (hz : p.size + R.length + tail.size ≤ 16777216) (k d wk mo at_ : Int)
    (h35 : ∀ (W : World) (g : Nat) (s : ByteArray) (j : Nat), j = p.size + R.length → Rd W g s p.size → s.size ≤ 16777216 → From s p.size (R ++ tail.data.toList) → Calls Try.prog 35 #[.pointer (some ⟨g, 0, none⟩)] W fun e w' => e = .returned (.tuple #[.agg #[.int .u8 k, .int .i64 d, .int .i64 wk, .int .i64 mo, .int .i64 at_], .bool true]) ∧ Moved2 g s j W w')
    (w : World) (j : Nat) (hj : j = raw.length) : Calls Try.prog 30 #[.string ⟨(raw ++ tail.data.toList).toArray⟩, .int .i64 (p.size : Int)] w fun e w' => e = .returned (.tuple #[.int .u8 k, .int .i64 d, .int .i64 wk, .int .i64 mo, .int .i64 at_, .int .i64 (j : Int), .bool true]) ∧ Below w.heap.size w w' := by
  subst hraw
  have hl : tail.data.toList.length = tail.size := (Lib.size_eq tail).symm
  refine zz30_of _ p.size j k d wk mo at_ w (fun W hr => h35 W _ _ j ?_ hr (by rw [size_mid]; omega) (from_mid p R tail.data.toList))
  rw [hj, List.length_append, ← Lib.size_eq]
theorem utoa_b (v : Nat) (h : v < 1000) : (⟨(Num.utoa v).toArray⟩ : ByteArray).size ≤ 12 := by
  have := Num.utoa_len v 12 (by omega) (by omega)
  simpa [ByteArray.size] using this
theorem tail_cases (tail : ByteArray) (hk : TailOk tail.data.toList) (ht : 0 < tail.size) : digB ((tail[0]'ht).toNat : Int) = false ∧ (((tail[0]'ht).toNat : Int) == 47) = false ∧ (((tail[0]'ht).toNat : Int) == 58) = false ∧ (((tail[0]'ht).toNat : Int) == 46) = false := by
  have hc := drop_cons tail 0 ht
  rw [List.drop_zero] at hc
  have f : ∀ c : UInt8, NotAt c tail.data.toList → (((tail[0]'ht).toNat : Int) == (c.toNat : Int)) = false := by
    intro c hn
    have h2 := hn _ _ hc
    exact beq_eq_false_iff_ne.2 (fun e => h2 (UInt8.toNat_inj.1 (by omega)))
  refine ⟨?_, f 47 hk.n47, f 58 hk.n58, f 46 hk.n46⟩
  rw [← isD_digB]; exact hk.nd _ _ hc

theorem r9_00 (p tail : ByteArray) (d wk mo sg h m sec fm : Int) (w : World) (hsz : p.size + tail.size ≤ 1048576) (k1 : 1 ≤ d) (k2 : d ≤ 365) (hT : TailOk tail.data.toList) :
    Calls Try.prog 9 #[.string p, .int .i64 0, .int .i64 d, .int .i64 wk, .int .i64 mo, .bool false, .int .i64 sg, .int .i64 h, .int .i64 m, .int .i64 sec, .int .i64 fm, .string tail] w fun e w' => e = .returned (.bool true) ∧ Below w.heap.size w w' := by
  obtain ⟨dN, rfl⟩ := Int.eq_ofNat_of_zero_le (show 0 ≤ d by omega)
  have hRl : (([74] ++ (padded 0 dN))).length ≤ 1100 := by
    have l_d := padded_len 0 dN (by omega)
    first | omega | (simp only [List.length_append, List.length_cons, List.length_nil]; omega)
  have H30 := (h30_of p tail ([74] ++ (padded 0 dN)) (p.data.toList ++ [74] ++ (Num.utoa dN)) (by simp [padded, List.append_assoc]) (by omega) 74 dN 0 0 7200 (fun W g s j hj hr hs hF => rule_00 W g s p.size dN _ hT.nd hT.n47 j hj hr hs hF (by omega) (by omega)))
  by_cases ht : tail.size < 1
  · exact law9_000 p tail dN wk mo sg h m sec fm _ _ w ⟨(Num.utoa dN).toArray⟩ (utoa_b dN (by omega)) (fun w => utoa_any w dN (by omega)) rfl rfl hsz (by omega) (by omega) ht H30
  · obtain ⟨t1, t2, t3, t4⟩ := tail_cases tail hT (by omega)
    exact law9_001 p tail dN wk mo sg h m sec fm _ _ w ⟨(Num.utoa dN).toArray⟩ (utoa_b dN (by omega)) (fun w => utoa_any w dN (by omega)) rfl rfl hsz (by omega) (by omega) (by omega) t1 t2 t3 t4 H30

theorem r9_01 (p tail : ByteArray) (d wk mo sg h m sec fm : Int) (w : World) (hsz : p.size + tail.size ≤ 1048576) (k1 : 1 ≤ d) (k2 : d ≤ 365) (hT : TailOk tail.data.toList) (hk : OffOk sg h m sec fm) :
    Calls Try.prog 9 #[.string p, .int .i64 0, .int .i64 d, .int .i64 wk, .int .i64 mo, .bool true, .int .i64 sg, .int .i64 h, .int .i64 m, .int .i64 sec, .int .i64 fm, .string tail] w fun e w' => e = .returned (.bool true) ∧ Below w.heap.size w w' := by
  obtain ⟨dN, rfl⟩ := Int.eq_ofNat_of_zero_le (show 0 ≤ d by omega)
  obtain ⟨T, V, A⟩ := at_ok sg h m sec fm tail.data.toList hT.nd hT.n58 hk
  have hTl := A.len
  have hRl : (([74] ++ (padded 0 dN ++ ([47] ++ (T))))).length ≤ 1100 := by
    have l_d := padded_len 0 dN (by omega)
    first | omega | (simp only [List.length_append, List.length_cons, List.length_nil]; omega)
  have hLL : (p.data.toList ++ [74] ++ (Num.utoa dN) ++ [47] ++ T).length ≤ 2097152 := by
    have e1 : (p.data.toList ++ [74] ++ (Num.utoa dN) ++ [47] ++ T).length = p.size + (([74] ++ (padded 0 dN ++ ([47] ++ (T))))).length := by
      rw [show p.data.toList ++ [74] ++ (Num.utoa dN) ++ [47] ++ T = p.data.toList ++ ([74] ++ (padded 0 dN ++ ([47] ++ (T)))) by simp [padded, List.append_assoc], List.length_append, ← Lib.size_eq]
    omega
  have H30 := (h30_of p tail ([74] ++ (padded 0 dN ++ ([47] ++ (T)))) (p.data.toList ++ [74] ++ (Num.utoa dN) ++ [47] ++ T) (by simp [padded, List.append_assoc]) (by omega) 74 dN 0 0 V (fun W g s j hj hr hs hF => rule_01 W g s p.size dN _ T V (A.h34 g s hs) j hj hr hs hF (by omega) (by omega)))
  by_cases ht : tail.size < 1
  · exact law9_010 p tail dN wk mo sg h m sec fm _ _ w ⟨(Num.utoa dN).toArray⟩ (utoa_b dN (by omega)) (fun w => utoa_any w dN (by omega)) T V A.h23 A.h24 A.h25 rfl rfl hLL hsz (by omega) (by omega) ht H30
  · obtain ⟨t1, t2, t3, t4⟩ := tail_cases tail hT (by omega)
    exact law9_011 p tail dN wk mo sg h m sec fm _ _ w ⟨(Num.utoa dN).toArray⟩ (utoa_b dN (by omega)) (fun w => utoa_any w dN (by omega)) T V A.h23 A.h24 A.h25 rfl rfl hLL hsz (by omega) (by omega) (by omega) t1 t2 t3 t4 H30

theorem r9_10 (p tail : ByteArray) (d wk mo sg h m sec fm : Int) (w : World) (hsz : p.size + tail.size ≤ 1048576) (k1 : 1 ≤ mo) (k2 : mo ≤ 12) (k3 : 1 ≤ wk) (k4 : wk ≤ 5) (k5 : 0 ≤ d) (k6 : d ≤ 6) (hT : TailOk tail.data.toList) :
    Calls Try.prog 9 #[.string p, .int .i64 1, .int .i64 d, .int .i64 wk, .int .i64 mo, .bool false, .int .i64 sg, .int .i64 h, .int .i64 m, .int .i64 sec, .int .i64 fm, .string tail] w fun e w' => e = .returned (.bool true) ∧ Below w.heap.size w w' := by
  obtain ⟨dN, rfl⟩ := Int.eq_ofNat_of_zero_le (show 0 ≤ d by omega)
  obtain ⟨moN, rfl⟩ := Int.eq_ofNat_of_zero_le (show 0 ≤ mo by omega)
  obtain ⟨wkN, rfl⟩ := Int.eq_ofNat_of_zero_le (show 0 ≤ wk by omega)
  have hRl : (([77] ++ (padded 0 moN ++ ([46] ++ (padded 0 wkN ++ ([46] ++ (padded 0 dN))))))).length ≤ 1100 := by
    have l_d := padded_len 0 dN (by omega); have l_mo := padded_len 0 moN (by omega); have l_wk := padded_len 0 wkN (by omega)
    first | omega | (simp only [List.length_append, List.length_cons, List.length_nil]; omega)
  have H30 := (h30_of p tail ([77] ++ (padded 0 moN ++ ([46] ++ (padded 0 wkN ++ ([46] ++ (padded 0 dN)))))) (p.data.toList ++ [77] ++ (Num.utoa moN) ++ [46] ++ (Num.utoa wkN) ++ [46] ++ (Num.utoa dN)) (by simp [padded, List.append_assoc]) (by omega) 77 dN wkN moN 7200 (fun W g s j hj hr hs hF => rule_10 W g s p.size dN moN wkN _ hT.nd hT.n47 j hj hr hs hF (by omega) (by omega) (by omega) (by omega) (by omega)))
  by_cases ht : tail.size < 1
  · exact law9_100 p tail dN wkN moN sg h m sec fm _ _ w ⟨(Num.utoa dN).toArray⟩ (utoa_b dN (by omega)) (fun w => utoa_any w dN (by omega)) ⟨(Num.utoa moN).toArray⟩ (utoa_b moN (by omega)) (fun w => utoa_any w moN (by omega)) ⟨(Num.utoa wkN).toArray⟩ (utoa_b wkN (by omega)) (fun w => utoa_any w wkN (by omega)) rfl rfl hsz (by omega) (by omega) (by omega) (by omega) (by omega) (by omega) ht H30
  · obtain ⟨t1, t2, t3, t4⟩ := tail_cases tail hT (by omega)
    exact law9_101 p tail dN wkN moN sg h m sec fm _ _ w ⟨(Num.utoa dN).toArray⟩ (utoa_b dN (by omega)) (fun w => utoa_any w dN (by omega)) ⟨(Num.utoa moN).toArray⟩ (utoa_b moN (by omega)) (fun w => utoa_any w moN (by omega)) ⟨(Num.utoa wkN).toArray⟩ (utoa_b wkN (by omega)) (fun w => utoa_any w wkN (by omega)) rfl rfl hsz (by omega) (by omega) (by omega) (by omega) (by omega) (by omega) (by omega) t1 t2 t3 t4 H30

theorem r9_11 (p tail : ByteArray) (d wk mo sg h m sec fm : Int) (w : World) (hsz : p.size + tail.size ≤ 1048576) (k1 : 1 ≤ mo) (k2 : mo ≤ 12) (k3 : 1 ≤ wk) (k4 : wk ≤ 5) (k5 : 0 ≤ d) (k6 : d ≤ 6) (hT : TailOk tail.data.toList) (hk : OffOk sg h m sec fm) :
    Calls Try.prog 9 #[.string p, .int .i64 1, .int .i64 d, .int .i64 wk, .int .i64 mo, .bool true, .int .i64 sg, .int .i64 h, .int .i64 m, .int .i64 sec, .int .i64 fm, .string tail] w fun e w' => e = .returned (.bool true) ∧ Below w.heap.size w w' := by
  obtain ⟨dN, rfl⟩ := Int.eq_ofNat_of_zero_le (show 0 ≤ d by omega)
  obtain ⟨moN, rfl⟩ := Int.eq_ofNat_of_zero_le (show 0 ≤ mo by omega)
  obtain ⟨wkN, rfl⟩ := Int.eq_ofNat_of_zero_le (show 0 ≤ wk by omega)
  obtain ⟨T, V, A⟩ := at_ok sg h m sec fm tail.data.toList hT.nd hT.n58 hk
  have hTl := A.len
  have hRl : (([77] ++ (padded 0 moN ++ ([46] ++ (padded 0 wkN ++ ([46] ++ (padded 0 dN ++ ([47] ++ (T))))))))).length ≤ 1100 := by
    have l_d := padded_len 0 dN (by omega); have l_mo := padded_len 0 moN (by omega); have l_wk := padded_len 0 wkN (by omega)
    first | omega | (simp only [List.length_append, List.length_cons, List.length_nil]; omega)
  have hLL : (p.data.toList ++ [77] ++ (Num.utoa moN) ++ [46] ++ (Num.utoa wkN) ++ [46] ++ (Num.utoa dN) ++ [47] ++ T).length ≤ 2097152 := by
    have e1 : (p.data.toList ++ [77] ++ (Num.utoa moN) ++ [46] ++ (Num.utoa wkN) ++ [46] ++ (Num.utoa dN) ++ [47] ++ T).length = p.size + (([77] ++ (padded 0 moN ++ ([46] ++ (padded 0 wkN ++ ([46] ++ (padded 0 dN ++ ([47] ++ (T))))))))).length := by
      rw [show p.data.toList ++ [77] ++ (Num.utoa moN) ++ [46] ++ (Num.utoa wkN) ++ [46] ++ (Num.utoa dN) ++ [47] ++ T = p.data.toList ++ ([77] ++ (padded 0 moN ++ ([46] ++ (padded 0 wkN ++ ([46] ++ (padded 0 dN ++ ([47] ++ (T)))))))) by simp [padded, List.append_assoc], List.length_append, ← Lib.size_eq]
    omega
  have H30 := (h30_of p tail ([77] ++ (padded 0 moN ++ ([46] ++ (padded 0 wkN ++ ([46] ++ (padded 0 dN ++ ([47] ++ (T)))))))) (p.data.toList ++ [77] ++ (Num.utoa moN) ++ [46] ++ (Num.utoa wkN) ++ [46] ++ (Num.utoa dN) ++ [47] ++ T) (by simp [padded, List.append_assoc]) (by omega) 77 dN wkN moN V (fun W g s j hj hr hs hF => rule_11 W g s p.size dN moN wkN _ T V (A.h34 g s hs) j hj hr hs hF (by omega) (by omega) (by omega) (by omega) (by omega)))
  by_cases ht : tail.size < 1
  · exact law9_110 p tail dN wkN moN sg h m sec fm _ _ w ⟨(Num.utoa dN).toArray⟩ (utoa_b dN (by omega)) (fun w => utoa_any w dN (by omega)) ⟨(Num.utoa moN).toArray⟩ (utoa_b moN (by omega)) (fun w => utoa_any w moN (by omega)) ⟨(Num.utoa wkN).toArray⟩ (utoa_b wkN (by omega)) (fun w => utoa_any w wkN (by omega)) T V A.h23 A.h24 A.h25 rfl rfl hLL hsz (by omega) (by omega) (by omega) (by omega) (by omega) (by omega) ht H30
  · obtain ⟨t1, t2, t3, t4⟩ := tail_cases tail hT (by omega)
    exact law9_111 p tail dN wkN moN sg h m sec fm _ _ w ⟨(Num.utoa dN).toArray⟩ (utoa_b dN (by omega)) (fun w => utoa_any w dN (by omega)) ⟨(Num.utoa moN).toArray⟩ (utoa_b moN (by omega)) (fun w => utoa_any w moN (by omega)) ⟨(Num.utoa wkN).toArray⟩ (utoa_b wkN (by omega)) (fun w => utoa_any w wkN (by omega)) T V A.h23 A.h24 A.h25 rfl rfl hLL hsz (by omega) (by omega) (by omega) (by omega) (by omega) (by omega) (by omega) t1 t2 t3 t4 H30

theorem r9_20 (p tail : ByteArray) (d wk mo sg h m sec fm : Int) (w : World) (hsz : p.size + tail.size ≤ 1048576) (k1 : 0 ≤ d) (k2 : d ≤ 365) (hT : TailOk tail.data.toList) :
    Calls Try.prog 9 #[.string p, .int .i64 2, .int .i64 d, .int .i64 wk, .int .i64 mo, .bool false, .int .i64 sg, .int .i64 h, .int .i64 m, .int .i64 sec, .int .i64 fm, .string tail] w fun e w' => e = .returned (.bool true) ∧ Below w.heap.size w w' := by
  obtain ⟨dN, rfl⟩ := Int.eq_ofNat_of_zero_le (show 0 ≤ d by omega)
  have hRl : ((padded 0 dN)).length ≤ 1100 := by
    have l_d := padded_len 0 dN (by omega)
    first | omega | (simp only [List.length_append, List.length_cons, List.length_nil]; omega)
  have H30 := (h30_of p tail (padded 0 dN) (p.data.toList ++ (Num.utoa dN)) (by simp [padded, List.append_assoc]) (by omega) 0 dN 0 0 7200 (fun W g s j hj hr hs hF => rule_20 W g s p.size dN _ hT.nd hT.n47 j hj hr hs hF (by omega)))
  by_cases ht : tail.size < 1
  · exact law9_200 p tail dN wk mo sg h m sec fm _ _ w ⟨(Num.utoa dN).toArray⟩ (utoa_b dN (by omega)) (fun w => utoa_any w dN (by omega)) rfl rfl hsz (by omega) (by omega) ht H30
  · obtain ⟨t1, t2, t3, t4⟩ := tail_cases tail hT (by omega)
    exact law9_201 p tail dN wk mo sg h m sec fm _ _ w ⟨(Num.utoa dN).toArray⟩ (utoa_b dN (by omega)) (fun w => utoa_any w dN (by omega)) rfl rfl hsz (by omega) (by omega) (by omega) t1 t2 t3 t4 H30

theorem r9_21 (p tail : ByteArray) (d wk mo sg h m sec fm : Int) (w : World) (hsz : p.size + tail.size ≤ 1048576) (k1 : 0 ≤ d) (k2 : d ≤ 365) (hT : TailOk tail.data.toList) (hk : OffOk sg h m sec fm) :
    Calls Try.prog 9 #[.string p, .int .i64 2, .int .i64 d, .int .i64 wk, .int .i64 mo, .bool true, .int .i64 sg, .int .i64 h, .int .i64 m, .int .i64 sec, .int .i64 fm, .string tail] w fun e w' => e = .returned (.bool true) ∧ Below w.heap.size w w' := by
  obtain ⟨dN, rfl⟩ := Int.eq_ofNat_of_zero_le (show 0 ≤ d by omega)
  obtain ⟨T, V, A⟩ := at_ok sg h m sec fm tail.data.toList hT.nd hT.n58 hk
  have hTl := A.len
  have hRl : ((padded 0 dN ++ ([47] ++ (T)))).length ≤ 1100 := by
    have l_d := padded_len 0 dN (by omega)
    first | omega | (simp only [List.length_append, List.length_cons, List.length_nil]; omega)
  have hLL : (p.data.toList ++ (Num.utoa dN) ++ [47] ++ T).length ≤ 2097152 := by
    have e1 : (p.data.toList ++ (Num.utoa dN) ++ [47] ++ T).length = p.size + ((padded 0 dN ++ ([47] ++ (T)))).length := by
      rw [show p.data.toList ++ (Num.utoa dN) ++ [47] ++ T = p.data.toList ++ (padded 0 dN ++ ([47] ++ (T))) by simp [padded, List.append_assoc], List.length_append, ← Lib.size_eq]
    omega
  have H30 := (h30_of p tail (padded 0 dN ++ ([47] ++ (T))) (p.data.toList ++ (Num.utoa dN) ++ [47] ++ T) (by simp [padded, List.append_assoc]) (by omega) 0 dN 0 0 V (fun W g s j hj hr hs hF => rule_21 W g s p.size dN _ T V (A.h34 g s hs) j hj hr hs hF (by omega)))
  by_cases ht : tail.size < 1
  · exact law9_210 p tail dN wk mo sg h m sec fm _ _ w ⟨(Num.utoa dN).toArray⟩ (utoa_b dN (by omega)) (fun w => utoa_any w dN (by omega)) T V A.h23 A.h24 A.h25 rfl rfl hLL hsz (by omega) (by omega) ht H30
  · obtain ⟨t1, t2, t3, t4⟩ := tail_cases tail hT (by omega)
    exact law9_211 p tail dN wk mo sg h m sec fm _ _ w ⟨(Num.utoa dN).toArray⟩ (utoa_b dN (by omega)) (fun w => utoa_any w dN (by omega)) T V A.h23 A.h24 A.h25 rfl rfl hLL hsz (by omega) (by omega) (by omega) t1 t2 t3 t4 H30
end Go.Proofs.Qxb6600050a
