/-
  The walk of ipv4Numbers (29), IsDigit (32), lawIsDigit (16).
-/
import Derived.Test.Qxb6000758aProg
import Derived.WalkKit
import Derived.WalkSpells
import Derived.WalkLawsBesides
import Derived.Deep.LoopGhost
import Derived.Lib.IndexBytes
import Derived.Test.Qxb6000758aIpPlain
namespace Go.Proofs.Qxb6000758a
open Go.RowKit

def digB (c : Int) : Bool := decide (48 ≤ c ∧ c ≤ 57)

theorem ret_bool {a b : Bool} (h : a = b) : Ending.returned (.bool a) = .returned (.bool b) := by rw [h]

theorem isDigit_any (c : Int) (w : World) :
    Calls Try.prog 32 #[.int .u8 c] w fun e w' => e = .returned (.bool (digB c)) ∧ w' = w := by
  by_cases h1 : 48 ≤ c
  · by_cases h2 : c ≤ 57
    · go_enter Try.func32, Try.ntmps32
      go_wp2
      go_ret
      exact ⟨ret_bool (by simp [digB, h1, h2]), rfl⟩
    · go_enter Try.func32, Try.ntmps32
      go_wp2
      go_ret
      exact ⟨ret_bool (by simp [digB]; omega), rfl⟩
  · go_enter Try.func32, Try.ntmps32
    go_wp2
    go_ret
    exact ⟨ret_bool (by simp [digB]; omega), rfl⟩

theorem lawIsDigit_any (c : Int) (w : World) :
    Calls Try.prog 16 #[.int .u8 c] w fun e w' => e = .returned (.bool (digB c)) ∧ w' = w := by
  by_cases h1 : 48 ≤ c
  · by_cases h2 : c ≤ 57
    · go_enter Try.func16, Try.ntmps16
      go_wp2
      go_ret
      exact ⟨ret_bool (by simp [digB, h1, h2]), rfl⟩
    · go_enter Try.func16, Try.ntmps16
      go_wp2
      go_ret
      exact ⟨ret_bool (by simp [digB]; omega), rfl⟩
  · go_enter Try.func16, Try.ntmps16
    go_wp2
    go_ret
    exact ⟨ret_bool (by simp [digB]; omega), rfl⟩

theorem isD_digB (c : UInt8) : Ip.isD c = digB (c.toNat : Int) := by
  unfold Ip.isD digB
  rw [Bool.eq_iff_iff]; simp; omega

/-- The list of a string's bytes from k on. -/
theorem drop_cons (s : ByteArray) (k : Nat) (h : k < s.size) : s.data.toList.drop k = s[k] :: s.data.toList.drop (k + 1) := by
  rw [List.drop_eq_getElem_cons (by simpa using h)]; rfl
theorem drop_end (s : ByteArray) (k : Nat) (h : s.size ≤ k) : s.data.toList.drop k = [] :=
  List.drop_eq_nil_of_le (by simpa using h)

def Ip.cellsOf (acc : List Nat) : Array Value := #[.int .u8 (acc.getD 0 0 : Nat), .int .u8 (acc.getD 1 0 : Nat), .int .u8 (acc.getD 2 0 : Nat), .int .u8 (acc.getD 3 0 : Nat)]
def Ip.ansOf (R : Option (List Nat × Bool)) : Value := .tuple #[.agg (Ip.cellsOf (Ip.nums R)), .int .i64 ((Ip.nums R).length : Nat), .bool (Ip.dot R)]

/-- What the scan comes to, from place k on, with the value v so far. -/
def Ip.At (s : ByteArray) (k v : Nat) : Prop := Ip.scan s.data.toList 0 = (k + (Ip.scan (s.data.toList.drop k) v).1, (Ip.scan (s.data.toList.drop k) v).2)

theorem Ip.At_start (s : ByteArray) : Ip.At s 0 0 := by simp [Ip.At]
theorem Ip.At_step (s : ByteArray) (k v : Nat) (h : Ip.At s k v) (hk : k < s.size) (hd : digB (s[k].toNat : Int) = true) (hv : v ≤ 255) : Ip.At s (k + 1) (10 * v + (s[k].toNat - 48)) := by
  unfold Ip.At at *
  rw [h, drop_cons s k hk, Ip.scan, if_pos ⟨by rw [isD_digB]; exact hd, hv⟩]
  simp only [Prod.mk.injEq, and_true]; omega
theorem Ip.At_end (s : ByteArray) (k v : Nat) (h : Ip.At s k v) (he : s.size ≤ k ∨ (∃ hk : k < s.size, digB (s[k].toNat : Int) = false) ∨ 255 < v) : Ip.scan s.data.toList 0 = (k, v) := by
  unfold Ip.At at h
  rw [h]
  have : Ip.scan (s.data.toList.drop k) v = (0, v) := by
    by_cases hk : k < s.size
    · rw [drop_cons s k hk, Ip.scan, if_neg]
      intro ⟨h1, h2⟩
      rcases he with he | ⟨_, he⟩ | he
      · omega
      · rw [isD_digB, he] at h1; cases h1
      · omega
    · rw [drop_end s k (by omega)]; rfl
  rw [this]; rfl

theorem dig_bd {c : UInt8} (h : digB (c.toNat : Int) = true) : 48 ≤ c.toNat ∧ c.toNat ≤ 57 := by
  unfold digB at h; simp at h; omega


theorem Ip.rd_nil (n : Nat) (l : ByteArray) (acc : List Nat) (hn : l.size < n) (h : l.size = 0) : Ip.rd n l.data.toList acc = some (acc, !acc.isEmpty) := by
  obtain ⟨m, rfl⟩ : ∃ m, n = m + 1 := ⟨n - 1, by omega⟩
  have : l.data.toList = [] := by
    rw [Lib.size_eq] at h; exact List.eq_nil_of_length_eq_zero h
  rw [this]; rfl
theorem Ip.ne_nil (l : ByteArray) (h : ¬ l.size = 0) : ∃ c t, l.data.toList = c :: t := by
  rw [Lib.size_eq] at h
  cases hl : l.data.toList with
  | nil => rw [hl] at h; simp at h
  | cons c t => exact ⟨c, t, rfl⟩
theorem Ip.rd_four (n : Nat) (l : ByteArray) (acc : List Nat) (hn : l.size < n) (h : ¬ l.size = 0) (h4 : acc.length = 4) : Ip.rd n l.data.toList acc = none := by
  obtain ⟨m, rfl⟩ : ∃ m, n = m + 1 := ⟨n - 1, by omega⟩
  obtain ⟨c, t, e⟩ := Ip.ne_nil l h
  rw [e, Ip.rd, if_pos h4]
theorem Ip.rd_bad (n : Nat) (l : ByteArray) (acc : List Nat) (hn : l.size < n) (h : ¬ l.size = 0) (h4 : acc.length < 4) (k v : Nat) (hs : Ip.scan l.data.toList 0 = (k, v)) (hb : k = 0 ∨ 255 < v) : Ip.rd n l.data.toList acc = none := by
  obtain ⟨m, rfl⟩ : ∃ m, n = m + 1 := ⟨n - 1, by omega⟩
  obtain ⟨c, t, e⟩ := Ip.ne_nil l h
  rw [e] at hs ⊢
  rw [Ip.rd, if_neg (by omega), hs, if_pos hb]
theorem Ip.rd_last (n : Nat) (l : ByteArray) (acc : List Nat) (hn : l.size < n) (h : ¬ l.size = 0) (h4 : acc.length < 4) (k v : Nat) (hs : Ip.scan l.data.toList 0 = (k, v)) (hk : ¬ k = 0) (hv : v ≤ 255) (he : l.size ≤ k) : Ip.rd n l.data.toList acc = some (acc ++ [v], false) := by
  obtain ⟨m, rfl⟩ : ∃ m, n = m + 1 := ⟨n - 1, by omega⟩
  obtain ⟨c, t, e⟩ := Ip.ne_nil l h
  have hd := drop_end l k he
  rw [e] at hs hd ⊢
  rw [Ip.rd, if_neg (by omega), hs, if_neg (by omega)]
  simp only [hd]
theorem Ip.rd_stop (n : Nat) (l : ByteArray) (acc : List Nat) (hn : l.size < n) (h : ¬ l.size = 0) (h4 : acc.length < 4) (k v : Nat) (hs : Ip.scan l.data.toList 0 = (k, v)) (hk : ¬ k = 0) (hv : v ≤ 255) (he : k < l.size) (hc : ¬ (l[k].toNat : Int) = 46) : Ip.rd n l.data.toList acc = none := by
  obtain ⟨m, rfl⟩ : ∃ m, n = m + 1 := ⟨n - 1, by omega⟩
  obtain ⟨c, t, e⟩ := Ip.ne_nil l h
  have hd := drop_cons l k he
  rw [e] at hs hd ⊢
  rw [Ip.rd, if_neg (by omega), hs, if_neg (by omega)]
  simp only [hd]
  rw [if_neg]
  intro h; rw [h] at hc; exact hc rfl
theorem Ip.rd_go (n : Nat) (l : ByteArray) (acc : List Nat) (hn : l.size < n) (h : ¬ l.size = 0) (h4 : acc.length < 4) (k v : Nat) (hs : Ip.scan l.data.toList 0 = (k, v)) (hk : ¬ k = 0) (hv : v ≤ 255) (he : k < l.size) (hc : (l[k].toNat : Int) = 46) : Ip.rd n l.data.toList acc = Ip.rd (n - 1) (l.data.toList.drop (k + 1)) (acc ++ [v]) := by
  obtain ⟨m, rfl⟩ : ∃ m, n = m + 1 := ⟨n - 1, by omega⟩
  obtain ⟨c, t, e⟩ := Ip.ne_nil l h
  have hd := drop_cons l k he
  rw [e] at hs hd ⊢
  rw [Ip.rd, if_neg (by omega), hs, if_neg (by omega)]
  simp only [hd]
  rw [if_pos]
  · rfl
  · apply UInt8.toNat_inj.1; simp; omega

theorem empty_of_size {l : ByteArray} (h : l.size = 0) : l.toList.isEmpty = true := by
  rw [ByteArray.toList_eq]
  rw [Lib.size_eq] at h; rw [List.eq_nil_of_length_eq_zero h]; rfl
theorem nonempty_of_size {l : ByteArray} (h : ¬ l.size = 0) : l.toList.isEmpty = false := by
  rw [ByteArray.toList_eq]
  obtain ⟨c, t, e⟩ := Ip.ne_nil l h; rw [e]; rfl

theorem Ip.set_snoc (acc : List Nat) (v : Nat) (h : acc.length < 4) :
    ([Value.int IntKind.u8 ((acc[0]?.getD 0 : Nat) : Int), Value.int IntKind.u8 ((acc[1]?.getD 0 : Nat) : Int), Value.int IntKind.u8 ((acc[2]?.getD 0 : Nat) : Int), Value.int IntKind.u8 ((acc[3]?.getD 0 : Nat) : Int)].set acc.length (Value.int IntKind.u8 (v : Int))).toArray
      = #[.int .u8 ((acc ++ [v]).getD 0 0 : Nat), .int .u8 ((acc ++ [v]).getD 1 0 : Nat), .int .u8 ((acc ++ [v]).getD 2 0 : Nat), .int .u8 ((acc ++ [v]).getD 3 0 : Nat)] := by
  rcases acc with _ | ⟨a, _ | ⟨b, _ | ⟨c, _ | ⟨d, t⟩⟩⟩⟩
  · rfl
  · rfl
  · rfl
  · rfl
  · simp at h; omega

theorem ex0 (l : ByteArray) (k : Nat) (h : k < l.size) (h' : 0 < (l.extract k l.size).size) : (l.extract k l.size)[0] = l[k] := by
  have e := Lib.extract_to_end l k
  rw [drop_cons l k h] at e
  have e2 := Lib.data_getElem? (l.extract k l.size) 0 h'
  rw [e] at e2
  simpa using e2.symm
theorem ex1 (l : ByteArray) (k : Nat) : ((l.extract k l.size).extract 1 (l.size - k)).data.toList = l.data.toList.drop (k + 1) := by
  rw [Lib.extract_data, Lib.extract_to_end, List.drop_drop, List.take_of_length_le]
  rw [List.length_drop, ← Lib.size_eq]; omega

set_option maxHeartbeats 1000000 in
theorem ipv4_any (s : ByteArray) (w : World) (hs : s.size ≤ maxLen) (R : Option (List Nat × Bool)) (hR : Hid (Ip.rd (s.size + 1) s.data.toList [] = R)) :
    Calls Try.prog 29 #[.string s] w fun e w' => e = .returned (Ip.ansOf R) ∧ Below w.heap.size w w' := by
  unfold maxLen at hs
  go_enter Try.func29, Try.ntmps29
  go_wp2
  go_loopg [0, 3] (s.size + 1) (fun n sv cv wr => ∃ (l : ByteArray) (acc : List Nat), acc.length ≤ 4 ∧ l.size ≤ s.size ∧ l.size < n ∧ sv = .string l ∧ cv = .int .i64 acc.length ∧ wr = w.alloc (.cells #[.int .u8 (acc.getD 0 0 : Nat), .int .u8 (acc.getD 1 0 : Nat), .int .u8 (acc.getD 2 0 : Nat), .int .u8 (acc.getD 3 0 : Nat)] 22) ∧ Hid (Ip.rd n l.data.toList acc = R))
  case atStart => exact ⟨s, [], by simp, Nat.le_refl _, by omega, rfl, rfl, rfl, hR⟩
  case round =>
    obtain ⟨l, acc, hacc, hl, hn, rfl, rfl, rfl, hrd⟩ := hrel
    clear hR
    by_cases hz : l.size = 0
    · have HA := hrd.out
      rw [Ip.rd_nil gk l acc hn hz] at HA
      have HR : Hid (R = some (acc, !acc.isEmpty)) := HA.symm
      clear HA hrd
      have he := empty_of_size hz
      rcases acc with _ | ⟨a, acc⟩
      · go_wp2
        exact bodyPost_ret (v := .tuple #[.agg #[.int .u8 0, .int .u8 0, .int .u8 0, .int .u8 0], .int .i64 0, .bool false]) (by simp [results, Try.results29, go_sem]) rfl ⟨by rw [HR.out]; rfl, (Below.refl _ _).alloc (Nat.le_refl _) _⟩
      · go_wp2
        refine bodyPost_ret (v := .tuple #[.agg #[.int .u8 (a : Nat), .int .u8 (acc[0]?.getD 0 : Nat), .int .u8 (acc[1]?.getD 0 : Nat), .int .u8 (acc[2]?.getD 0 : Nat)], .int .i64 ((a :: acc).length : Nat), .bool true]) (by simp [results, Try.results29, go_sem]) rfl ⟨?_, (Below.refl _ _).alloc (Nat.le_refl _) _⟩
        rw [HR.out]; simp [Ip.ansOf, Ip.nums, Ip.dot, Ip.cellsOf]
    · have he := nonempty_of_size hz
      by_cases h4 : acc.length = 4
      · have HA := hrd.out
        rw [Ip.rd_four gk l acc hn hz h4] at HA
        have HR : Hid (R = none) := HA.symm
        clear HA hrd
        go_wp2
        exact bodyPost_ret (v := .tuple #[.agg #[.int .u8 0, .int .u8 0, .int .u8 0, .int .u8 0], .int .i64 0, .bool false]) (by simp [results, Try.results29, go_sem]) rfl ⟨by rw [HR.out]; rfl, (Below.refl _ _).alloc (Nat.le_refl _) _⟩
      · have h4' : acc.length < 4 := by omega
        have h4b : ((acc.length : Int) == 4) = false := by simp; omega
        clear h4
        go_wp2
        go_loopg [5, 6] (l.size) (fun n ev vv wr => ∃ k v : Nat, n = l.size - k ∧ k ≤ l.size ∧ v ≤ 2559 ∧ ev = .int .i64 k ∧ vv = .int .i64 v ∧ wr = w.alloc (.cells #[.int .u8 (acc[0]?.getD 0 : Nat), .int .u8 (acc[1]?.getD 0 : Nat), .int .u8 (acc[2]?.getD 0 : Nat), .int .u8 (acc[3]?.getD 0 : Nat)] 22) ∧ Hid (Ip.At l k v))
        case atStart => exact ⟨0, 0, by omega, by omega, by omega, rfl, rfl, rfl, Ip.At_start l⟩
        case round =>
          rename Nat => gi
          obtain ⟨k, v, hgi, hk, hv, rfl, rfl, rfl, hat⟩ := hrel
          subst hgi
          by_cases hkl : k < l.size
          · cases hd : digB (l[k].toNat : Int)
            · have hsc := Ip.At_end l k v hat.out (.inr (.inl ⟨hkl, hd⟩))
              clear hat
              by_cases hbad : k = 0 ∨ 255 < v
              · have HR : Hid (R = none) := hrd.out.symm.trans (Ip.rd_bad gk l acc hn hz h4' k v hsc hbad)
                clear hsc hrd
                have hsp : k = 0 ∨ (¬ k = 0 ∧ 255 < v) := by omega
                clear hbad
                rcases hsp with rfl | ⟨h0, hv2⟩
                all_goals
                  go_wp2_with (go_at_call 32; refine (isDigit_any _ _).mono ?_; rintro e w' ⟨rfl, rfl⟩)
                  exact bodyPost_ret (v := .tuple #[.agg #[.int .u8 0, .int .u8 0, .int .u8 0, .int .u8 0], .int .i64 0, .bool false]) (by simp [results, Try.results29, go_sem]) rfl ⟨by rw [HR.out]; rfl, (Below.refl _ _).alloc (Nat.le_refl _) _⟩
              · have h0 : ¬ k = 0 := by omega
                have hv2 : v ≤ 255 := by omega
                clear hbad
                have hne : (l.extract k l.size).toList.isEmpty = false := nonempty_of_size (by simp; omega)
                have h0s : 0 < l.size - k := by omega
                have hk0 : ((k : Int) == 0) = false := by simp; omega
                by_cases hdot : (l[k].toNat : Int) = 46
                · have HR := hrd.out.symm.trans (Ip.rd_go gk l acc hn hz h4' k v hsc h0 hv2 hkl hdot)
                  have HH : Hid (Ip.rd (gk - 1) (l.data.toList.drop (k + 1)) (acc ++ [v]) = R) := HR.symm
                  clear HR hsc hrd
                  have hx := ex0 l k hkl (by simp; omega)
                  have hx2 : (((l.extract k l.size)[0]'(by simp; omega)).toNat : Int) = 46 := by rw [hx]; exact hdot
                  clear hx hdot
                  go_wp2_with (go_at_call 32; refine (isDigit_any _ _).mono ?_; rintro e w' ⟨rfl, rfl⟩)
                  go_roundg (gk - 1)
                  case rel => exact ⟨_, acc ++ [v], by simp; omega, by simp; omega, by simp; omega, rfl, by simp, by rw [Ip.set_snoc acc v h4'], by rw [ex1]; exact HH⟩
                  case measure => omega
                · have HR : Hid (R = none) := hrd.out.symm.trans (Ip.rd_stop gk l acc hn hz h4' k v hsc h0 hv2 hkl hdot)
                  clear hsc hrd
                  have hx := ex0 l k hkl (by simp; omega)
                  have hx2 : ¬ (((l.extract k l.size)[0]'(by simp; omega)).toNat : Int) = 46 := by rw [hx]; exact hdot
                  clear hx hdot
                  go_wp2_with (go_at_call 32; refine (isDigit_any _ _).mono ?_; rintro e w' ⟨rfl, rfl⟩)
                  rcases acc with _ | ⟨a, _ | ⟨b, _ | ⟨c, _ | ⟨d, t⟩⟩⟩⟩
                  · exact bodyPost_ret (v := .tuple #[.agg #[.int .u8 0, .int .u8 0, .int .u8 0, .int .u8 0], .int .i64 0, .bool false]) (by simp [results, Try.results29, go_sem]) rfl ⟨by rw [HR.out]; rfl, (Below.refl _ _).alloc (Nat.le_refl _) _⟩
                  · exact bodyPost_ret (v := .tuple #[.agg #[.int .u8 0, .int .u8 0, .int .u8 0, .int .u8 0], .int .i64 0, .bool false]) (by simp [results, Try.results29, go_sem]) rfl ⟨by rw [HR.out]; rfl, (Below.refl _ _).alloc (Nat.le_refl _) _⟩
                  · exact bodyPost_ret (v := .tuple #[.agg #[.int .u8 0, .int .u8 0, .int .u8 0, .int .u8 0], .int .i64 0, .bool false]) (by simp [results, Try.results29, go_sem]) rfl ⟨by rw [HR.out]; rfl, (Below.refl _ _).alloc (Nat.le_refl _) _⟩
                  · exact bodyPost_ret (v := .tuple #[.agg #[.int .u8 0, .int .u8 0, .int .u8 0, .int .u8 0], .int .i64 0, .bool false]) (by simp [results, Try.results29, go_sem]) rfl ⟨by rw [HR.out]; rfl, (Below.refl _ _).alloc (Nat.le_refl _) _⟩
                  · simp at h4'; omega
            · have hb := dig_bd hd
              by_cases hv2 : v ≤ 255
              · have hat2 : Hid (Ip.At l (k + 1) (10 * v + (l[k].toNat - 48))) := Ip.At_step l k v hat.out hkl hd hv2
                go_wp2_with (go_at_call 32; refine (isDigit_any _ _).mono ?_; rintro e w' ⟨rfl, rfl⟩)
                go_roundg (l.size - (k + 1))
                case rel => exact ⟨k + 1, 10 * v + (l[k].toNat - 48), rfl, by omega, by omega, by go_num, by go_num, rfl, hat2⟩
                case measure => omega
              · have hsc := Ip.At_end l k v hat.out (.inr (.inr (by omega)))
                have HR : Hid (R = none) := hrd.out.symm.trans (Ip.rd_bad gk l acc hn hz h4' k v hsc (.inr (by omega)))
                clear hsc hrd hat
                by_cases h0 : k = 0
                · subst h0
                  go_wp2_with (go_at_call 32; refine (isDigit_any _ _).mono ?_; rintro e w' ⟨rfl, rfl⟩)
                  exact bodyPost_ret (v := .tuple #[.agg #[.int .u8 0, .int .u8 0, .int .u8 0, .int .u8 0], .int .i64 0, .bool false]) (by simp [results, Try.results29, go_sem]) rfl ⟨by rw [HR.out]; rfl, (Below.refl _ _).alloc (Nat.le_refl _) _⟩
                · go_wp2_with (go_at_call 32; refine (isDigit_any _ _).mono ?_; rintro e w' ⟨rfl, rfl⟩)
                  exact bodyPost_ret (v := .tuple #[.agg #[.int .u8 0, .int .u8 0, .int .u8 0, .int .u8 0], .int .i64 0, .bool false]) (by simp [results, Try.results29, go_sem]) rfl ⟨by rw [HR.out]; rfl, (Below.refl _ _).alloc (Nat.le_refl _) _⟩
          · have hsc := Ip.At_end l k v hat.out (.inl (by omega))
            clear hat
            have h0 : ¬ k = 0 := by omega
            have hk0 : ((k : Int) == 0) = false := by simp; omega
            have hemp : (l.extract k l.size).toList.isEmpty = true := empty_of_size (by simp; omega)
            by_cases hv2 : v ≤ 255
            · have HR : Hid (R = some (acc ++ [v], false)) := hrd.out.symm.trans (Ip.rd_last gk l acc hn hz h4' k v hsc h0 hv2 (by omega))
              clear hsc hrd
              rcases acc with _ | ⟨a, _ | ⟨b, _ | ⟨c, _ | ⟨d, t⟩⟩⟩⟩
              · go_wp2_with (go_at_call 32; refine (isDigit_any _ _).mono ?_; rintro e w' ⟨rfl, rfl⟩)
                exact bodyPost_ret (v := .tuple #[.agg #[.int .u8 v, .int .u8 0, .int .u8 0, .int .u8 0], .int .i64 1, .bool false]) (by simp [results, Try.results29, go_sem]) rfl ⟨by rw [HR.out]; rfl, (Below.refl _ _).alloc (Nat.le_refl _) _⟩
              · go_wp2_with (go_at_call 32; refine (isDigit_any _ _).mono ?_; rintro e w' ⟨rfl, rfl⟩)
                exact bodyPost_ret (v := .tuple #[.agg #[.int .u8 a, .int .u8 v, .int .u8 0, .int .u8 0], .int .i64 2, .bool false]) (by simp [results, Try.results29, go_sem]) rfl ⟨by rw [HR.out]; rfl, (Below.refl _ _).alloc (Nat.le_refl _) _⟩
              · go_wp2_with (go_at_call 32; refine (isDigit_any _ _).mono ?_; rintro e w' ⟨rfl, rfl⟩)
                exact bodyPost_ret (v := .tuple #[.agg #[.int .u8 a, .int .u8 b, .int .u8 v, .int .u8 0], .int .i64 3, .bool false]) (by simp [results, Try.results29, go_sem]) rfl ⟨by rw [HR.out]; rfl, (Below.refl _ _).alloc (Nat.le_refl _) _⟩
              · go_wp2_with (go_at_call 32; refine (isDigit_any _ _).mono ?_; rintro e w' ⟨rfl, rfl⟩)
                exact bodyPost_ret (v := .tuple #[.agg #[.int .u8 a, .int .u8 b, .int .u8 c, .int .u8 v], .int .i64 4, .bool false]) (by simp [results, Try.results29, go_sem]) rfl ⟨by rw [HR.out]; rfl, (Below.refl _ _).alloc (Nat.le_refl _) _⟩
              · simp at h4'; omega
            · have HR : Hid (R = none) := hrd.out.symm.trans (Ip.rd_bad gk l acc hn hz h4' k v hsc (.inr (by omega)))
              clear hsc hrd
              go_wp2_with (go_at_call 32; refine (isDigit_any _ _).mono ?_; rintro e w' ⟨rfl, rfl⟩)
              exact bodyPost_ret (v := .tuple #[.agg #[.int .u8 0, .int .u8 0, .int .u8 0, .int .u8 0], .int .i64 0, .bool false]) (by simp [results, Try.results29, go_sem]) rfl ⟨by rw [HR.out]; rfl, (Below.refl _ _).alloc (Nat.le_refl _) _⟩
end Go.Proofs.Qxb6000758a
