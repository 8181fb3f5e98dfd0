/-
  ZZIPv4Numbers (12), zzBytes (13); '==' on two [4]byte; the law FnIPv4AgreesWithSplitModel (4), walked.
-/
import Derived.Test.Qxb6000758aIpModel
import Derived.ChangeKeysEq
namespace Go.Proofs.Qxb6000758a
open Go.RowKit

theorem info5 : (Try.prog.info? 5).map (fun i => i.size) = some 1 := by kernel_rfl
theorem cells5 : Try.prog.cellsOf 5 = 1 := by kernel_rfl

theorem eq22 (a0 a1 a2 a3 b0 b1 b2 b3 : Int) (w : World) :
    (Op.equalIn 10000 22 (.agg #[.int .u8 a0, .int .u8 a1, .int .u8 a2, .int .u8 a3]) (.agg #[.int .u8 b0, .int .u8 b1, .int .u8 b2, .int .u8 b3])).run Try.prog w = .ok (a0 == b0 && (a1 == b1 && (a2 == b2 && a3 == b3))) w := by
  obtain ⟨i, hi, -⟩ := Option.map_eq_some_iff.1 info5
  rw [run_equalIn_array w 9999 _ _ Try.underlying22 hi, cells5]
  have e : List.range 4 = [0, 1, 2, 3] := rfl
  rw [e]
  have hp : ∀ (xs : Array Value) (j : Nat) (x : Int) (w : World), xs[j]? = some (.int .u8 x) → (part 5 xs (j * 1)).run Try.prog w = .ok (.int .u8 x) w := by
    intro xs j x w h
    simp [part, isAgg, run_underlying Try.underlying5, h]
  have pe : ∀ (x y : Int) (w : World), (Op.equalIn 9999 5 (.int .u8 x) (.int .u8 y)).run Try.prog w = .ok (x == y) w := fun x y w => run_equalIn_int w 9998 5 .u8 .u8 x y Try.underlying5
  simp only [Op.eqItems, Sem.run_bind]
  simp only [hp #[.int .u8 a0, .int .u8 a1, .int .u8 a2, .int .u8 a3] 0 a0 w rfl, hp #[.int .u8 b0, .int .u8 b1, .int .u8 b2, .int .u8 b3] 0 b0 w rfl, Result.andThen_ok, pe]
  cases (a0 == b0)
  · simp
  simp only [Bool.not_true, Bool.false_eq_true, if_false, Sem.run_bind, hp #[.int .u8 a0, .int .u8 a1, .int .u8 a2, .int .u8 a3] 1 a1 w rfl, hp #[.int .u8 b0, .int .u8 b1, .int .u8 b2, .int .u8 b3] 1 b1 w rfl, Result.andThen_ok, pe]
  cases (a1 == b1)
  · simp
  simp only [Bool.not_true, Bool.false_eq_true, if_false, Sem.run_bind, hp #[.int .u8 a0, .int .u8 a1, .int .u8 a2, .int .u8 a3] 2 a2 w rfl, hp #[.int .u8 b0, .int .u8 b1, .int .u8 b2, .int .u8 b3] 2 b2 w rfl, Result.andThen_ok, pe]
  cases (a2 == b2)
  · simp
  simp only [Bool.not_true, Bool.false_eq_true, if_false, Sem.run_bind, hp #[.int .u8 a0, .int .u8 a1, .int .u8 a2, .int .u8 a3] 3 a3 w rfl, hp #[.int .u8 b0, .int .u8 b1, .int .u8 b2, .int .u8 b3] 3 b3 w rfl, Result.andThen_ok, pe]
  cases (a3 == b3) <;> simp

/-- A new block of four bytes keeps its cells behind a call. -/
theorem four_kept {w w' : World} {c : Array Value} (hb : Below (w.alloc (.cells c 22)).heap.size (w.alloc (.cells c 22)) w') :
    w.heap.size < w'.heap.size ∧ (∀ o, w'.cell? ⟨w.heap.size, o, none⟩ = (w.alloc (.cells c 22)).cell? ⟨w.heap.size, o, none⟩) ∧ (∀ o, w'.frozen? ⟨w.heap.size, o, none⟩ = (w.alloc (.cells c 22)).frozen? ⟨w.heap.size, o, none⟩) :=
  ⟨by have := hb.size; simp at this; omega, fun o => hb.cell (p := ⟨w.heap.size, o, none⟩) (by simp), fun o => hb.frozen (p := ⟨w.heap.size, o, none⟩) (by simp)⟩

theorem zz12_any (s : ByteArray) (w : World) (hs : s.size ≤ maxLen) (R : Option (List Nat × Bool)) (hR : Hid (Ip.md s.data.toList [] [] = R)) :
    Calls Try.prog 12 #[.string s] w fun e w' => e = .returned (Ip.ansOf R) ∧ Below w.heap.size w w' := by
  have ha : Ip.ansOf (Ip.rd (s.size + 1) s.data.toList []) = Ip.ansOf R := by
    have h1 := Ip.agree s.data.toList
    rw [← Lib.size_eq, hR.out] at h1
    unfold Ip.ansOf; rw [h1.1, h1.2]
  have HA : Hid (Ip.ansOf (Ip.rd (s.size + 1) s.data.toList []) = Ip.ansOf R) := ha
  clear ha hR
  go_enter Try.func12, Try.ntmps12
  go_wp2_with fail
  refine (ipv4_any s _ hs _ rfl).mono ?_
  rintro e w' ⟨rfl, hb⟩
  rw [HA.out]
  unfold Ip.ansOf Ip.cellsOf
  obtain ⟨hz, hc, hf⟩ := four_kept hb
  go_wp2_with fail
  refine bodyPost_ret (v := .tuple #[.agg #[.int .u8 ((Ip.nums R)[0]?.getD 0 : Nat), .int .u8 ((Ip.nums R)[1]?.getD 0 : Nat), .int .u8 ((Ip.nums R)[2]?.getD 0 : Nat), .int .u8 ((Ip.nums R)[3]?.getD 0 : Nat)], .int .i64 ((Ip.nums R).length : Nat), .bool (Ip.dot R)]) (by simp [results, Try.results12, go_sem, hc]) rfl ⟨by simp [Ip.ansOf, Ip.cellsOf], ?_⟩
  have h0 : Below w.heap.size w w' := ((Below.refl _ _).alloc (Nat.le_refl _) _).trans (hb.mono (by simp))
  exact (((h0.setCell (Nat.le_refl _) _).setCell (Nat.le_refl _) _).setCell (Nat.le_refl _) _).setCell (Nat.le_refl _) _

theorem zz13_yes (s : ByteArray) (w : World) (hs : s.size ≤ 1048576) :
    Calls Try.prog 13 #[.string s] w fun e w' => e = .returned (.bool true) ∧ w' = w := by
  go_enter Try.func13, Try.ntmps13
  go_wp2
  go_ret
  exact ⟨rfl, rfl⟩
theorem zz13_no (s : ByteArray) (w : World) (hs : 1048576 < s.size) :
    Calls Try.prog 13 #[.string s] w fun e w' => e = .returned (.bool false) ∧ w' = w := by
  go_enter Try.func13, Try.ntmps13
  go_wp2
  go_ret
  exact ⟨rfl, rfl⟩

attribute [local go_sem] eq22

theorem agrees_walk (s : ByteArray) (w : World) (hm : s.size ≤ maxLen) :
    Calls Try.prog 4 #[.string s] w fun e w' => e = .returned (.bool true) ∧ Below w.heap.size w w' := by
  by_cases h1 : 1048576 < s.size
  · go_enter Try.func4, Try.ntmps4
    go_wp2_with fail
    refine (zz13_no s _ h1).mono ?_
    rintro e w' ⟨rfl, rfl⟩
    go_wp2_with fail
    go_ret
    exact ⟨rfl, Below.refl _ _⟩
  have h2 : s.size ≤ 1048576 := by omega
  clear h1
  by_cases h3 : 65536 < s.size
  · go_enter Try.func4, Try.ntmps4
    go_wp2_with fail
    refine (zz13_yes s _ h2).mono ?_
    rintro e w' ⟨rfl, rfl⟩
    go_wp2_with fail
    go_ret
    exact ⟨rfl, Below.refl _ _⟩
  obtain ⟨R, hR⟩ : ∃ R, Hid (Ip.md s.data.toList [] [] = R) := ⟨_, rfl⟩
  go_enter Try.func4, Try.ntmps4
  go_wp2_with fail
  refine (zz13_yes s _ h2).mono ?_
  rintro e w' ⟨rfl, rfl⟩
  go_wp2_with fail
  refine (zz12_any s _ hm R hR).mono ?_
  rintro e w1 ⟨rfl, hb1⟩
  unfold Ip.ansOf Ip.cellsOf
  go_wp2_with fail
  refine (model_any s _ h2 R hR).mono ?_
  rintro e w2 ⟨rfl, hb2⟩
  unfold Ip.ansOf Ip.cellsOf
  obtain ⟨hz, hc, hf⟩ := four_kept hb2
  go_wp2_with fail
  go_ret
  exact ⟨rfl, ((hb1.alloc hb1.size _).trans (hb2.mono (by have := hb1.size; simp; omega))).alloc (by have := hb1.size; have := hb2.size; simp at *; omega) _⟩
end Go.Proofs.Qxb6000758a
