/-
  zzUtoa (15), walked.
-/
import Derived.Test.Qxb6600050aBuf
import Derived.Test.Qxb6600050aRdWalk
namespace Go.Proofs.Qxb6600050a
open Go.RowKit

/-- The array of 24 bytes, filled from place k on with the digits l. -/
structure UB (w wr : World) (k : Nat) (l : List UInt8) : Prop where
  blk : ∃ cs : Array Value, wr.heap[w.heap.size]? = some (.cells cs 48 (0, 0)) ∧ cs.size = 24 ∧ cs.toList.drop k = l.map cel
  below : Below w.heap.size w wr

theorem UB.cell {w wr : World} {k : Nat} {l : List UInt8} (h : UB w wr k l) (j : Nat) (hj : j < 24) : ∃ v, wr.cell? ⟨w.heap.size, j, none⟩ = some v := by
  obtain ⟨cs, h1, h2, -⟩ := h.blk
  exact ⟨cs[j], by rw [cell_of_row wr w.heap.size j cs 48 (0, 0) h1]; simp [h2, hj]⟩
theorem UB.free {w wr : World} {k : Nat} {l : List UInt8} (h : UB w wr k l) (j : Nat) : wr.frozen? ⟨w.heap.size, j, none⟩ = false := by
  obtain ⟨cs, h1, -, -⟩ := h.blk
  simp [World.frozen?, h1]
theorem UB.put {w wr : World} {k : Nat} {l : List UInt8} (h : UB w wr (k + 1) l) (hk : k < 24) (b : UInt8) (x : Value) (hx : x = cel b) : UB w (wr.setCell ⟨w.heap.size, k, none⟩ x) k (b :: l) := by
  subst hx
  obtain ⟨cs, h1, h2, h3⟩ := h.blk
  refine ⟨⟨cs.setIfInBounds k (cel b), heap_setCell_same wr w.heap.size k cs 48 _ h1, by simpa using h2, ?_⟩, h.below.setCell (by simp) _⟩
  have hl : k < cs.toList.length := by simpa [h2] using hk
  rw [Array.toList_setIfInBounds, List.drop_eq_getElem_cons (by simpa using hl)]
  simp only [List.getElem_set_self, List.map_cons]
  rw [List.drop_set_of_lt (by omega), h3]
theorem UB.bytes {w wr : World} {k : Nat} {l : List UInt8} (h : UB w wr k l) : l.length = 24 - k ∧ ∀ j, j < 24 - k → wr.cell? ⟨w.heap.size, k + j, none⟩ = some (.int .u8 ((l.map fun b => (b.toNat : Int)).getD j 0)) := by
  obtain ⟨cs, h1, h2, h3⟩ := h.blk
  have hl : l.length = 24 - k := by
    have := congrArg List.length h3
    simpa [h2] using this.symm
  refine ⟨hl, fun j hj => ?_⟩
  rw [cell_of_row wr w.heap.size (k + j) cs 48 (0, 0) h1]
  have : cs[k + j]? = (cs.toList.drop k)[j]? := by simp
  rw [this, h3]
  simp [cel, List.getElem?_eq_getElem (show j < l.length by omega)]

theorem tB : BytesIn Try.prog 30 5 := by
  refine ⟨Try.underlying30, Try.underlying5, ?_⟩
  have h : (Try.prog.info? 5).map (fun i => (i.zero, i.size, i.bytes)) = some (some (.int .u8 0), 1, 1) := by kernel_rfl
  obtain ⟨i, hi, hz0, hz1, hz2⟩ := info_parts h
  exact ⟨i, hi, hz0, hz1, hz2⟩

theorem slice24 (g k : Nat) (hk : k < 24) (w : World) : (Instr.sliceAt 48 (.pointer (some ⟨g, 0, none⟩)) (some (.int .i64 (k : Int))) none none).run Try.prog w = .ok (.slice (some ⟨g, k, none⟩) (24 - k) (24 - k)) w := by
  obtain ⟨i, hi, hz0, hz1, hz2⟩ := tB.info
  have hadd : (⟨g, 0, none⟩ : Addr).add k = ⟨g, k, none⟩ := by unfold Addr.add; split <;> simp_all
  have hu : Try.prog.underlying 48 = some (.array 24 5) := Try.underlying48
  have ha : Try.prog.arrayLen 48 = 24 := by kernel_rfl
  have he : Try.prog.elem 48 = 5 := by kernel_rfl
  have h := run_sliceAt_array_l (P := Try.prog) w 48 ⟨g, 0, none⟩ (by rw [ha, he]; exact hu) .i64 (k : Int) (by omega) (by rw [ha]; omega)
  rw [h, ha, he]
  have hne : ¬ 24 = k := by omega
  simp [sizeOf, typeInfo, hi, hz1, slicedAt, hadd, hne]

set_option maxRecDepth 100000 in
set_option maxHeartbeats 1000000 in
theorem utoa_pos_any (w : World) (v : Nat) (hv0 : 0 < v) (hv : v < 1000000000000) :
    Calls Try.prog 15 #[.int .i64 (v : Int)] w fun e w' => e = .returned (.string ⟨(Num.utoa v).toArray⟩) ∧ Below w.heap.size w w' := by
  have hvz : decide (v = 0) = false := by simp; omega
  have hst : UB w (w.alloc (.cells #[.int .u8 0, .int .u8 0, .int .u8 0, .int .u8 0, .int .u8 0, .int .u8 0, .int .u8 0, .int .u8 0, .int .u8 0, .int .u8 0, .int .u8 0, .int .u8 0, .int .u8 0, .int .u8 0, .int .u8 0, .int .u8 0, .int .u8 0, .int .u8 0, .int .u8 0, .int .u8 0, .int .u8 0, .int .u8 0, .int .u8 0, .int .u8 0] 48)) 24 [] :=
    ⟨⟨_, heap_alloc_new w _, rfl, rfl⟩, (Below.refl _ _).alloc (Nat.le_refl _) _⟩
  have HU : Hid (Num.dgsF 24 v ++ [] = Num.utoa v) := by
    show _ = _
    rw [Num.utoa, if_neg (by omega)]; simp
  go_enter Try.func15, Try.ntmps15
  go_wp2_with fail
  go_loopg [0, 4] v (fun n nv kv wr => ∃ (r k : Nat) (l : List UInt8), n = r ∧ r ≤ v ∧ k ≤ 24 ∧ Hid (r < 10 ^ k) ∧ Hid (Num.dgsF k r ++ l = Num.utoa v) ∧ nv = .int .i64 r ∧ kv = .int .i64 k ∧ UB w wr k l)
  case atStart => exact ⟨v, 24, [], rfl, by omega, by omega, by (show v < 10 ^ 24; omega), HU, rfl, rfl, hst⟩
  case round =>
    obtain ⟨r, k, l, hgk, hrv, hk, HP, HD, rfl, rfl, hub⟩ := hrel
    clear hst HU
    by_cases hr : 0 < r
    · have hk0 : 0 < k := by
        have := HP.out
        cases k with
        | zero => simp at this; omega
        | succ k => omega
      obtain ⟨k', rfl⟩ : ∃ k', k = k' + 1 := ⟨k - 1, by omega⟩
      obtain ⟨x, hx⟩ := hub.cell k' (by omega)
      have hfz := hub.free k'
      have HD2 : Hid (Num.dgsF k' (r / 10) ++ (UInt8.ofNat (48 + r % 10) :: l) = Num.utoa v) := by
        have := HD.out
        rw [Num.dgsF, if_neg (by omega)] at this
        show _ = _
        rw [← this]; simp
      have HP2 : Hid (r / 10 < 10 ^ k') := by
        have := HP.out
        rw [Nat.pow_succ] at this
        show _ < _; omega
      clear HP HD
      go_wp2_with fail
      go_roundg (r / 10)
      case rel => exact ⟨r / 10, k', _, rfl, by omega, by omega, HP2, HD2, by go_num, rfl, hub.put (by omega) (UInt8.ofNat (48 + r % 10)) _ (by simp [cel]; omega)⟩
      case measure => omega
    · have hr0 : r = 0 := by omega
      subst hr0
      have hl : l = Num.utoa v := by
        have := HD.out
        cases k with
        | zero => simpa [Num.dgsF] using this
        | succ k => simpa [Num.dgsF] using this
      obtain ⟨hlen, hby⟩ := hub.bytes
      have hk24 : k < 24 := by
        have : l ≠ [] := by rw [hl]; exact Num.utoa_pos v
        have : 0 < l.length := by cases l with | nil => exact absurd rfl this | cons a t => simp
        omega
      have hsl := slice24 w.heap.size k hk24
      have hcv := run_convert_bytes_arg (P := Try.prog) wr 30 5 Try.underlying30 Try.underlying5 w.heap.size k (24 - k) (24 - k) (l.map fun b => (b.toNat : Int)) (by simp [hlen]) hby 9 Try.underlying9
      have hb := hub.below
      have HS : Hid (strOfNums (l.map fun b => (b.toNat : Int)) = ⟨(Num.utoa v).toArray⟩) := by
        show _ = _
        rw [← hl]
        unfold strOfNums
        congr 2
        rw [List.map_map]
        conv => rhs; rw [← List.map_id l]
        apply List.map_congr_left
        intro b _
        simp
      clear hub hby hl HD HP
      go_wp2_with fail
      go_ret
      exact ⟨by rw [HS.out]; rfl, hb⟩

theorem utoa_any (w : World) (v : Nat) (hv : v < 1000000000000) :
    Calls Try.prog 15 #[.int .i64 (v : Int)] w fun e w' => e = .returned (.string ⟨(Num.utoa v).toArray⟩) ∧ Below w.heap.size w w' := by
  by_cases h : 0 < v
  · exact utoa_pos_any w v h hv
  · have h0 : v = 0 := by omega
    subst h0
    go_enter Try.func15, Try.ntmps15
    go_wp2_with fail
    go_ret
    exact ⟨rfl, Below.refl _ _⟩
end Go.Proofs.Qxb6600050a
