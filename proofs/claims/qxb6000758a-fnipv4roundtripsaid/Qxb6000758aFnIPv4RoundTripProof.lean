/-
  From the walk of FnIPv4RoundTrip to the given statement. (No shell served: two parameters are arrays.)
-/
import Derived.Test.Qxb6000758aRows
import Derived.Test.Qxb6000758aShut
import Derived.Test.Qxb6000758aRtWalk
import Derived.WalkKit
import Derived.ProofKit
import Derived.OpenShut
import Derived.Laws.IdiomArrays
namespace Go.Proofs.Qxb6000758a.fnIPv4RoundTrip
open Go.ChangeShapes Go.WideShapes Go.ChangeAt Go.RowKit

theorem own : ownKnob Try.prog.godebug = none := by kernel_rfl
theorem cells22 : Try.prog.cellsOf 22 = 4 := by kernel_rfl

theorem list4 {α : Type} (l : List α) (h : (⟨l⟩ : Array α).size = 4) : ∃ a b c d, l = [a, b, c, d] := by
  match l, h with
  | [a, b, c, d], _ => exact ⟨a, b, c, d, rfl⟩

theorem nat_of_u8 {x : Int} (h : (Lit.int .u8 x).wf = true) : ∃ n : Nat, n < 256 ∧ x = (n : Int) := by
  have := bounds_u8 h
  exact ⟨x.toNat, by omega, by omega⟩

/-- A [4]byte by value, opened. -/
theorem open4 {H : Type} {enc : TypeId × Value → H} {W : World} {base b0 : Nat} {v : Value} {d : DataW H} {p : List MemPlace} {sp : Nat → Bool}
    (hv : Value.okWide Try.prog W .any base 22 v) (h : DataW.Trod enc Try.prog W b0 sp true 22 v d p) :
    ∃ x0 x1 x2 x3 : Nat, x0 < 256 ∧ x1 < 256 ∧ x2 < 256 ∧ x3 < 256 ∧ v = .agg #[.int .u8 (x0 : Int), .int .u8 (x1 : Int), .int .u8 (x2 : Int), .int .u8 (x3 : Int)] ∧
      d = .agg [.lit (.int .u8 (x0 : Int)), .lit (.int .u8 (x1 : Int)), .lit (.int .u8 (x2 : Int)), .lit (.int .u8 (x3 : Int))] ∧ p = [] := by
  obtain ⟨cs, rfl, hsz, _⟩ : ∃ cs, v = .agg cs ∧ cs.size = Try.prog.cellsOf 22 ∧ Row.okWide Try.prog W .any base 22 cs := by
    simpa [Value.okWide, Try.underlying22] using hv
  rw [cells22] at hsz
  obtain ⟨l⟩ := cs
  obtain ⟨c0, c1, c2, c3, rfl⟩ := list4 l hsz
  obtain ⟨fuel, hf⟩ := h
  obtain ⟨y0, y1, y2, y3, m, hx, hy0, hy1, hy2, hy3⟩ := trod_array4 Try.underlying22 cells5 hf
  obtain ⟨x0, e0, rfl, w0⟩ := DataW.trod_int Try.underlying5 hy0
  obtain ⟨x1, e1, rfl, w1⟩ := DataW.trod_int Try.underlying5 hy1
  obtain ⟨x2, e2, rfl, w2⟩ := DataW.trod_int Try.underlying5 hy2
  obtain ⟨x3, e3, rfl, w3⟩ := DataW.trod_int Try.underlying5 hy3
  simp at e0 e1 e2 e3
  subst e0 e1 e2 e3
  simp only [Prod.mk.injEq] at hx
  obtain ⟨rfl, rfl⟩ := hx
  obtain ⟨n0, l0, rfl⟩ := nat_of_u8 w0
  obtain ⟨n1, l1, rfl⟩ := nat_of_u8 w1
  obtain ⟨n2, l2, rfl⟩ := nat_of_u8 w2
  obtain ⟨n3, l3, rfl⟩ := nat_of_u8 w3
  exact ⟨n0, n1, n2, n3, l0, l1, l2, l3, rfl, rfl, rfl⟩

theorem wf_nat {n : Nat} (h : n < 256) : (Lit.int .u8 (n : Int)).wf = true := WalkArith.wf_u8 (by omega)

/-- A [4]byte by value, shut again. -/
theorem shut4 {H : Type} {enc : TypeId × Value → H} {W : World} {b0 : Nat} {sp : Nat → Bool} {x0 x1 x2 x3 : Nat} (h0 : x0 < 256) (h1 : x1 < 256) (h2 : x2 < 256) (h3 : x3 < 256) :
    DataW.Trod enc Try.prog W b0 sp true 22 (.agg #[.int .u8 (x0 : Int), .int .u8 (x1 : Int), .int .u8 (x2 : Int), .int .u8 (x3 : Int)])
      (DataW.agg [.lit (.int .u8 (x0 : Int)), .lit (.int .u8 (x1 : Int)), .lit (.int .u8 (x2 : Int)), .lit (.int .u8 (x3 : Int))]) [] :=
  ⟨2, by simp [DataW.trod, Value.cells, Try.underlying22, Try.underlying5, cells22, cells5, wf_nat h0, wf_nat h1, wf_nat h2, wf_nat h3, show List.range 4 = [0, 1, 2, 3] from rfl]⟩

set_option maxHeartbeats 400000 in
set_option maxRecDepth 100000 in
theorem lifted (os : Os) (started : os.Started) (H : Type) (enc : TypeId × Value → H) :
    ReturnsInHanded {} Try.checked os 3 .any (Rows.fnIPv4RoundTripSpec.pre6 enc Try.prog Try.f3 Rows.fnIPv4RoundTripRow.domain false) (Rows.fnIPv4RoundTripSpec.post enc Try.prog Try.f3 false true false false) := by
  refine returnsInHanded_of_change (C := Try.checked) own started (by kernel_rfl) Try.func3
    (ChangeSpec.witness6 (enc := enc) (C := Try.checked) false ⟨#[], #[.agg #[.int .u8 0, .int .u8 0, .int .u8 0, .int .u8 0], .int .i64 0, .bool false, .agg #[.int .u8 0, .int .u8 0, .int .u8 0, .int .u8 0]], []⟩ 8 (by kernel_rfl) (by kernel_rfl) (by kernel_rfl) (by kernel_rfl)) ?_
  intro W base args ds gs before hval0 hW hcnd _
  have hval : ∀ (j : Nat) t v, Try.f3.params[j]? = some t → args[j]? = some v → Value.okWide Try.prog W .any base t v := hval0
  have hW' := hW
  obtain ⟨p, q, hA0, hV, rfl, hfz, hnd⟩ := hW
  have hA : DataW.TrodAll enc Try.prog W 0 (fun _ => true) true Try.f3.params.toList args.toList ds p := hA0
  rw [Try.params3] at hA hval
  obtain ⟨v0, vs0, d0, ds0, p0, q0, hargs, rfl, rfl, h0, r0⟩ := trodAll_cons hA
  obtain ⟨v1, vs1, d1, ds1, p1, q1, rfl, rfl, rfl, h1, r1⟩ := trodAll_cons r0
  obtain ⟨v2, vs2, d2, ds2, p2, q2, rfl, rfl, rfl, h2, r2⟩ := trodAll_cons r1
  obtain ⟨v3, vs3, d3, ds3, p3, q3, rfl, rfl, rfl, h3, r3⟩ := trodAll_cons r2
  obtain ⟨rfl, rfl, rfl⟩ := trodAll_nil r3
  obtain rfl : args = #[v0, v1, v2, v3] := by cases args; simp_all
  obtain ⟨rfl, rfl⟩ := trodVars_none hV
  obtain ⟨x0, x1, x2, x3, a0, a1, a2, a3, rfl, rfl, rfl⟩ := open4 (hval 0 22 v0 rfl rfl) h0
  obtain ⟨c, rfl, rfl, rfl, wc⟩ := open_int Try.underlying3 (hval 1 3 v1 rfl rfl) h1
  obtain ⟨b, rfl, rfl, rfl⟩ := open_bool Try.underlying4 (hval 2 4 v2 rfl rfl) h2
  obtain ⟨y0, y1, y2, y3, b0, b1, b2, b3, rfl, rfl, rfl⟩ := open4 (hval 3 22 v3 rfl rfl) h3
  clear hA0 hval0
  simp only [List.append_nil] at hW'
  refine (round_walk x0 x1 x2 x3 y0 y1 y2 y3 a0 a1 a2 a3 b0 b1 b2 b3 c b W).mono fun e W' ⟨he, hg⟩ => ?_
  subst he
  exact ⟨_, rfl, post_of_below (pa := []) (pv := []) hW' (fun _ _ _ => (trodAll_cons_mk (shut_bool Try.underlying4 _) trodAll_mk0))
    (fun sp _ => (trodAll_cons_mk (shut4 a0 a1 a2 a3) (trodAll_cons_mk (shut_int Try.underlying3 wc) (trodAll_cons_mk (shut_bool Try.underlying4 b) (trodAll_cons_mk (shut4 b0 b1 b2 b3) trodAll_mk0))))) (fun _ _ => rfl) rfl hg⟩

theorem over : Rows.fnIPv4RoundTripRow.holds Try.pinned (OpenSpec.ofChange Rows.fnIPv4RoundTripSpec) :=
  OpenClaim.holds_of_wide 3 Try.f3 rfl rfl rfl rfl rfl rfl rfl ⟨rfl, rfl, rfl, rfl, rfl⟩ rfl rfl rfl rfl rfl (by kernel_rfl) Try.func3 (by kernel_rfl)
    (of_decide_eq_true (by kernel_rfl)) (by unfold Func.isWrapper; first | (rw [if_pos (by decide +kernel)]; kernel_rfl) | (rw [if_neg (by decide +kernel)]; exact ⟨rfl, rfl⟩))
    (fun os started H enc _ => lifted os started H enc)

/-- THE STATEMENT. -/
theorem proved : Rows.FnIPv4RoundTripSaid :=
  over
end Go.Proofs.Qxb6000758a.fnIPv4RoundTrip
