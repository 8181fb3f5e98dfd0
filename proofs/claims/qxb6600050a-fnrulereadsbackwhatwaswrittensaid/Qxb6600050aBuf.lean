/-
  A slice of bytes that the call itself makes and appends to: 'Buf': what it holds as a list of bytes; make, append of bytes, append of a string's bytes, string(buf).
-/
import Derived.WalkKit
import Derived.WalkSpells
import Derived.Deep.AppendSrc
import Derived.Laws.BytesArg
import Derived.Lib.IndexBytes
namespace Go.Proofs.Qxb6600050a
open Go.RowKit

def cel (b : UInt8) : Value := .int .u8 (b.toNat : Int)

/-- The types' facts: ts is a slice of te, te is uint8. -/
structure BytesIn (P : Program) (ts te : TypeId) : Prop where
  und : P.underlying ts = some (.slice te)
  el : P.underlying te = some (.int .u8)
  info : ∃ i, P.info? te = some i ∧ i.zero = some (.int .u8 0) ∧ i.size = 1 ∧ i.bytes = 1

/-- The slice value '.slice a n cap' is the call's own (its block is B or later) and holds the bytes l. -/
def Buf (te : TypeId) (B : Nat) (w : World) (a : Option Addr) (n cap : Nat) (l : List UInt8) : Prop :=
  n = l.length ∧ w.ownsRow B te 1 (.slice a n cap) n (l.map cel)

variable {P : Program} {ts te tx : TypeId} {B : Nat} {w w' : World} {a : Option Addr} {n cap : Nat} {l : List UInt8}

theorem Buf.len (h : Buf te B w a n cap l) : n = l.length := h.1
theorem Buf.alloc (h : Buf te B w a n cap l) (o : Obj) : Buf te B (w.alloc o) a n cap l := ⟨h.1, h.2.alloc o⟩
theorem Buf.nil (te : TypeId) (B : Nat) (w : World) : Buf te B w none 0 0 [] := ⟨rfl, World.ownsRow_nil w B te 1⟩
theorem Buf.drew (h : Buf te B w a n cap l) : Buf te B w.drew a n cap l := h
/-- A call that leaves every block of the old heap alone leaves the buffer alone. -/
theorem Buf.kept (h : Buf te B w a n cap l) (hb : Below w.heap.size w w') : Buf te B w' a n cap l :=
  ⟨h.1, h.2.kept (row := none) ⟨hb.os, hb.tape, hb.output, hb.size, fun k hk _ => hb.block k hk⟩ (by cases (Value.slice a n cap).ownBlock <;> simp)⟩
/-- Where the buffer's block lies. -/
theorem Buf.lt (h : Buf te B w a n cap l) {x : Addr} (hx : a = some x) : B ≤ x.block ∧ x.block < w.heap.size := by
  subst hx
  exact h.2.lt x.block rfl
theorem Buf.setCell (h : Buf te B w a n cap l) {p : Addr} (hp : p.block < B) (u : Value) : Buf te B (w.setCell p u) a n cap l :=
  ⟨h.1, ownsRow_setCell_below h.2 hp u⟩
theorem Buf.base (h : Buf te B w a n cap l) {B' : Nat} (hB : B' ≤ B) : Buf te B' w a n cap l := by
  obtain ⟨h1, h2, h3⟩ := h
  refine ⟨h1, h2, ?_⟩
  rcases h3 with h3 | ⟨g, cap', cur, e, hb, r⟩
  · exact .inl h3
  · exact .inr ⟨g, cap', cur, e, by omega, r⟩

theorem cel_one (l : List UInt8) : ∀ u ∈ l.map cel, u.oneCell' = true := by
  intro u hu
  obtain ⟨_, _, rfl⟩ := List.mem_map.1 hu
  rfl

theorem slice_of_owns {v : Value} {m : Nat} {xs : List Value} (h : w.ownsRow B te 1 v m xs) : ∃ a c, v = .slice a m c := by
  rcases h.2 with ⟨rfl, rfl⟩ | ⟨g, cap, cur, rfl, _⟩
  · exact ⟨_, _, rfl⟩
  · exact ⟨_, _, rfl⟩

/-- append, the source whatever. -/
theorem run_append_src (hP : BytesIn P ts te) (ty : TypeId) (hbuf : Buf te B w a n cap l) (x : Value) (m : Nat) (news : List UInt8) (hs : Src P 1 tx x m (news.map cel) w)
    (hsz : n + m ≤ 1099511627776) (hbase : B ≤ w.heap.size) :
    ∃ a' cap' w', (Builtin.append_ #[ts, tx] ty #[.slice a n cap, x]).run P w = .ok (.slice a' (n + m) cap') w' ∧ Buf te B w' a' (n + m) cap' (l ++ news) ∧ w.grownBy w' (Value.slice a n cap).ownBlock := by
  obtain ⟨i, hi, hz, hsize, hby⟩ := hP.info
  obtain ⟨hn, hown⟩ := hbuf
  have hml : news.length = m := by have := hs.newsLen; simpa using this
  have hlen : ((l ++ news).map cel).length = (n + m) * 1 := by simp [hn, hml]
  have grown : ∀ (old : Nat), old < n + m → ∀ (row : Option Nat),
      Buf te B (w.drew.alloc (.cells ((l.map cel ++ news.map cel).toArray ++ Builtin.zeroCells (Value.int .u8 0).cells (grownCap w (n + m) old te - (n + m))) te)) (some ⟨w.heap.size, 0, none⟩) (n + m) (grownCap w (n + m) old te) (l ++ news) ∧
      w.grownBy (w.drew.alloc (.cells ((l.map cel ++ news.map cel).toArray ++ Builtin.zeroCells (Value.int .u8 0).cells (grownCap w (n + m) old te - (n + m))) te)) row := by
    intro old ho row
    have hge := grownCap_ge w (n + m) old te
    have hcm : grownCap w (n + m) old te ≤ maxLen := grownCap_le_maxLen w (n + m) old te (by unfold maxLen; omega)
    refine ⟨⟨by simp [hn, hml], hlen, .inr ⟨w.heap.size, _, _, rfl, hbase, heap_alloc_new w.drew _, hge, hcm, ?_, ?_⟩⟩, ⟨rfl, rfl, rfl, by simp, fun k hk _ => Below.heap_alloc w.drew _ k hk⟩⟩
    · have hz1 : (Value.int .u8 0).cells.size = 1 := rfl
      simp only [Array.size_append, List.size_toArray, size_zeroCells, hz1, List.length_append, List.length_map]
      omega
    · rw [← hlen]
      simp only [Array.toList_append]
      rw [show (l ++ news).map cel = l.map cel ++ news.map cel from List.map_append]
      exact List.take_left
  have hfit : Builtin.nextslicecap (n + m) cap * i.bytes ≤ 281474976710656 ∨ n + m ≤ cap := by
    by_cases h : n + m ≤ cap
    · exact .inr h
    · exact .inl (growslice_fits (by omega) (by rw [hby]; omega))
  rcases hown.2 with ⟨hv, hn0⟩ | ⟨g, cap0, cur, hv, hbg, hg, hnc, hcm, hcs, htake⟩
  · simp only [Value.slice.injEq] at hv
    obtain ⟨rfl, rfl, rfl⟩ := hv
    have hl0 : l = [] := List.eq_nil_of_length_eq_zero hn.symm
    subst hl0
    by_cases hm : m = 0
    · subst hm
      have hn' : news = [] := List.eq_nil_of_length_eq_zero hml
      subst hn'
      refine ⟨none, 0, w, ?_, Buf.nil te B w, ⟨rfl, rfl, rfl, Nat.le_refl _, fun _ _ _ => rfl⟩⟩
      have hc := hs.cells
      rcases hs.kind with ⟨e', hk⟩ | hk <;> simp [Builtin.append_, run_underlying hP.und, run_underlying hk, sizeOf, typeInfo, hi, hsize, hs.len, hc]
    · have hgr := grown 0 (by omega) (Value.ownBlock (.slice none 0 0))
      rw [← hsize] at hs
      have hr := run_append_grow_src (P := P) w ts tx ty te i _ hP.und hi hz none 0 0 [] (by simp [Builtin.firstCells]) x m (news.map cel) hs (by omega) (by omega) (by rcases hfit with h | h; exact h; omega)
      exact ⟨_, _, _, hr, hgr.1, hgr.2⟩
  · simp only [Value.slice.injEq] at hv
    obtain ⟨rfl, -, rfl⟩ := hv
    by_cases hroom : n + m ≤ cap
    · have hf : n * 1 + (news.map cel).length ≤ cur.size := by rw [hcs]; simp [hml]; omega
      have hst := run_storeCells_at P g (n * 1) te (news.map cel) 0 cur w hg (by simpa using hf) hs.one
      simp only [Nat.add_zero] at hst
      have hst' : (storeCells ⟨g, n, none⟩ (news.map cel)).run P w = .ok () (w.setRow g (List.take n cur.toList ++ (List.map cel news ++ List.drop (n + news.length) cur.toList)).toArray) := by simpa using hst
      have hr : (Builtin.append_ #[ts, tx] ty #[.slice (some ⟨g, 0, none⟩) n cap, x]).run P w =
          .ok (.slice (some ⟨g, 0, none⟩) (n + m) cap) (w.setRow g (cur.toList.take (n * 1) ++ news.map cel ++ cur.toList.drop (n * 1 + (news.map cel).length)).toArray) := by
        have hc := hs.cells
        rcases hs.kind with ⟨e', hk⟩ | hk <;> simp [Builtin.append_, run_underlying hP.und, run_underlying hk, sizeOf, typeInfo, hi, hsize, hs.len, hroom, hc, Addr.add_lit, hst']
      refine ⟨_, _, _, hr, ⟨by simp [hn, hml], hlen, .inr ⟨g, cap, _, rfl, hbg, setRow_heap w g cur _ te _ hg, hroom, hcm, ?_, ?_⟩⟩, ⟨rfl, rfl, rfl, by simp, fun k _ hk => setRow_other w g k _ (fun e => hk (by simp [Value.ownBlock, e]))⟩⟩
      · simp only [List.size_toArray, List.length_append, List.length_take, List.length_drop, Array.length_toList]
        omega
      · rw [htake, ← hlen, show (l ++ news).map cel = l.map cel ++ news.map cel from List.map_append]
        exact List.take_left
    · have holds : ∀ j u, (l.map cel)[j]? = some u → w.cell? ((⟨g, 0, none⟩ : Addr).add j) = some u := hown.cells (g := g) rfl
      have hgr := grown cap (by omega) (Value.ownBlock (.slice (some ⟨g, 0, none⟩) n cap))
      rw [← hsize] at hs
      have hr := run_append_grow_src (P := P) w ts tx ty te i _ hP.und hi hz (some ⟨g, 0, none⟩) n cap (l.map cel) (by rw [hsize]; exact run_firstCells_some w.drew 1 n ⟨g, 0, none⟩ n cap (l.map cel) (by simp [hn]) (by simpa using holds)) x m (news.map cel) hs (by omega) (by omega) (by rcases hfit with h | h; exact h; omega)
      exact ⟨_, _, _, hr, hgr.1, hgr.2⟩

theorem Buf.below (hbuf : Buf te B w a n cap l) (hg : w.grownBy w' (Value.slice a n cap).ownBlock) (hbase : B ≤ w.heap.size) : Below B w w' :=
  (Below.refl B w).grown hg hbase fun k hk => (hbuf.2.lt k hk).1

/-- append, at the list of operations. -/
theorem wpList_app_src {ops : Array Oper} {rest : List Oper} {o : Oper} {act : Act} {Q : Exit → Act → World → Prop} (hP : BytesIn P ts te) (hgd : o.guard = none) (s x : Operand)
    (ho : o.op = .call { callee := .builtin .append, args := #[s, x], argTypes := #[ts, tx] })
    (hs : act.eval s = .slice a n cap) (hbuf : Buf te B w a n cap l) (vx : Value) (hx : act.eval x = vx) (m : Nat) (news : List UInt8) (hsrc : Src P 1 tx vx m (news.map cel) w)
    (hsz : n + m ≤ 1099511627776) (hbase : B ≤ w.heap.size)
    (h : ∀ a' cap' w', Buf te B w' a' (n + m) cap' (l ++ news) → Below B w w' → wpList P ops Q rest (act.put o.dst (.slice a' (n + m) cap')) w') : wpList P ops Q (o :: rest) act w := by
  refine wpList_plain hgd fun K hK => ?_
  obtain ⟨a', cap', w', hr, h1, h2⟩ := run_append_src hP o.type hbuf vx m news hsrc hsz hbase
  unfold Oper.wp execOp
  simp only [ho, resolve, invoke, builtin, Sem.run_bind, Sem.run_pure, Result.andThen_ok, List.map_toArray, List.map_cons, List.map_nil, hs, hx, hr]
  exact hK _ _ (h a' cap' w' h1 (hbuf.below h2 hbase))

/-- 'append(buf, b0, b1, ..)': the elements lie in a block just laid. -/
theorem wpList_app {ops : Array Oper} {rest : List Oper} {o : Oper} {act : Act} {Q : Exit → Act → World → Prop} (hP : BytesIn P ts te) (hgd : o.guard = none) (s x : Operand)
    (ho : o.op = .call { callee := .builtin .append, args := #[s, x], argTypes := #[ts, ts] })
    (news : List UInt8) (cs : List Value) (hcs : cs = news.map cel) (m c : Nat) (hx : act.eval x = .slice (some ⟨w.heap.size, 0, none⟩) m c) (hm : news.length = m)
    (hs : act.eval s = .slice a n cap) (hbuf : Buf te B w a n cap l)
    (hsz : n + m ≤ 1099511627776) (hbase : B ≤ w.heap.size)
    (h : ∀ a' cap' w', Buf te B w' a' (n + m) cap' (l ++ news) → Below B w w' → wpList P ops Q rest (act.put o.dst (.slice a' (n + m) cap')) w') : wpList P ops Q (o :: rest) act (w.alloc (.cells cs.toArray te)) := by
  subst hcs
  have hsrc : Src P 1 ts (.slice (some ⟨w.heap.size, 0, none⟩) m c) m (news.map cel) (w.alloc (.cells (news.map cel).toArray te)) := by
    refine Src.ofSlice _ hP.und _ _ _ _ (by simp [hm]) ?_ (cel_one news)
    intro j u hj
    have hadd : (⟨w.heap.size, 0, none⟩ : Addr).add j = ⟨w.heap.size, j, none⟩ := by unfold Addr.add; split <;> simp_all
    rw [hadd, cell_of_row _ w.heap.size j (news.map cel).toArray te (0, 0) (heap_alloc_new w _)]
    simpa using hj
  refine wpList_app_src hP hgd s x ho hs (hbuf.alloc _) _ hx m news hsrc hsz (by simp; omega) ?_
  intro a' cap' w' h1 h2
  exact h a' cap' w' h1 (((Below.refl B w).alloc hbase _).trans h2)

/-- 'append(buf, s...)', s a string. -/
theorem wpList_appS {ops : Array Oper} {rest : List Oper} {o : Oper} {act : Act} {Q : Exit → Act → World → Prop} (hP : BytesIn P ts te) (hS : P.underlying tx = some .string) (hgd : o.guard = none) (s x : Operand)
    (ho : o.op = .call { callee := .builtin .append, args := #[s, x], argTypes := #[ts, tx] })
    (t : ByteArray) (hx : act.eval x = .string t)
    (hs : act.eval s = .slice a n cap) (hbuf : Buf te B w a n cap l)
    (hsz : n + t.size ≤ 1099511627776) (hbase : B ≤ w.heap.size)
    (h : ∀ a' cap' w', Buf te B w' a' (n + t.size) cap' (l ++ t.data.toList) → Below B w w' → wpList P ops Q rest (act.put o.dst (.slice a' (n + t.size) cap')) w') : wpList P ops Q (o :: rest) act w :=
  wpList_app_src hP hgd s x ho hs hbuf _ hx t.size t.data.toList (Src.ofString w hS t) hsz hbase h

/-- 'make([]byte, 0, c)'. -/
theorem wpList_mk {ops : Array Oper} {rest : List Oper} {o : Oper} {act : Act} {Q : Exit → Act → World → Prop} (hP : BytesIn P ts te) (hgd : o.guard = none) (p c : Operand) (ho : o.op = Op.makeSlice ts p c)
    (B : Nat) (C : Int) (m : Nat) (hp : act.eval p = .int .i64 0) (hc : act.eval c = .int .i64 C) (hC : C = (m : Int)) (hm : m ≤ 1099511627776) (hbase : B ≤ w.heap.size)
    (h : ∀ w', Buf te B w' (some ⟨w.heap.size, 0, none⟩) 0 m [] → Below B w w' → wpList P ops Q rest (act.put o.dst (.slice (some ⟨w.heap.size, 0, none⟩) 0 m)) w') : wpList P ops Q (o :: rest) act w := by
  obtain ⟨i, hi, hz, hsize, hby⟩ := hP.info
  refine wpList_make_own w hgd p c ts ho B te i _ 1 hP.und hi hz hsize .i64 .i64 C m hp hc hC (by rw [hby]; omega) (by unfold maxLen; omega) hbase ?_
  intro w' h1 h2
  exact h w' ⟨rfl, h1⟩ ((Below.refl B w).grown h2 hbase fun k hk => by cases hk)

/-- string(buf). -/
theorem Buf.str (hP : BytesIn P ts te) (hd : P.underlying tx = some .string) (h : Buf te B w a n cap l) : (convert ts tx (.slice a n cap)).run P w = .ok (.string ⟨l.toArray⟩) w := by
  obtain ⟨hn, hown⟩ := h
  rcases hown.2 with ⟨hv, hn0⟩ | ⟨g, cap0, cur, hv, hbg, hg, hnc, hcm, hcs, htake⟩
  · simp only [Value.slice.injEq] at hv
    obtain ⟨rfl, rfl, rfl⟩ := hv
    have hl0 : l = [] := List.eq_nil_of_length_eq_zero hn.symm
    subst hl0
    exact run_convert_bytes_nil w ts te hP.und hP.el 0 0 tx hd
  · simp only [Value.slice.injEq] at hv
    obtain ⟨rfl, -, rfl⟩ := hv
    have hr := run_convert_bytes_arg w ts te hP.und hP.el g 0 n cap (l.map fun b => (b.toNat : Int)) (by simp [hn]) (by
      intro j hj
      have hc := hown.cellAt j (by omega)
      rw [Nat.zero_add, hc]
      simp [cel, List.getElem?_eq_getElem (show j < l.length by omega)]) tx hd
    rw [hr]
    congr 2
    unfold strOfNums
    congr 2
    rw [List.map_map]
    conv => rhs; rw [← List.map_id l]
    apply List.map_congr_left
    intro b _
    simp

end Go.Proofs.Qxb6600050a
