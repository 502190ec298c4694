import Derived.Test.Qxb6614069aDoorTop4a
import Derived.Lib.SlBytesConst
namespace Go.Proofs.Qxb6614069aDoor
open Go.RowKit Go.Lib

/-- Row t of what came in, as it lies in memory. -/
structure Cells4 (wy : World) (b1 o1 b2 o2 b3 o3 b4 o4 t : Nat) (s : Int) (x y d : Nat) : Prop where
  c1 : wy.cell? ⟨b1, o1 + t, none⟩ = some (.int .i64 s)
  c2 : wy.cell? ⟨b2, o2 + t, none⟩ = some (.int .u64 x)
  c3 : wy.cell? ⟨b3, o3 + t, none⟩ = some (.int .u64 y)
  c4 : wy.cell? ⟨b4, o4 + t, none⟩ = some (.float .f64 d)

theorem getD_at {α : Type} (l : List α) (d : α) (j : Nat) (h : j < l.length) : l[j]? = some (l.getD j d) := by
  rw [List.getD_eq_getElem?_getD, List.getElem?_eq_getElem h]; rfl

/-- What came in, as the road needs it. -/
structure Env4 (w : World) (i : Ins) (xl : List Int) (a0 a1 a2 a3 a4 : Option Addr) : Prop where
  ok : i.Ok
  tabs : TabsB w.heap.size w
  r0 : InRow w a0 (xl.map (Value.int .i64))
  r1 : InRow w a1 (i.xs.map (Value.int .i64))
  r2 : InRow w a2 (i.xa.map fun x : Nat => Value.int .u64 x)
  r3 : InRow w a3 (i.xb.map fun x : Nat => Value.int .u64 x)
  r4 : InRow w a4 (i.xd.map fun x : Nat => Value.float .f64 x)

theorem Env4.line {w : World} {i : Ins} {xl : List Int} {a0 a1 a2 a3 a4 : Option Addr} (h : Env4 w i xl a0 a1 a2 a3 a4) (t : Nat) (ht : t < xl.length) : ∃ b0 o0, a0 = some ⟨b0, o0, none⟩ ∧ ∀ wy, Below w.heap.size w wy → wy.cell? ⟨b0, o0 + t, none⟩ = some (.int .i64 (xl.getD t 0)) := by
  obtain ⟨b0, o0, e, hc⟩ := h.r0 t (.int .i64 (xl.getD t 0)) (by rw [List.getElem?_map, getD_at xl 0 t ht]; rfl)
  refine ⟨b0, o0, e, fun wy hb => ?_⟩
  rw [World.cell?_of_block (a := ⟨b0, o0 + t, none⟩) (hb.block b0 (World.block_lt_of_cell? w _ hc))]
  exact hc

theorem Env4.cells {w : World} {i : Ins} {xl : List Int} {a0 a1 a2 a3 a4 : Option Addr} (h : Env4 w i xl a0 a1 a2 a3 a4) (t : Nat) (h1 : t < i.xs.length) (h2 : t < i.xa.length) (h3 : t < i.xb.length) (h4 : t < i.xd.length) :
    ∃ b1 o1 b2 o2 b3 o3 b4 o4, a1 = some ⟨b1, o1, none⟩ ∧ a2 = some ⟨b2, o2, none⟩ ∧ a3 = some ⟨b3, o3, none⟩ ∧ a4 = some ⟨b4, o4, none⟩ ∧
      ∀ wy, Below w.heap.size w wy → Cells4 wy b1 o1 b2 o2 b3 o3 b4 o4 t (i.xs.getD t 0) (i.xa.getD t 0) (i.xb.getD t 0) (i.xd.getD t 0) := by
  obtain ⟨b1, o1, e1, k1⟩ := h.r1 t (.int .i64 (i.xs.getD t 0)) (by rw [List.getElem?_map, getD_at i.xs 0 t h1]; rfl)
  obtain ⟨b2, o2, e2, k2⟩ := h.r2 t (.int .u64 (i.xa.getD t 0)) (by rw [List.getElem?_map, getD_at i.xa 0 t h2]; rfl)
  obtain ⟨b3, o3, e3, k3⟩ := h.r3 t (.int .u64 (i.xb.getD t 0)) (by rw [List.getElem?_map, getD_at i.xb 0 t h3]; rfl)
  obtain ⟨b4, o4, e4, k4⟩ := h.r4 t (.float .f64 (i.xd.getD t 0)) (by rw [List.getElem?_map, getD_at i.xd 0 t h4]; rfl)
  refine ⟨b1, o1, b2, o2, b3, o3, b4, o4, e1, e2, e3, e4, fun wy hb => ⟨?_, ?_, ?_, ?_⟩⟩
  · rw [World.cell?_of_block (a := ⟨b1, o1 + t, none⟩) (hb.block b1 (World.block_lt_of_cell? w _ k1))]; exact k1
  · rw [World.cell?_of_block (a := ⟨b2, o2 + t, none⟩) (hb.block b2 (World.block_lt_of_cell? w _ k2))]; exact k2
  · rw [World.cell?_of_block (a := ⟨b3, o3 + t, none⟩) (hb.block b3 (World.block_lt_of_cell? w _ k3))]; exact k3
  · rw [World.cell?_of_block (a := ⟨b4, o4 + t, none⟩) (hb.block b4 (World.block_lt_of_cell? w _ k4))]; exact k4

/-- The first writer's round. -/
theorem Env4.write {w : World} {i : Ins} {xl : List Int} {a0 a1 a2 a3 a4 : Option Addr} (h : Env4 w i xl a0 a1 a2 a3 a4) (wy : World) (hb : Below w.heap.size w wy) (base C b : Nat) (hbase : w.heap.size ≤ base) (T : List UInt8) (hC : CW base wy C b T) (hT : T.length ≤ 1073741824) (z : Int) (t : Nat) :
    Calls Tryd.prog 6 #[.pointer (some ⟨C, 0, none⟩), .agg #[.int .i64 z, .int .i64 (i.xs.getD t 0), .int .u64 (i.xa.getD t 0 : Nat), .int .u64 (i.xb.getD t 0 : Nat), .float .f64 (i.xd.getD t 0)]] wy fun e w' => e = .returned (.tuple #[]) ∧ CW base w' C b (T ++ i.row t) ∧ Below base wy w' := by
  obtain ⟨⟨k1, k2⟩, k3, k4, k5⟩ := h.ok.at t
  have htab : TabsB base wy := fun wr hwr => h.tabs wr (hb.trans (hwr.mono hbase))
  exact twrite_any base wy C b T hC hT htab (.int .i64 z) _ k1 k2 _ _ _ k3 k4 k5 ⟨z, rfl⟩

/-- A row of bytes that may be appended to: the call's own, or one that is full. -/
def WRow (w : World) (v : Value) (L : List UInt8) : Prop :=
  w.ownsRow 0 5 1 v L.length (L.map byteV) ∨ ∃ g, v = .slice (some ⟨g, 0, none⟩) L.length L.length ∧ ∀ j u, (L.map byteV)[j]? = some u → w.cell? ((⟨g, 0, none⟩ : Addr).add j) = some u

theorem WRow.cells {w : World} {v : Value} {L : List UInt8} (h : WRow w v L) (hL : 1 ≤ L.length) : ∃ g c, v = .slice (some ⟨g, 0, none⟩) L.length c ∧ g < w.heap.size ∧ ∀ j u, (L.map byteV)[j]? = some u → w.cell? ((⟨g, 0, none⟩ : Addr).add j) = some u := by
  rcases h with h | ⟨g, rfl, hc⟩
  · rcases h.2 with ⟨-, e⟩ | ⟨g, cap, cur, rfl, -, hg, -⟩
    · omega
    · exact ⟨g, cap, rfl, Lib.lt_of_heap hg, h.cells (g := g) rfl⟩
  · refine ⟨g, _, rfl, ?_, hc⟩
    have h0 := hc 0 (byteV L[0]) (by rw [List.getElem?_map, List.getElem?_eq_getElem (by omega)]; rfl)
    rw [Lib.addr_add] at h0
    exact World.block_lt_of_cell? w _ h0

theorem WRow.conv {w : World} {v : Value} {L : List UInt8} (h : WRow w v L) (hL : 1 ≤ L.length) : (convert 44 9 v).run Tryd.prog w = .ok (.string (bstr L)) w := by
  obtain ⟨g, c, rfl, -, hc⟩ := h.cells hL
  exact run_convert_bytes_back (P := Tryd.prog) w 44 9 5 ⟨g, 0, none⟩ c L Tryd.underlying44 Tryd.underlying5 Tryd.underlying9 (fun j hj => hc j _ (by rw [List.getElem?_map, List.getElem?_eq_getElem hj]; rfl))

theorem WRow.below {w w' : World} {v : Value} {L : List UInt8} (h : WRow w v L) (hb : Below w.heap.size w w') : WRow w' v L := by
  rcases h with h | ⟨g, rfl, hc⟩
  · refine .inl ⟨h.1, ?_⟩
    rcases h.2 with e | ⟨g, cap, cur, rfl, h1, hg, h2⟩
    · exact .inl e
    · exact .inr ⟨g, cap, cur, rfl, h1, (hb.block g (Lib.lt_of_heap hg)).trans hg, h2⟩
  · refine .inr ⟨g, rfl, fun j u hj => ?_⟩
    have h0 := hc j u hj
    have hlt := World.block_lt_of_cell? w _ h0
    rw [Lib.addr_add] at h0 hlt ⊢
    rw [World.cell?_of_block (a := ⟨g, 0 + j, none⟩) (hb.block g hlt)]
    exact h0

/-- 'append(v, s...)' of a string, v of either kind. -/
theorem wpList_appW {ops : Array Oper} {rest : List Oper} {o : Oper} {a : Act} {Q : Exit → Act → World → Prop} (hgd : o.guard = none) (s x : Operand)
    (ho : o.op = .call { callee := .builtin .append, args := #[s, x], argTypes := #[44, 9] })
    (v : Value) (L M : List UInt8) (wr : World) (hR : WRow wr v L) (hs : a.eval s = v)
    (hx : a.eval x = .string ⟨M.toArray⟩) (hM : 1 ≤ M.length) (hL : L.length + M.length ≤ 1099511627776) (B : Nat) (hB : B ≤ wr.heap.size) (hv : ∀ k, v.ownBlock = some k → B ≤ k)
    (h : ∀ v' w', w'.ownsRow 0 5 1 v' (L ++ M).length ((L ++ M).map byteV) → (∀ k, v'.ownBlock = some k → B ≤ k) → Below B wr w' → wpList Tryd.prog ops Q rest (a.put o.dst v') w') : wpList Tryd.prog ops Q (o :: rest) a wr := by
  rcases hR with hR | ⟨g, rfl, hc⟩
  · refine wpList_appS hgd s x ho wr v v L M wr (AppR.refl hR) hs hx hL (fun v' w' hA => h v' w' hA.own (fun k hk => ?_) (below_grown hA.grown hB hv))
    rcases hA.at_ with e | ⟨j, e, hj⟩
    · exact hv k (by rw [← e]; exact hk)
    · rw [e] at hk; cases hk; omega
  · obtain ⟨i5, hi5, hi50, hi51, hi52⟩ := info_parts Tryd.info5
    have hsz : (⟨M.toArray⟩ : ByteArray).size = M.length := by simp [ByteArray.size]
    have hr := Lib.run_append_grow_string (P := Tryd.prog) wr 44 9 o.type 5 i5 (.int .u8 0) Tryd.underlying44 Tryd.underlying9 hi5 hi50 ⟨g, 0, none⟩ L.length L.length (L.map byteV) (by rw [hi51]; simp) hc ⟨M.toArray⟩ (by rw [hsz]; omega) (by rw [hsz]; omega) (by rw [hi52, hsz]; exact growslice_fits (by omega) (by omega))
    rw [hsz] at hr
    have hge := grownCap_ge wr (L.length + M.length) L.length 5
    have hcm : grownCap wr (L.length + M.length) L.length 5 ≤ maxLen := grownCap_le_maxLen wr _ _ 5 (by unfold maxLen; omega)
    have hst : strCells ⟨M.toArray⟩ = M.map byteV := rfl
    refine wpList_plain hgd fun K hK => ?_
    unfold Oper.wp
    simp [execOp, ho, resolve, invoke, builtin, hs, hx, hr, Result.andThen]
    refine hK _ _ (h _ _ ⟨by simp, .inr ⟨wr.heap.size, grownCap wr (L.length + M.length) L.length 5, _, by rw [List.length_append], Nat.zero_le _, heap_alloc_new wr.drew _, by rw [List.length_append]; exact hge, hcm, ?_, ?_⟩⟩ (fun k hk => ?_) (below_grown (r := none) ⟨rfl, rfl, rfl, by simp, fun k hk _ => Below.heap_alloc wr.drew _ k hk⟩ hB (by simp)))
    · have hz1 : (Value.int IntKind.u8 0).cells.size = 1 := rfl
      rw [hst]
      simp only [Array.size_append, List.size_toArray, size_zeroCells, hz1, List.length_append, List.length_map]
      omega
    · rw [hst]
      simp only [Array.toList_append, Nat.mul_one, List.map_append]
      exact List.take_left' (by simp)
    · have e : k = wr.heap.size := by simpa [Value.ownBlock] using hk.symm
      omega

/-- '[]byte(header)': the row is laid, and marked behind its end. -/
theorem want_conv (w : World) (k : Nat) (C : Array Value) : (convert 44 44 (.slice (some ⟨w.heap.size, 0, none⟩) 33 33)).run Tryd.prog ((w.drewN k).alloc (.cells C 5)) = .ok (.slice (some ⟨w.heap.size, 0, none⟩) 33 33) ((w.drewN k).alloc (.cells C 5 (C.size, C.size + 1))) :=
  Lib.run_convert_bytes_const (P := Tryd.prog) (w.drewN k) 44 5 C 33 33 Tryd.underlying44 Tryd.underlying5

theorem want_row (w : World) (k : Nat) (C : Array Value) (fr : Nat × Nat) (h : C = (header.map byteV).toArray) : WRow ((w.drewN k).alloc (.cells C 5 fr)) (.slice (some ⟨w.heap.size, 0, none⟩) 33 33) header := by
  refine .inr ⟨w.heap.size, rfl, fun j u hj => ?_⟩
  have hn : ((w.drewN k).alloc (.cells C 5 fr)).heap[w.heap.size]? = some (.cells C 5 fr) := heap_alloc_new (w.drewN k) _
  rw [Lib.addr_add, Lib.cell_of_heap hn, Nat.zero_add, h]
  simpa using hj

end Go.Proofs.Qxb6614069aDoor
