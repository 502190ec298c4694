import Derived.Test.Qxb6612546aFmtSmall
namespace Go.Proofs.Qxb6612546aFmt
open Go.RowKit

theorem Tryf.no70 (v : Value) (w : World) : (Instr.typeAssert (.iface 52 v) 68 70 true).run Tryf.prog w = .ok (.tuple #[.pointer none, .bool false]) w := by kernel_rfl

set_option maxRecDepth 100000 in
set_option maxHeartbeats 1000000 in
theorem newSrc_any (s : ByteArray) (w : World) : Calls Tryf.prog 34 #[.string s] w fun e w' => e = .returned (.pointer (some ⟨w.heap.size, 0, none⟩)) ∧ w' = w.alloc (.cells #[.string s, .int .i64 0, .int .i64 (-1)] 78) := by
  go_enter Tryf.func34, Tryf.ntmps34
  go_wp2
  go_ret
  exact ⟨rfl, rfl⟩

/-- The buffer of zeros. -/
theorem make4096 : ∃ B : Array Value, B = ((List.replicate 4096 (0 : UInt8)).map byteV).toArray ∧ ∀ w, (Instr.makeSlice 29 (.int .i64 (max 4096 16)) (.int .i64 (max 4096 16))).run Tryf.prog w = .ok (.slice (some ⟨w.heap.size, 0, none⟩) 4096 4096) (w.alloc (.cells B 5)) := by
  obtain ⟨i0, hi, hz0, hz1, hz2⟩ := info_parts Tryf.info5
  refine ⟨madeCells (Value.cells (.int .u8 0)) (4096 * i0.size), ?_, fun w => ?_⟩
  · rw [hz1]
    refine Array.ext' ?_
    refine (toList_madeCells_one _ _).trans ?_
    rw [List.map_replicate]
    rfl
  · exact run_makeSlice w 29 5 i0 (.int .u8 0) Tryf.underlying29 hi hz0 .i64 .i64 (max 4096 16) (max 4096 16) (by decide) (by decide) (by rw [hz1]; decide) (by rw [hz2]; decide) (by decide)


theorem heap_alloc_new (w : World) (o : Obj) : (w.alloc o).heap[w.heap.size]? = some o := by
  show (w.heap.push o)[w.heap.size]? = _
  exact Array.getElem?_push_size

theorem size_alloc (w : World) (o : Obj) : (w.alloc o).heap.size = w.heap.size + 1 := by
  show (w.heap.push o).size = _
  exact Array.size_push _

/-- What bufio.NewReader makes. -/
def BufMade (N : Nat) (w : World) (e : Ending) (w' : World) : Prop :=
  e = .returned (.pointer (some ⟨N + 1, 0, none⟩)) ∧ Below w.heap.size w w' ∧ w'.heap.size = N + 3 ∧
    w'.heap[N + 1]? = some (.cells #[.slice (some ⟨N + 2, 0, none⟩) 4096 4096, .iface 52 (.pointer (some ⟨N, 0, none⟩)), .int .i64 0, .int .i64 0, .nilIface, .int .i64 (-1), .int .i64 (-1)] 116 (0, 0)) ∧
    w'.heap[N + 2]? = some (.cells ((List.replicate 4096 (0 : UInt8)).map byteV).toArray 5 (0, 0))

set_option maxRecDepth 100000 in
set_option maxHeartbeats 1000000 in
theorem newSize_any (N : Nat) (w : World) (hN : w.heap.size = N + 1) : Calls Tryf.prog 62 #[.iface 52 (.pointer (some ⟨N, 0, none⟩)), .int .i64 4096] w (BufMade N w) := by
  have h70 := Tryf.no70
  obtain ⟨B, hB, hmk⟩ := make4096
  have hB' := hide hB
  clear hB
  go_enter Tryf.func62, Tryf.ntmps62
  go_wp2
  go_end0
  go_wp2
  go_ret
  refine ⟨rfl, ((Below.refl _ w).alloc (Nat.le_refl _) _).alloc (by rw [size_alloc]; omega) _, ?_, ?_, ?_⟩
  · rw [size_alloc, size_alloc, hN]
  · rw [Below.heap_alloc _ _ (N + 1) (by rw [size_alloc]; omega)]
    have := heap_alloc_new w (Obj.cells #[Value.slice (some { block := N + 1 + 1, off := 0 }) 4096 4096, Value.iface 52 (Value.pointer (some { block := N, off := 0 })), Value.int IntKind.i64 0, Value.int IntKind.i64 0, Value.nilIface, Value.int IntKind.i64 (-1), Value.int IntKind.i64 (-1)] 116)
    rw [hN] at this
    exact this
  · rw [← unhide hB']
    have := heap_alloc_new (w.alloc (Obj.cells #[Value.slice (some { block := N + 1 + 1, off := 0 }) 4096 4096, Value.iface 52 (Value.pointer (some { block := N, off := 0 })), Value.int IntKind.i64 0, Value.int IntKind.i64 0, Value.nilIface, Value.int IntKind.i64 (-1), Value.int IntKind.i64 (-1)] 116)) (Obj.cells B 5)
    rw [size_alloc, hN] at this
    exact this

set_option maxRecDepth 100000 in
set_option maxHeartbeats 1000000 in
theorem newBuf_any (N : Nat) (w : World) (hN : w.heap.size = N + 1) : Calls Tryf.prog 49 #[.iface 52 (.pointer (some ⟨N, 0, none⟩))] w (BufMade N w) := by
  have HC := hide (newSize_any N w hN)
  go_enter Tryf.func49, Tryf.ntmps49
  go_wp2_with fail
  refine (unhide HC).mono ?_
  rintro en w1 ⟨rfl, h1⟩
  have h1' := hide h1
  clear HC h1
  go_wp2
  go_ret
  exact ⟨rfl, unhide h1'⟩

/-- What csv.NewReader makes. -/
def CsvMade (N : Nat) (s : ByteArray) (w : World) (e : Ending) (w' : World) : Prop :=
  e = .returned (.pointer (some ⟨N + 3, 0, none⟩)) ∧ Below w.heap.size w w' ∧ w'.heap.size = N + 4 ∧ Buf w' N s 0 0 0 .nilIface (List.replicate 4096 0) (-1) (-1) (-1) ∧
    w'.heap[N + 3]? = some (.cells #[.int .i32 44, .int .i32 0, .int .i64 0, .bool false, .bool false, .bool false, .bool false, .pointer (some ⟨N + 1, 0, none⟩), .int .i64 0, .int .i64 0, .slice none 0 0, .slice none 0 0, .slice none 0 0, .slice none 0 0, .slice none 0 0] 73 (0, 0))

set_option maxRecDepth 100000 in
set_option maxHeartbeats 1000000 in
theorem newCsv_any (N : Nat) (s : ByteArray) (w : World) (hN : w.heap.size = N + 1) (hs : s.size ≤ 4194304) (h0 : w.heap[N]? = some (.cells #[.string s, .int .i64 0, .int .i64 (-1)] 78 (0, 0))) : Calls Tryf.prog 44 #[.iface 52 (.pointer (some ⟨N, 0, none⟩))] w (CsvMade N s w) := by
  have HC := hide (newBuf_any N w hN)
  have h0' := hide h0
  clear h0
  go_enter Tryf.func44, Tryf.ntmps44
  go_wp2_with fail
  refine (unhide HC).mono ?_
  rintro en w1 ⟨rfl, hb, hn, h1, h2⟩
  have h1' := hide h1
  have h2' := hide h2
  have hb' := hide hb
  clear HC h1 h2 hb
  go_wp2
  go_ret
  have hb := unhide hb'
  refine ⟨rfl, hb.alloc hb.size _, ?_, ⟨?_, ?_, ?_, by simp, Nat.le_refl _, by omega, by omega, hs⟩, ?_⟩
  · rw [size_alloc, hn]
  · rw [Below.heap_alloc _ _ N (by omega), hb.block N (by omega)]
    exact unhide h0'
  · rw [Below.heap_alloc _ _ (N + 1) (by omega)]
    exact unhide h1'
  · rw [Below.heap_alloc _ _ (N + 2) (by omega)]
    exact unhide h2'
  · rw [← hn]
    exact heap_alloc_new w1 _
end Go.Proofs.Qxb6612546aFmt
