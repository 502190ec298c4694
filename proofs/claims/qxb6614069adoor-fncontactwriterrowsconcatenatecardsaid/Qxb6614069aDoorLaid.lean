import Derived.Test.Qxb6614069aDoorRows
import Derived.Test.Qxb6614069aDoorShelf
import Derived.Deep.DeepWitnessRowRef
import Derived.Deep.DeepWitnessRef
import Derived.Lib.LaidIn
import Derived.Lib.LaidU8
import Derived.Lib.LaidTab
import Derived.Lib.LaidRTab
import Derived.ProofKit
namespace Go.Proofs.Qxb6614069aDoor
open Go.Lib

/-- The cells of a row of numbers. -/
def cellsOfAgg : DataW Unit → List Value
  | .agg l => l.map fun
    | .lit (.int k n) => .int k n
    | _ => .nilIface
  | _ => []

/-- Two words. -/
def pair2 (x : Nat × Nat) : List Value := [.int .u64 (x.1 : Nat), .int .u64 (x.2 : Nat)]
def pow10Cells : Array Value := (Go.Pinned.pow10Rows.flatMap pair2).toArray

/-- The witness's world: the settled one with two blocks more, the listed variables holding what is listed. -/
def IsLaid (os : Os) (W : World) : Prop :=
  let N := (World.settled Tryd.prog os).heap.size
  let w0 := World.holding Tryd.prog os ⟨#[.cells #[.string ⟨#[115, 104, 111, 114, 116, 32, 119, 114, 105, 116, 101]⟩] 157,
    .cells (Go.Pinned.cheatRows.flatMap fun x => [Value.int .i64 (x.1 : Nat), Value.string ⟨x.2.toArray⟩]).toArray 134], #[], []⟩
  let put (h : Array Obj) (g : Nat) (cs : Array Value) : Array Obj := h.modify g fun
    | .cells _ t frozen => .cells cs t frozen
    | o => o
  let h1 := put w0.heap 0 #[.iface 137 (.pointer (some ⟨N, 0, none⟩))]
  let h2 := put h1 1 (cellsOfAgg Rows.laid_internal_strconv_uint64pow10).toArray
  let h3 := put h2 2 #[.bool true]
  let h4 := put h3 3 (cellsOfAgg Rows.laid_math_bits_deBruijn32tab).toArray
  let h5 := put h4 4 (cellsOfAgg Rows.laid_math_bits_deBruijn64tab).toArray
  let h6 := put h5 5 pow10Cells
  let h7 := put h6 6 #[.slice (some ⟨N + 1, 0, none⟩) 61 61]
  W = { w0 with heap := h7 }

def theLaid : List (String × DataW Unit) := Rows.fnContactWriterRowMatchesSpecRow.laid

theorem Tryd.cells22 : Tryd.prog.cellsOf 22 = 1 := by kernel_rfl
theorem Tryd.cells127 : Tryd.prog.cellsOf 127 = 2 := by kernel_rfl
theorem Tryd.cells128 : Tryd.prog.cellsOf 128 = 1392 := by kernel_rfl

theorem pair2_at : ∀ (l : List (Nat × Nat)) (i : Nat) (x : Nat × Nat), l[i]? = some x → ((l.flatMap pair2).drop (i * 2)).take 2 = pair2 x
  | [], i, x, h => by simp at h
  | y :: t, 0, x, h => by
    simp at h
    subst h
    rw [List.flatMap_cons]
    rfl
  | y :: t, i + 1, x, h => by
    simp at h
    have e : (i + 1) * 2 = (pair2 y).length + i * 2 := by show (i + 1) * 2 = 2 + i * 2; omega
    rw [List.flatMap_cons, e, ← List.drop_drop, List.drop_left]
    exact pair2_at t i x h

theorem pair2_length : ∀ (l : List (Nat × Nat)), (l.flatMap pair2).length = l.length * 2
  | [] => rfl
  | y :: t => by rw [List.flatMap_cons, List.length_append, pair2_length t]; show 2 + t.length * 2 = (t.length + 1) * 2; omega

theorem wf64 (x : Nat) (h : x < 18446744073709551616) : (Lit.int .u64 (x : Int)).wf = true := by
  have h1 : IntKind.u64.min = 0 := by decide
  have h2 : IntKind.u64.max = 18446744073709551615 := by decide
  simp [Lit.wf, h1, h2]
  omega

/-- One row reads as its datum. -/
theorem pair2_reads {w : World} (fuel : Nat) (x : Nat × Nat) (h1 : x.1 < 18446744073709551616) (h2 : x.2 < 18446744073709551616) :
    DataW.trod (fun _ => ()) Tryd.prog w 0 (fun _ => true) false (fuel + 2) 127 (pair2 x) = some (.agg [.lit (.int .u64 x.1), .lit (.int .u64 x.2)], []) := by
  have e1 := wf64 x.1 h1
  have e2 := wf64 x.2 h2
  unfold DataW.trod
  simp only [Tryd.underlying127, Tryd.cells127]
  simp [pair2, DataW.trod, Tryd.underlying22, Tryd.cells22, e1, e2]

theorem pow10_len : Go.Pinned.pow10Rows.length = 696 := by kernel_rfl
theorem pow10_wf : (Go.Pinned.pow10Rows.all fun x => decide (x.1 < 18446744073709551616) && decide (x.2 < 18446744073709551616)) = true := by kernel_rfl

theorem rows_map {α β : Type} (l : List α) (d : α) (f : α → β) : ((List.range l.length).map fun i => f (l.getD i d)) = l.map f := by
  apply List.ext_getElem?
  intro i
  rw [List.getElem?_map, List.getElem?_map]
  by_cases h : i < l.length
  · rw [List.getElem?_range h, List.getElem?_eq_getElem h, Option.map_some, Option.map_some, List.getD_eq_getElem?_getD, List.getElem?_eq_getElem h]
    rfl
  · rw [List.getElem?_eq_none (by rw [List.length_range]; omega), List.getElem?_eq_none (by omega)]
    rfl

/-- A great row of pairs reads as its datum. -/
theorem pow10_reads' {w : World} (l : List (Nat × Nat)) (hl : l.length = 696) (hwf : ∀ x ∈ l, x.1 < 18446744073709551616 ∧ x.2 < 18446744073709551616) :
    DataW.trod (fun _ => ()) Tryd.prog w 0 (fun _ => true) false 3 128 (l.flatMap pair2) = some (.agg (l.map fun x => .agg [.lit (.int .u64 x.1), .lit (.int .u64 x.2)]), []) := by
  unfold DataW.trod
  simp only [Tryd.underlying128, Tryd.cells128, Tryd.cells127]
  rw [if_pos (by rw [pair2_length, hl])]
  have hm := Lib.mapM_someR (fun i => DataW.trod (fun _ => ()) Tryd.prog w 0 (fun _ => true) false 2 127 (((l.flatMap pair2).drop (i * 2)).take 2)) (fun i => ((DataW.agg [.lit (.int .u64 (l.getD i (0, 0)).1), .lit (.int .u64 (l.getD i (0, 0)).2)] : DataW Unit), ([] : List MemPlace))) (List.range 696) (fun i hi => by
    rw [List.mem_range] at hi
    have h1 : l[i]? = some (l.getD i (0, 0)) := by rw [List.getD_eq_getElem?_getD, List.getElem?_eq_getElem (by omega)]; rfl
    have h2 := hwf _ (List.mem_of_getElem? h1)
    rw [pair2_at l i _ h1]
    exact pair2_reads 0 _ h2.1 h2.2)
  rw [hm, Option.map_some]
  refine congrArg some (Prod.ext ?_ ?_)
  · dsimp only
    rw [List.map_map]
    have h3 := rows_map l (0, 0) (fun x => (DataW.agg [.lit (.int .u64 x.1), .lit (.int .u64 x.2)] : DataW Unit))
    rw [hl] at h3
    rw [← h3]
    rfl
  · dsimp only
    rw [List.flatMap_map]
    simp

theorem pow10_reads {w : World} : DataW.trod (fun _ => ()) Tryd.prog w 0 (fun _ => true) false 3 128 pow10Cells.toList = some (Go.Pinned.pow10Tab, []) := by
  have h := pow10_reads' (w := w) Go.Pinned.pow10Rows pow10_len (fun x hx => by
    have := List.all_eq_true.1 pow10_wf x hx
    simpa using this)
  exact h

theorem pow10_ints : ∀ (l : List (Nat × Nat)), ∀ v ∈ l.flatMap pair2, ∃ n, v = .int .u64 n := by
  intro l v hv
  obtain ⟨x, -, hx⟩ := List.mem_flatMap.1 hv
  simp [pair2] at hx
  rcases hx with rfl | rfl <;> exact ⟨_, rfl⟩

theorem pow10_size : pow10Cells.size = 1392 := by
  unfold pow10Cells
  rw [List.size_toArray, pair2_length, pow10_len]

/-- The last listed variable. -/
def nPow : String := (theLaid.map Prod.fst).getD 6 (String.ofList [])
theorem Tryd.gPow : Tryd.prog.globalNamed nPow = some 5 := by kernel_rfl
theorem Tryd.yPow : (Tryd.prog.globals[5]?).map (·.type) = some 128 := by kernel_rfl

set_option maxRecDepth 100000 in
theorem laid_pow {w : World} {t : TypeId} (hv : w.heap[5]? = some (.cells pow10Cells t (0, 0))) : LaidIn Tryd.prog w [(nPow, Go.Pinned.pow10Tab)] [5] := by
  refine LaidIn.one [5] (g := 5) (t := 128) (cs := pow10Cells) (fuel := 3) (p := []) Tryd.gPow Tryd.yPow (by simp [World.var?, Tryd.gPow, hv]) pow10_reads ?_ ?_ ?_
  · rw [List.append_nil]; exact rowP_nodup _ _
  · rw [List.append_nil]
    intro b off hp
    obtain ⟨i, hi, e⟩ := MemPlace.mem_row.1 hp
    cases e
    refine ⟨⟨_, _, hv⟩, fun u v hc => ?_⟩
    rw [Lib.cell_of_heap hv] at hc
    have hm : Value.iface u v ∈ pow10Cells.toList := by
      rw [Array.mem_toList_iff]
      exact Array.mem_of_getElem? hc
    have hm' : Value.iface u v ∈ Go.Pinned.pow10Rows.flatMap pair2 := hm
    obtain ⟨n, hn⟩ := pow10_ints _ _ hm'
    cases hn
  · rw [List.append_nil]
    intro x hx
    obtain ⟨i, _, rfl⟩ := MemPlace.mem_row.1 hx
    exact List.mem_singleton.2 rfl

def theSmall : List (String × DataW Unit) := theLaid.take 6

set_option maxRecDepth 1000000 in
theorem laid_small (os : Os) (W : World) (h : IsLaid os W) (args : Array Value) : LaidIn Tryd.prog (W.forCall (fun _ _ => 0) ⟨#[], args, []⟩).memory theSmall [3, 4, 2, 1, 0, (World.settled Tryd.prog default).heap.size, 6, (World.settled Tryd.prog default).heap.size + 1] := by
  unfold IsLaid at h
  subst h
  exact LaidIn.of_run _ 10 (by kernel_rfl) (by kernel_rfl) (by kernel_rfl) (by kernel_rfl)

set_option maxRecDepth 1000000 in
theorem laid_five (os : Os) (W : World) (h : IsLaid os W) (args : Array Value) : (W.forCall (fun _ _ => 0) ⟨#[], args, []⟩).memory.heap[5]? = some (.cells pow10Cells 128 (0, 0)) := by
  unfold IsLaid at h
  subst h
  kernel_rfl

set_option maxRecDepth 1000000 in
theorem laid_met (os : Os) (W : World) (h : IsLaid os W) (args : Array Value) : laidMet Tryd.prog theLaid (W.forCall (fun _ _ => 0) ⟨#[], args, []⟩).memory :=
  (LaidIn.append (laid_small os W h args) (laid_pow (laid_five os W h args)) (by kernel_rfl)).met

end Go.Proofs.Qxb6614069aDoor
