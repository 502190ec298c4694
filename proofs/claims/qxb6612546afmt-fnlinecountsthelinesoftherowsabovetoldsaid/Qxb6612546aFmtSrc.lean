import Derived.Test.Qxb6612546aFmtNormW
import Derived.Laws.CopyOwn
import Derived.Deep.RegionLaw
import Derived.BigQuiet
import Derived.Deep.QuietTactic
namespace Go.Proofs.Qxb6612546aFmt
open Go.RowKit

/-- All blocks are as they were, but those in S. -/
structure Fr (S : Nat → Prop) (w w' : World) : Prop where
  os : w'.os = w.os
  tape : w'.tape = w.tape
  output : w'.output = w.output
  size : w.heap.size ≤ w'.heap.size
  block : ∀ k, k < w.heap.size → ¬ S k → w'.heap[k]? = w.heap[k]?

theorem Fr.refl (S : Nat → Prop) (w : World) : Fr S w w := ⟨rfl, rfl, rfl, Nat.le_refl _, fun _ _ _ => rfl⟩

theorem Fr.trans {S T : Nat → Prop} {a b c : World} (h : Fr S a b) (k : Fr T b c) (hT : ∀ i, i < a.heap.size → T i → S i) : Fr S a c :=
  ⟨k.os.trans h.os, k.tape.trans h.tape, k.output.trans h.output, Nat.le_trans h.size k.size, fun i hi hs => (k.block i (Nat.lt_of_lt_of_le hi h.size) (fun e => hs (hT i hi e))).trans (h.block i hi hs)⟩

theorem Fr.mono {S T : Nat → Prop} {a b : World} (h : Fr S a b) (hT : ∀ i, i < a.heap.size → S i → T i) : Fr T a b :=
  ⟨h.os, h.tape, h.output, h.size, fun i hi hs => h.block i hi fun e => hs (hT i hi e)⟩

theorem Fr.of_below {S : Nat → Prop} {a b : World} (h : Below a.heap.size a b) : Fr S a b := ⟨h.os, h.tape, h.output, h.size, fun k hk _ => h.block k hk⟩

theorem Fr.to_below {S : Nat → Prop} {w w' : World} {B : Nat} (h : Fr S w w') (hS : ∀ k, k < B → ¬ S k) (hB : B ≤ w.heap.size) : Below B w w' :=
  ⟨h.os, h.tape, h.output, h.size, fun k hk => h.block k (by omega) (hS k hk)⟩

theorem Fr.cell {S : Nat → Prop} {w w' : World} (h : Fr S w w') {a : Addr} {v : Value} (hc : w.cell? a = some v) (hs : ¬ S a.block) : w'.cell? a = some v := by
  rw [World.cell?_of_block (h.block a.block (World.block_lt_of_cell? w a hc) hs)]; exact hc

theorem Fr.heap {S : Nat → Prop} {w w' : World} (h : Fr S w w') {k : Nat} {o : Obj} (hc : w.heap[k]? = some o) (hs : ¬ S k) : w'.heap[k]? = some o := by
  rw [h.block k (Array.getElem?_eq_some_iff.1 hc).1 hs]; exact hc

theorem Fr.own {S : Nat → Prop} {w w' : World} {base e size n : Nat} {v : Value} {xs : List Value} (h : w.ownsRow base e size v n xs) (hf : Fr S w w') (hs : ∀ g, v.ownBlock = some g → ¬ S g) : w'.ownsRow base e size v n xs := by
  refine ⟨h.1, ?_⟩
  rcases h.2 with h0 | ⟨g, cap, cur, rfl, hb, hg, h3⟩
  · exact .inl h0
  · exact .inr ⟨g, cap, cur, rfl, hb, hf.heap hg (hs g rfl), h3⟩

theorem fr_setCell (w : World) (b j : Nat) (v : Value) : Fr (fun k => k = b) w (w.setCell ⟨b, j, none⟩ v) :=
  ⟨rfl, rfl, rfl, by simp [World.setCell], fun k _ hk => Below.heap_setCell _ _ _ _ (fun e => hk (by rw [e]))⟩

theorem fr_setRow (w : World) (g : Nat) (cs : Array Value) : Fr (fun k => k = g) w (w.setRow g cs) :=
  ⟨rfl, rfl, rfl, by simp [World.setRow], fun k _ hk => setRow_other w g k cs hk⟩

theorem fr_grown {w w' : World} {r : Option Nat} (h : w.grownBy w' r) : Fr (fun k => r = some k) w w' :=
  ⟨h.os, h.tape, h.output, h.size, fun k hk hs => h.block k hk (fun e => hs e.symm)⟩

theorem StrS.fr {S : Nat → Prop} {w w' : World} {v : Value} {xs : List ByteArray} (h : StrS w v xs) (hf : Fr S w w') (hs : ∀ g, v.ownBlock = some g → ¬ S g) : StrS w' v xs :=
  h.same fun _ _ ha ho => hf.cell ha (hs _ ho)

/-- The first k bytes of a string, as cells. -/
def strCells (s : ByteArray) (k : Nat) : List Value := (s.data.toList.take k).map byteV

theorem strCells_length (s : ByteArray) (k : Nat) (h : k ≤ s.size) : (strCells s k).length = k := by simp [strCells]; omega

theorem bdrew {B n : Nat} {a w : World} (h : Below B a w) : Below B a (w.drewN n) := h.trans ⟨rfl, rfl, rfl, Nat.le_refl _, fun _ _ => rfl⟩

theorem fdrew {S : Nat → Prop} {n : Nat} {a w : World} (h : Fr S a w) : Fr S a (w.drewN n) := ⟨h.os, h.tape, h.output, h.size, h.block⟩

/-- copy(dst, s), s a string of any length. -/
theorem run_copy_string_min {P : Program} (w : World) (dT sT ty elem : TypeId) (g o dLen dCap : Nat) (s : ByteArray) (cur : List Value) (t : TypeId)
    (hu : P.underlying dT = some (.slice elem)) (hs : (P.info? elem).map (·.size) = some 1) (hg : w.heap[g]? = some (.cells cur.toArray t (0, 0))) (hfit : o + Nat.min s.size dLen ≤ cur.length) :
    (Builtin.copy_ #[dT, sT] ty #[.slice (some ⟨g, o, none⟩) dLen dCap, .string s]).run P w =
      .ok (goInt (Nat.min s.size dLen)) (w.setRow g (splice cur o (strCells s (Nat.min s.size dLen))).toArray) := by
  have hlen : (strCells s (Nat.min s.size dLen)).length = Nat.min s.size dLen := strCells_length s _ (Nat.min_le_left _ _)
  have h1 : ∀ v ∈ strCells s (Nat.min s.size dLen), v.oneCell' = true := by
    intro v hv
    obtain ⟨b, _, rfl⟩ := List.mem_map.1 hv
    rfl
  have hst := run_storeCells_at P g o t (strCells s (Nat.min s.size dLen)) 0 cur.toArray w hg (by rw [hlen]; simpa using hfit) h1
  have htk : List.take (Nat.min s.size dLen) (List.map (fun b : UInt8 => Value.int IntKind.u8 (b.toNat : Int)) s.data.toList) = strCells s (Nat.min s.size dLen) := by
    rw [strCells, List.map_take]; rfl
  simp only [Nat.add_zero] at hst
  cases hq : P.info? elem with
  | none => simp [hq] at hs
  | some i =>
    simp [Builtin.copy_, run_underlying hu, Builtin.lenOf, Builtin.firstCells, sizeOf, typeInfo, hq]
    rw [htk, hst]
    simp [Result.andThen, splice]

/-- The same as one step of a region that draws. -/
theorem step_copy_string_min {P : Program} {ops : Array Oper} {o : Oper} {a : Act} {w : World} {K : Act → World → Prop} {Q : Exit → Act → World → Prop} {E : Prop}
    (hgd : o.guard = none) (d x : Operand) (dT sT : TypeId) (hop : o.op = Op.call { callee := Callee.builtin Builtin.copy, args := #[d, x], argTypes := #[dT, sT] })
    (elem : TypeId) (hu : P.underlying dT = some (.slice elem)) (hz : (P.info? elem).map (·.size) = some 1)
    (g off dLen dCap : Nat) (hd : a.eval d = .slice (some ⟨g, off, none⟩) dLen dCap) (s : ByteArray) (hx : a.eval x = .string s) (cur : List Value) (t : TypeId)
    (hg : w.heap[g]? = some (.cells cur.toArray t (0, 0))) (hfit : off + Nat.min s.size dLen ≤ cur.length)
    (hK : ∀ w', Hid (w'.heap[g]? = some (.cells (splice cur off (strCells s (Nat.min s.size dLen))).toArray t (0, 0))) → Fr (fun k => k = g) w w' → K (a.put o.dst (goInt (Nat.min s.size dLen))) w') :
    if Region.wanted o (yielded ops a.tmps) = true then Oper.wp P o a w K Q else E := by
  have hw : Region.wanted o (yielded ops a.tmps) = true := by simp [Region.wanted, hgd]
  rw [if_pos hw]
  have hrun := run_copy_string_min (P := P) w dT sT o.type elem g off dLen dCap s cur t hu hz hg hfit
  unfold Oper.wp
  simp [execOp, hop, resolve, invoke, builtin, hd, hx, hrun, Result.andThen]
  exact hK _ (setRow_heap w g _ _ t _ hg) (fr_setRow _ _ _)

set_option maxRecDepth 100000 in
set_option maxHeartbeats 1000000 in
/-- (strings.Reader).Read at its end. -/
theorem read_end (N i : Nat) (pr : Int) (s : ByteArray) (eof : Value) (a : Option Addr) (n c : Nat) (w : World) (h0 : w.heap[N]? = some (.cells #[.string s, .int .i64 i, .int .i64 pr] 78 (0, 0))) (he : w.cell? ⟨0, 0, none⟩ = some eof) (hi : s.size ≤ i) (hi2 : i ≤ 4194304) :
    Calls Tryf.prog 97 #[.pointer (some ⟨N, 0, none⟩), .slice a n c] w fun e w' => e = .returned (.tuple #[.int .i64 0, eof]) ∧ Below w.heap.size w w' := by
  have c0 : w.cell? ⟨N, 0, none⟩ = some (.string s) := by rw [cell_of_row w N _ _ _ _ h0]; rfl
  have c1 : w.cell? ⟨N, 1, none⟩ = some (.int .i64 i) := by rw [cell_of_row w N _ _ _ _ h0]; rfl
  have hs : s.size ≤ 4194304 := by omega
  clear h0
  go_enter Tryf.func97, Tryf.ntmps97
  go_wp2
  go_quiet (fail)
  go_wp2
  go_quiet (fail)
  go_wp2
  go_ret2
  exact ⟨rfl, bdrew (bdrew (Below.refl _ w))⟩

theorem Tryf.size5 : (Tryf.prog.info? 5).map (·.size) = some 1 := by kernel_rfl

set_option maxRecDepth 100000 in
set_option maxHeartbeats 1000000 in
/-- (strings.Reader).Read ahead of its end: as many bytes as fit. -/
theorem read_some (N g i o n c : Nat) (pr : Int) (s : ByteArray) (cur : List Value) (w : World) (h0 : w.heap[N]? = some (.cells #[.string s, .int .i64 i, .int .i64 pr] 78 (0, 0))) (h1 : w.heap[g]? = some (.cells cur.toArray 5 (0, 0)))
    (hne : N ≠ g) (hi : i < s.size) (hs : s.size ≤ 4194304) (hfit : o + n ≤ cur.length) (hn : n ≤ 4194304) :
    Calls Tryf.prog 97 #[.pointer (some ⟨N, 0, none⟩), .slice (some ⟨g, o, none⟩) n c] w fun e w' => e = .returned (.tuple #[.int .i64 (Nat.min (s.size - i) n : Nat), .nilIface]) ∧ Fr (fun k => k = N ∨ k = g) w w' ∧
      w'.heap[N]? = some (.cells #[.string s, .int .i64 (i + Nat.min (s.size - i) n : Nat), .int .i64 (-1)] 78 (0, 0)) ∧
      w'.heap[g]? = some (.cells (splice cur o (strCells (s.extract i s.size) (Nat.min (s.size - i) n))).toArray 5 (0, 0)) := by
  have c0 : w.cell? ⟨N, 0, none⟩ = some (.string s) := by rw [cell_of_row w N _ _ _ _ h0]; rfl
  have c1 : w.cell? ⟨N, 1, none⟩ = some (.int .i64 i) := by rw [cell_of_row w N _ _ _ _ h0]; rfl
  have c2 : w.cell? ⟨N, 2, none⟩ = some (.int .i64 pr) := by rw [cell_of_row w N _ _ _ _ h0]; rfl
  have f1 : w.frozen? ⟨N, 1, none⟩ = false := frozen_of_row w N _ _ _ h0
  have f2 : w.frozen? ⟨N, 2, none⟩ = false := frozen_of_row w N _ _ _ h0
  obtain ⟨t, ht⟩ : ∃ t, s.extract i s.size = t := ⟨_, rfl⟩
  have htz : t.size = s.size - i := by rw [← ht, ByteArray.size_extract]; omega
  have hht := hide ht
  have hg' : (w.setCell ⟨N, 2, none⟩ (.int .i64 (-1))).heap[g]? = some (.cells cur.toArray 5 (0, 0)) := (fr_setCell w N 2 _).heap h1 (fun e => hne e.symm)
  have hmin : Nat.min t.size n ≤ n := Nat.min_le_right _ _
  have hmin2 : Nat.min t.size n ≤ t.size := Nat.min_le_left _ _
  have hfit' := hide (show o + Nat.min t.size n ≤ cur.length by omega)
  have hg1 := hide hg'
  have hh0 := hide h0
  have hh1 := hide h1
  obtain ⟨q, hq⟩ : ∃ q, Nat.min t.size n = q := ⟨_, rfl⟩
  have hq' := hide hq
  have hle : i ≤ s.size := by omega
  clear h0 h1 hg'
  rw [hq] at hmin hmin2
  have hz := hide htz
  have hmin3 : q ≤ s.size - i := by omega
  clear htz hmin2
  go_enter Tryf.func97, Tryf.ntmps97
  go_wp2
  go_quiet (fail)
  go_wp2
  go_region_law (refine step_copy_string_min rfl (.tmp 20) (.tmp 29) 29 9 rfl 5 Tryf.underlying29 Tryf.size5 g o n c (by simp [Act.eval, Act.put]) t (by simp [Act.eval, Act.put]) cur 5 (by exact unhide hg1) (unhide hfit') ?_; intro w2 hg2 hf2)
  all_goals
    have hN2 : w2.heap[N]? = some (.cells #[.string s, .int .i64 i, .int .i64 (-1)] 78 (0, 0)) := hf2.heap (by exact heap_setCell_same w N 2 _ _ _ (unhide hh0)) hne
    have hfr : Hid (Fr (fun k => k = N ∨ k = g) w w2) := Fr.trans (Fr.mono (fr_setCell w N 2 (.int .i64 (-1))) (fun i _ h => .inl h)) ⟨hf2.os, hf2.tape, hf2.output, hf2.size, hf2.block⟩ (fun i _ h => .inr h)
    have d1 : w2.cell? ⟨N, 1, none⟩ = some (.int .i64 i) := by rw [cell_of_row w2 N _ _ _ _ hN2]; rfl
    have g1 : w2.frozen? ⟨N, 1, none⟩ = false := frozen_of_row w2 N _ _ _ hN2
    have hN2' := hide hN2
    clear hN2 hf2
    have heq : Hid (Nat.min (s.size - i) n = q) := by rw [Hid, ← unhide hz]; exact unhide hq'
    have hg3 := hg2.out
    rw [unhide hq'] at hg3
    have hg3' := hide hg3
    clear hg2 hg3
    go_wp2
    go_ret2
    rw [unhide heq, unhide hht]
    refine ⟨by simp, Fr.trans (unhide hfr) (fr_setCell w2 N 1 _) (fun i _ h => .inl h), ?_, (fr_setCell w2 N 1 _).heap (unhide hg3') (fun e => hne e.symm)⟩
    rw [heap_setCell_same w2 N 1 _ _ _ (unhide hN2')]
    simp
end Go.Proofs.Qxb6612546aFmt
