import Derived.Test.Qxb6614069aDoorBuf2
namespace Go.Proofs.Qxb6614069aDoor
open Go.RowKit

def splice (cur : List Value) (o : Nat) (cs : List Value) : List Value := cur.take o ++ cs ++ cur.drop (o + cs.length)

theorem splice_length (cur : List Value) (o : Nat) (cs : List Value) (h : o + cs.length ≤ cur.length) : (splice cur o cs).length = cur.length := by
  unfold splice
  simp only [List.length_append, List.length_take, List.length_drop]
  omega

theorem splice_take (cur : List Value) (o : Nat) (cs : List Value) (h : o + cs.length ≤ cur.length) : (splice cur o cs).take (o + cs.length) = cur.take o ++ cs := by
  unfold splice
  rw [List.take_left' (by simp only [List.length_append, List.length_take]; omega)]

/-- copy(dst, src) as one step of a region that draws; all but dst's block stays. -/
theorem step_copy {ops : Array Oper} {o : Oper} {a : Act} {w : World} {K : Act → World → Prop} {Q : Exit → Act → World → Prop} {E : Prop} (hgd : o.guard = none) (d s : Operand)
    (ho : o.op = .call { callee := .builtin .copy, args := #[d, s], argTypes := #[44, 44] })
    (dp sp : Option Addr) (dLen dCap sLen sCap : Nat) (hd : a.eval d = .slice dp dLen dCap) (hs : a.eval s = .slice sp sLen sCap)
    (g off : Nat) (cur : List Value) (hg : w.heap[g]? = some (.cells cur.toArray 5 (0, 0))) (cs : List Value) (hn : cs.length = Nat.min sLen dLen)
    (hpos : 0 < cs.length → dp = some ⟨g, off, none⟩ ∧ ∃ ad, sp = some ad ∧ ∀ j v, cs[j]? = some v → w.cell? (ad.add j) = some v)
    (hfit : off + cs.length ≤ cur.length) (h1 : ∀ v ∈ cs, v.oneCell' = true)
    (h : ∀ w', Hid (w'.heap[g]? = some (.cells (splice cur off cs).toArray 5 (0, 0))) → Hid (Kept (fun k => k = g) w w') → K (a.put o.dst (goInt cs.length)) w') :
    if Region.wanted o (yielded ops a.tmps) = true then Oper.wp Tryd.prog o a w K Q else E := by
  have hw : Region.wanted o (yielded ops a.tmps) = true := by simp [Region.wanted, hgd]
  rw [if_pos hw]
  by_cases h0 : cs.length = 0
  · obtain rfl : cs = [] := List.eq_nil_of_length_eq_zero h0
    have hrun := run_copy_none (P := Tryd.prog) w 44 44 o.type 5 dp sp dLen dCap sLen sCap Tryd.underlying44 size5 (by simpa using hn.symm)
    unfold Oper.wp
    simp [execOp, ho, resolve, invoke, builtin, hd, hs, hrun, Result.andThen]
    exact h w (show _ = _ by simpa [splice] using hg) (Kept.refl _ _)
  · obtain ⟨rfl, ad, rfl, hsrc⟩ := hpos (by omega)
    have hrun := run_copy_row (P := Tryd.prog) w 44 44 o.type 5 g off dLen dCap ad sLen sCap cur.toArray 5 cs Tryd.underlying44 size5 hg hn hsrc (by simpa using hfit) h1
    unfold Oper.wp
    simp [execOp, ho, resolve, invoke, builtin, hd, hs, hrun, Result.andThen]
    exact h _ (show _ = _ by simpa [splice] using setRow_heap w g _ _ 5 _ hg) (Kept.setRow _ _ _)

/-- The same of a string's bytes, all of which fit. -/
theorem step_copyS {ops : Array Oper} {o : Oper} {a : Act} {w : World} {K : Act → World → Prop} {Q : Exit → Act → World → Prop} {E : Prop}
    (hgd : o.guard = none) (d x : Operand) (hop : o.op = Op.call { callee := Callee.builtin Builtin.copy, args := #[d, x], argTypes := #[44, 9] })
    (g off dLen dCap : Nat) (hd : a.eval d = .slice (some ⟨g, off, none⟩) dLen dCap) (s : ByteArray) (hx : a.eval x = .string s) (cur : List Value)
    (hg : w.heap[g]? = some (.cells cur.toArray 5 (0, 0))) (hM : s.size ≤ dLen) (hfit : off + s.size ≤ cur.length)
    (hK : ∀ w', Hid (w'.heap[g]? = some (.cells (splice cur off (s.data.toList.map byteV)).toArray 5 (0, 0))) → Hid (Kept (fun k => k = g) w w') → K (a.put o.dst (goInt s.size)) w') :
    if Region.wanted o (yielded ops a.tmps) = true then Oper.wp Tryd.prog o a w K Q else E := by
  have hw : Region.wanted o (yielded ops a.tmps) = true := by simp [Region.wanted, hgd]
  rw [if_pos hw]
  have hsz : s.data.toList.length = s.size := by rw [Array.length_toList]; rfl
  have hst := run_storeCells_at Tryd.prog g off 5 (s.data.toList.map byteV) 0 cur.toArray w hg (by rw [List.length_map, hsz]; simpa using hfit) (byteV_one _)
  simp only [Nat.add_zero] at hst
  obtain ⟨i0, hi, -, hz1, -⟩ := info_parts Tryd.info5
  have hmin : Nat.min s.size dLen = s.size := Nat.min_eq_left hM
  have e1 : List.take s.size (List.map (fun b : UInt8 => Value.int IntKind.u8 (b.toNat : Int)) s.data.toList) = s.data.toList.map byteV := by
    rw [List.take_of_length_le (by rw [List.length_map, hsz]; exact Nat.le_refl _)]; rfl
  have hrun : (Builtin.copy_ #[44, 9] o.type #[.slice (some ⟨g, off, none⟩) dLen dCap, .string s]).run Tryd.prog w = .ok (goInt s.size) (w.setRow g (splice cur off (s.data.toList.map byteV)).toArray) := by
    simp [Builtin.copy_, run_underlying Tryd.underlying44, Builtin.lenOf, Builtin.firstCells, sizeOf, typeInfo, hi, hmin]
    rw [e1, hst]
    simp [Result.andThen, splice]
  unfold Oper.wp
  simp [execOp, hop, resolve, invoke, builtin, hd, hx, hrun, Result.andThen]
  exact hK _ (setRow_heap w g _ _ 5 _ hg) (Kept.setRow _ _ _)

/-- A bufio.Writer in block X, its buffer R, over the bytes.Buffer b: O is written through, Pd waits. -/
structure Wr (w : World) (X R b : Nat) (v : Value) (O Pd : List UInt8) : Prop where
  x : w.heap[X]? = some (.cells #[.nilIface, .slice (some ⟨R, 0, none⟩) 4096 4096, .int .i64 Pd.length, .iface 25 (.pointer (some ⟨b, 0, none⟩))] 70 (0, 0))
  r : ∃ cur : List Value, w.heap[R]? = some (.cells cur.toArray 5 (0, 0)) ∧ cur.length = 4096 ∧ cur.take Pd.length = Pd.map byteV
  n : Pd.length ≤ 4096
  bf : Bf w b v O
  xr : X ≠ R
  xb : X ≠ b
  rb : R ≠ b
  vx : v.ownBlock ≠ some X
  vr : v.ownBlock ≠ some R

theorem Wr.cells {w : World} {X R b : Nat} {v : Value} {O Pd : List UInt8} (h : Wr w X R b v O Pd) :
    w.cell? ⟨X, 0, none⟩ = some .nilIface ∧ w.cell? ⟨X, 1, none⟩ = some (.slice (some ⟨R, 0, none⟩) 4096 4096) ∧ w.cell? ⟨X, 2, none⟩ = some (.int .i64 Pd.length) ∧ w.cell? ⟨X, 3, none⟩ = some (.iface 25 (.pointer (some ⟨b, 0, none⟩))) := by
  refine ⟨?_, ?_, ?_, ?_⟩ <;> rw [Lib.cell_of_heap h.x] <;> rfl

theorem Wr.keptS {S : Nat → Prop} {w w' : World} {X R b : Nat} {v : Value} {O Pd : List UInt8} (h : Wr w X R b v O Pd) (hk : Kept S w w') (hX : ¬ S X) (hR : ¬ S R) (hb : ¬ S b) (hv : ∀ k, v.ownBlock = some k → ¬ S k) : Wr w' X R b v O Pd := by
  obtain ⟨cur, r1, r2⟩ := h.r
  exact ⟨hk.heap h.x hX, ⟨cur, hk.heap r1 hR, r2⟩, h.n, h.bf.keptS hk hb hv, h.xr, h.xb, h.rb, h.vx, h.vr⟩

theorem Wr.lt {w : World} {X R b : Nat} {v : Value} {O Pd : List UInt8} (h : Wr w X R b v O Pd) : X < w.heap.size ∧ R < w.heap.size ∧ b < w.heap.size := by
  obtain ⟨cur, r1, _⟩ := h.r
  exact ⟨Lib.lt_of_heap h.x, Lib.lt_of_heap r1, h.bf.lt⟩

theorem Wr.src {w : World} {X R b : Nat} {v : Value} {O Pd : List UInt8} (h : Wr w X R b v O Pd) : ∀ j u, (Pd.map byteV)[j]? = some u → w.cell? ((⟨R, 0, none⟩ : Addr).add j) = some u := by
  obtain ⟨cur, r1, r2, r3⟩ := h.r
  intro j u hj
  rw [← r3] at hj
  exact Lib.cells_of_row r1 Pd.length j u (by simpa using hj)

/-- The blocks that a writer's steps may turn. -/
def WrS (X R b : Nat) (v : Value) (k : Nat) : Prop := k = X ∨ k = R ∨ k = b ∨ v.ownBlock = some k

set_option maxRecDepth 100000 in
set_option maxHeartbeats 2000000 in
theorem avail_any (w : World) (X R b : Nat) (v : Value) (O Pd : List UInt8) (h : Wr w X R b v O Pd) : Calls Tryd.prog 27 #[.pointer (some ⟨X, 0, none⟩)] w fun e w' => e = .returned (.int .i64 ((4096 - Pd.length : Nat) : Int)) ∧ ∃ n, w' = w.drewN n := by
  obtain ⟨c0, c1, c2, c3⟩ := h.cells
  have hn := h.n
  have hsub : (4096 : Int) - (Pd.length : Int) = ((4096 - Pd.length : Nat) : Int) := by omega
  obtain ⟨m, hm⟩ : ∃ m, m = Pd.length := ⟨_, rfl⟩
  rw [← hm] at c2 hn hsub ⊢
  clear h hm c0 c3
  go_enter Tryd.func27, Tryd.ntmps27
  go_wp2
  go_quiet (fail)
  go_wp2
  go_ret
  exact ⟨by first | rfl | (rw [hsub]), _, rfl⟩

set_option maxRecDepth 100000 in
set_option maxHeartbeats 2000000 in
theorem buffered_any (w : World) (X R b : Nat) (v : Value) (O Pd : List UInt8) (h : Wr w X R b v O Pd) : Calls Tryd.prog 28 #[.pointer (some ⟨X, 0, none⟩)] w fun e w' => e = .returned (.int .i64 (Pd.length : Int)) ∧ w' = w := by
  obtain ⟨c0, c1, c2, c3⟩ := h.cells
  clear h
  go_enter Tryd.func28, Tryd.ntmps28
  go_wp2
  go_ret
  exact ⟨rfl, rfl⟩

/-- What Flush leaves. -/
def FlP (w : World) (X R b : Nat) (v : Value) (T : List UInt8) (e : Ending) (w' : World) : Prop :=
  e = .returned .nilIface ∧ ∃ v', Wr w' X R b v' T [] ∧ Kept (WrS X R b v) w w' ∧ Went w v v'

theorem flush_last {w w2 : World} {X R b : Nat} {v : Value} {O Pd : List UInt8} (h : Wr w X R b v O Pd) {e : Ending} (hw : BwP w b v O Pd e w2) : FlP w X R b v (O ++ Pd) (.returned .nilIface) (w2.setCell ⟨X, 2, none⟩ (.int .i64 0)) := by
  obtain ⟨-, v', q1, q2, q3⟩ := hw
  obtain ⟨lx, lr, lb⟩ := h.lt
  have hSX : ¬ (X = b ∨ v.ownBlock = some X) := by rintro (e | e); exact h.xb e; exact h.vx e
  have hSR : ¬ (R = b ∨ v.ownBlock = some R) := by rintro (e | e); exact h.rb e; exact h.vr e
  have hx2 := Lib.heap_setCell_same (i := 2) (q2.heap h.x hSX) (.int .i64 0)
  obtain ⟨cur, r1, r2, r3⟩ := h.r
  have vx' := q3.ne lx h.vx
  have vr' := q3.ne lr h.vr
  refine ⟨rfl, v', ⟨hx2, ⟨cur, ?_, r2, by simp⟩, by simp, q1.keptS (Kept.setCell _ ⟨X, 2, none⟩ _) (Ne.symm h.xb) (fun k hk e => vx' (by rw [hk, show k = X from e])), h.xr, h.xb, h.rb, vx', vr'⟩, ?_, q3⟩
  · rw [Below.heap_setCell _ _ _ _ (Ne.symm h.xr)]; exact q2.heap r1 hSR
  · exact (q2.mono (fun k hk _ => by rcases hk with e | e; exact .inr (.inr (.inl e)); exact .inr (.inr (.inr e)))).trans (Kept.setCell _ ⟨X, 2, none⟩ _) (fun k hk _ => .inl hk)

end Go.Proofs.Qxb6614069aDoor
