import Derived.Test.Qxb6614069aDoorBio
namespace Go.Proofs.Qxb6614069aDoor
open Go.RowKit

theorem BwP.drew {w w' : World} {b m : Nat} {v : Value} {O P : List UInt8} {e : Ending} (h : BwP (w.drewN m) b v O P e w') : BwP w b v O P e w' := by
  obtain ⟨h1, v', q1, q2, q3⟩ := h
  exact ⟨h1, v', q1, ⟨q2.os, q2.tape, q2.output, q2.size, q2.block⟩, q3⟩

theorem Wr.drew {w : World} {X R b : Nat} {v : Value} {O Pd : List UInt8} (h : Wr w X R b v O Pd) (m : Nat) : Wr (w.drewN m) X R b v O Pd :=
  h.keptS (Kept.drew (fun _ => False) w m) (fun h => h) (fun h => h) (fun h => h) (fun _ _ h => h)

set_option maxRecDepth 100000 in
set_option maxHeartbeats 4000000 in
theorem flush_none (w : World) (X R b : Nat) (v : Value) (O : List UInt8) (h : Wr w X R b v O []) : Calls Tryd.prog 19 #[.pointer (some ⟨X, 0, none⟩)] w (FlP w X R b v O) := by
  obtain ⟨c0, c1, c2, c3⟩ := h.cells
  have h' := hide h
  simp only [List.length_nil] at c2
  clear h c1 c3
  go_enter Tryd.func19, Tryd.ntmps19
  go_wp2
  go_ret
  exact ⟨rfl, v, unhide h', Kept.refl _ _, Went.refl _ _⟩

theorem Tryd.methWrite (p : Value) (w : World) : (method 265 25 p "Write").run Tryd.prog w = .ok (94, p) w := by kernel_rfl

set_option maxRecDepth 100000 in
set_option maxHeartbeats 4000000 in
theorem flush_some (w : World) (X R b : Nat) (v : Value) (O Pd : List UInt8) (h : Wr w X R b v O Pd) (hP : 1 ≤ Pd.length) (hlim : O.length + Pd.length ≤ 1099511627776) : Calls Tryd.prog 19 #[.pointer (some ⟨X, 0, none⟩)] w (FlP w X R b v (O ++ Pd)) := by
  obtain ⟨c0, c1, c2, c3⟩ := h.cells
  have hn := h.n
  have hlt := h.lt
  have h' := hide h
  obtain ⟨n, hnd⟩ : ∃ n, n = Pd.length := ⟨_, rfl⟩
  have HR : Hid (∀ m, Calls Tryd.prog 94 #[.pointer (some ⟨b, 0, none⟩), .slice (some ⟨R, 0, none⟩) n 4096] (w.drewN m) (BwP (w.drewN m) b v O Pd)) := fun m => by
    rw [hnd]
    exact bufWrite_any (w.drewN m) b v O Pd (h.drew m).bf R 0 4096 hP h.rb hlt.2.1 (h.drew m).src hlim
  have hSX : Hid (¬ (X = b ∨ v.ownBlock = some X)) := by rintro (e | e); exact h.xb e; exact h.vx e
  have hx := hide h.x
  rw [← hnd] at c2 hn hP hx
  have hnd' := hide hnd
  have hmeth := fun p w => Tryd.methWrite p w
  have hnI : (n : Int) ≤ 4096 := by omega
  have hnI0 : (0 : Int) ≤ n := by omega
  clear h hlt hlim hnd
  go_enter Tryd.func19, Tryd.ntmps19
  go_upto_region 5 with fail
  go_cut [3, 4] from 18 to 37 (fun nv ev wx => nv = .int .i64 n ∧ ev = .nilIface ∧ ∃ e, BwP w b v O Pd e wx)
  case first =>
    go_region_held3 (fun wx => wx.cell? ⟨X, 1, none⟩ = some (.slice (some ⟨R, 0, none⟩) 4096 4096) ∧ wx.cell? ⟨X, 2, none⟩ = some (.int .i64 n) ∧ wx.cell? ⟨X, 3, none⟩ = some (.iface 25 (.pointer (some ⟨b, 0, none⟩))))
      (first | exact ⟨c1, c2, c3⟩ | exact hkeep)
      (first | (go_at_call 94; refine (unhide HR 1).mono ?_; rintro en w3 hbw; obtain ⟨rfl, hbw2⟩ := id hbw; rw [← unhide hnd']; obtain ⟨v', q1, q2, q3⟩ := hbw2; have hx3 := q2.heap (unhide hx) (unhide hSX); have hkeep : w3.cell? ⟨X, 1, none⟩ = some (.slice (some ⟨R, 0, none⟩) 4096 4096) ∧ w3.cell? ⟨X, 2, none⟩ = some (.int .i64 n) ∧ w3.cell? ⟨X, 3, none⟩ = some (.iface 25 (.pointer (some ⟨b, 0, none⟩))) := ⟨by rw [Lib.cell_of_heap hx3]; rfl, by rw [Lib.cell_of_heap hx3]; rfl, by rw [Lib.cell_of_heap hx3]; rfl⟩; have hbw' := hide hbw; clear hbw q1 q2 q3 hx3))
    go_wp2
    go_meet
    case rel => exact ⟨rfl, rfl, _, (unhide hbw').drew⟩
  case rest =>
    obtain ⟨rfl, rfl, e, hbw⟩ := hcut
    obtain ⟨e0, v', q1, q2, q3⟩ := id hbw
    have hx3 := q2.heap (unhide hx) (unhide hSX)
    have d2 : wc.cell? ⟨X, 2, none⟩ = some (.int .i64 n) := by rw [Lib.cell_of_heap hx3]; rfl
    have f2 : wc.frozen? ⟨X, 2, none⟩ = false := Lib.frozen_of_heap hx3 2
    have hfin := hide (flush_last (unhide h') hbw)
    clear hbw e0 q1 q2 q3 hx3 HR hx hSX c0 c1 c2 c3 hmeth h' hnd'
    go_wp2
    go_ret
    exact unhide hfin

theorem flush_any (w : World) (X R b : Nat) (v : Value) (O Pd : List UInt8) (h : Wr w X R b v O Pd) (hlim : O.length + Pd.length ≤ 1099511627776) : Calls Tryd.prog 19 #[.pointer (some ⟨X, 0, none⟩)] w (FlP w X R b v (O ++ Pd)) := by
  rcases Nat.eq_zero_or_pos Pd.length with e | e
  · have e2 : Pd = [] := List.eq_nil_of_length_eq_zero e
    subst e2
    rw [List.append_nil]
    exact flush_none w X R b v O h
  · exact flush_some w X R b v O Pd h e hlim

/-- What NewWriter makes. -/
def NwP (w : World) (b : Nat) (e : Ending) (w' : World) : Prop :=
  e = .returned (.pointer (some ⟨w.heap.size + 1, 0, none⟩)) ∧ (∃ cur : List Value, w'.heap[w.heap.size]? = some (.cells cur.toArray 5 (0, 0)) ∧ cur.length = 4096) ∧
    w'.heap[w.heap.size + 1]? = some (.cells #[.nilIface, .slice (some ⟨w.heap.size, 0, none⟩) 4096 4096, .int .i64 0, .iface 25 (.pointer (some ⟨b, 0, none⟩))] 70 (0, 0)) ∧ Kept (fun _ => False) w w' ∧ w'.heap.size = w.heap.size + 2

theorem Tryd.assertWriter (p : Value) (w : World) : (Instr.typeAssert (.iface 25 p) 65 53 true).run Tryd.prog w = .ok (.tuple #[.pointer none, .bool false]) w := by kernel_rfl

set_option maxRecDepth 100000 in
set_option maxHeartbeats 4000000 in
theorem newWriterSize_any (w : World) (b : Nat) : Calls Tryd.prog 30 #[.iface 25 (.pointer (some ⟨b, 0, none⟩)), .int .i64 4096] w (NwP w b) := by
  obtain ⟨i0, hi, hz0, hz1, hz2⟩ := info_parts Tryd.info5
  obtain ⟨M, hM⟩ : ∃ M, M = madeCells (Value.int .u8 0).cells ((4096 : Int).toNat * i0.size) := ⟨_, rfl⟩
  have hMs : M.size = 4096 := by rw [hM, size_madeCells, hz1]; rfl
  have hmk : ∀ W : World, (Instr.makeSlice 44 (.int .i64 4096) (.int .i64 4096)).run Tryd.prog W = .ok (.slice (some ⟨W.heap.size, 0, none⟩) 4096 4096) (W.alloc (.cells M 5)) := fun W => by
    have h := run_makeSlice (P := Tryd.prog) W 44 5 i0 (.int .u8 0) Tryd.underlying44 hi hz0 .i64 .i64 (4096 : Int) 4096 (by omega) (by omega) (by rw [hz1]; decide) (by rw [hz2]; decide) (by decide)
    rw [← hM] at h
    simpa using h
  clear hM hi hz0 hz1 hz2
  have hTA := fun p w => Tryd.assertWriter p w
  go_enter Tryd.func30, Tryd.ntmps30
  go_wp2
  go_ret
  have hs1 : (w.alloc (.cells M 5)).heap.size = w.heap.size + 1 := size_alloc' _ _
  refine ⟨rfl, ⟨M.toList, ?_, by rw [Array.length_toList]; exact hMs⟩, ?_, ?_, ?_⟩
  · rw [Below.heap_alloc _ _ _ (by rw [hs1]; omega)]
    simpa using heap_alloc_new w (.cells M 5)
  · rw [← hs1]; exact heap_alloc_new _ _
  · exact (Kept.alloc _ w _).trans (Kept.alloc (fun _ => False) _ _) (fun _ h _ => h)
  · rw [size_alloc', hs1]

set_option maxRecDepth 100000 in
set_option maxHeartbeats 4000000 in
theorem newWriter_any (w : World) (b : Nat) : Calls Tryd.prog 22 #[.iface 25 (.pointer (some ⟨b, 0, none⟩))] w (NwP w b) := by
  have HN := hide (newWriterSize_any w b)
  go_enter Tryd.func22, Tryd.ntmps22
  go_wp2_with fail
  refine (unhide HN).mono ?_
  rintro e w' ⟨rfl, h2⟩
  have h2' := hide h2
  clear h2
  go_wp2
  go_ret
  exact ⟨rfl, unhide h2'⟩

end Go.Proofs.Qxb6614069aDoor
