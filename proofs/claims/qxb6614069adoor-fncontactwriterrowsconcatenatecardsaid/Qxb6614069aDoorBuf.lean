import Derived.Test.Qxb6614069aDoorWr
import Derived.Lib.BufferOwn
namespace Go.Proofs.Qxb6614069aDoor
open Go.RowKit

/-- Behind grow: the buffer's slice lies in a new block, with room for n bytes more. -/
def Grew (w : World) (b l n : Nat) (bs : List Value) (w' : World) : Prop :=
  ∃ k cap cells lr, w.heap.size ≤ k ∧ w'.heap[b]? = some (.cells #[.slice (some ⟨k, 0, none⟩) (l + n) cap, .int .i64 0, .int .i8 lr] 50 (0, 0)) ∧
    w'.heap[k]? = some (.cells cells 5 (0, 0)) ∧ cells.size = cap ∧ l + n ≤ cap ∧ cap ≤ maxLen ∧ cells.toList.take l = bs ∧ w.grownBy w' (some b)

theorem grow_last {w w2 : World} {b l n k cap : Nat} {lr : Int} {v0 v1 : Value} {cells : Array Value} {bs : List Value} (hk : w.heap.size ≤ k) (hkb : k ≠ b) (hb : w2.heap[b]? = some (.cells #[v0, .int .i64 0, .int .i8 lr] 50 (0, 0)))
    (hN : w2.heap[k]? = some (.cells cells 5 (0, 0))) (hcs : cells.size = cap) (hc : l + n ≤ cap) (hm : cap ≤ maxLen) (ht : cells.toList.take l = bs) (hg : w.grownBy w2 (some b)) :
    Grew w b l n bs (((w2.setCell ⟨b, 0, none⟩ v1).setCell ⟨b, 1, none⟩ (.int .i64 0)).setCell ⟨b, 0, none⟩ (.slice (some ⟨k, 0, none⟩) (l + n) cap)) := by
  refine ⟨k, cap, cells, lr, hk, ?_, ?_, hcs, hc, hm, ht, Lib.grownBy_setB (Lib.grownBy_setB (Lib.grownBy_setB hg 0 _) 1 _) 0 _⟩
  · have h1 := Lib.heap_setCell_same (i := 0) hb v1
    have h2 := Lib.heap_setCell_same (i := 1) h1 (.int .i64 0)
    have h3 := Lib.heap_setCell_same (i := 0) h2 (.slice (some ⟨k, 0, none⟩) (l + n) cap)
    exact h3
  · rw [Below.heap_setCell _ _ _ _ hkb, Below.heap_setCell _ _ _ _ hkb, Below.heap_setCell _ _ _ _ hkb]
    exact hN

set_option maxHeartbeats 6400000 in
set_option maxRecDepth 100000 in
theorem grow_nil_small (b n : Nat) (lr : Int) (w : World) (hbk : w.heap[b]? = some (.cells #[.slice none 0 0, .int .i64 0, .int .i8 lr] 50 (0, 0))) (hn : 1 ≤ n) (h64 : n ≤ 64) :
    Calls Tryd.prog 97 #[.pointer (some ⟨b, 0, none⟩), .int .i64 n] w fun e w' => e = .returned (.int .i64 0) ∧ Grew w b 0 n [] w' := by
  obtain ⟨i0, hi, hz0, hz1, hz2⟩ := info_parts Tryd.info5
  obtain ⟨M, hM⟩ : ∃ M, M = madeCells (Value.int .u8 0).cells ((64 : Int).toNat * i0.size) := ⟨_, rfl⟩
  have hMs : M.size = 64 := by rw [hM, size_madeCells, hz1]; rfl
  have hmk : ∀ W : World, (Instr.makeSlice 44 (.int .i64 (n : Int)) (.int .i64 64)).run Tryd.prog W = .ok (.slice (some ⟨W.heap.size, 0, none⟩) n 64) (W.alloc (.cells M 5)) := fun W => by
    have h := run_makeSlice (P := Tryd.prog) W 44 5 i0 (.int .u8 0) Tryd.underlying44 hi hz0 .i64 .i64 (n : Int) 64 (by omega) (by omega) (by rw [hz1]; decide) (by rw [hz2]; decide) (by decide)
    rw [← hM] at h
    simpa using h
  clear hM hi hz0 hz1 hz2
  have hIs : Lib.IsBuffer 50 5 0 b [] w := ⟨Nat.zero_le _, _, _, hbk, World.ownsRow_nil _ _ _ _, by simp [Value.ownBlock]⟩
  have hnil : ∀ W, (binOp .eql 44 (.slice none 0 0) (.slice none 0 0)).run Tryd.prog W = .ok (.bool true) W := fun W => Lib.run_eql_slice_nil_nil W _ _ Tryd.underlying44
  have mixed := Tryd.laysM252.mixed
  have HLen := hide (Any.Buffer_Len { Tryd.laysM252 with } 0 b [] w hIs)
  have hbk' := hide hbk
  clear hbk hIs
  go_enter Tryd.func97, Tryd.ntmps97
  go_wp2_with fail
  refine (unhide HLen).mono ?_
  rintro e W0 ⟨rfl, k, hW0⟩
  subst hW0
  have hbk0 : (w.drewN k).heap[b]? = some (.cells #[.slice none 0 0, .int .i64 0, .int .i8 lr] 50 (0, 0)) := unhide hbk'
  have c0 : (w.drewN k).cell? ⟨b, 0, none⟩ = some (.slice none 0 0) := by rw [Lib.cell_of_heap hbk0]; rfl
  have c1 : (w.drewN k).cell? ⟨b, 1, none⟩ = some (.int .i64 0) := by rw [Lib.cell_of_heap hbk0]; rfl
  have f0 : (w.drewN k).frozen? ⟨b, 0, none⟩ = false := Lib.frozen_of_heap hbk0 0
  have hbW0 := Lib.lt_of_heap hbk0
  have c0a : ∀ o, ((w.drewN k).alloc o).cell? ⟨b, 0, none⟩ = some (.slice none 0 0) := fun o => (World.cell?_of_block (a := ⟨b, 0, none⟩) (Below.heap_alloc (w.drewN k) o b hbW0)).trans c0
  have f0a : ∀ o, ((w.drewN k).alloc o).frozen? ⟨b, 0, none⟩ = false := fun o => (World.frozen?_of_block (a := ⟨b, 0, none⟩) (Below.heap_alloc (w.drewN k) o b hbW0)).trans f0
  have HT := hide (Any.Buffer_tryGrow_none { Tryd.laysM252 with } b none 0 0 n (w.drewN k) c0 (Nat.le_refl _) (Nat.zero_le _) (by omega))
  clear hbk0
  go_wp2_with fail
  refine (unhide HT).mono ?_
  rintro e w' ⟨rfl, hw⟩
  replace hw := hw.symm
  subst hw
  go_wp2
  go_ret
  refine ⟨rfl, (w.drewN k).heap.size, 64, M, lr, Nat.le_refl _, ?_, ?_, hMs, by omega, by unfold maxLen; omega, by simp, ?_⟩
  · first
      | exact (by rw [Nat.zero_add]; exact Lib.heap_setCell_same (i := 0) ((Below.heap_alloc _ _ _ hbW0).trans (unhide hbk')) _)
      | exact (by rw [Nat.zero_add]; exact (Below.heap_alloc _ _ _ (by simpa [World.setCell] using hbW0)).trans (Lib.heap_setCell_same (i := 0) (unhide hbk') _))
  · first
      | exact (by rw [Below.heap_setCell _ _ _ _ (by show w.heap.size ≠ b; have : b < w.heap.size := hbW0; omega)]; exact heap_alloc_new _ _)
      | exact (by have e : (w.drewN k).heap.size = ((w.drewN k).setCell ⟨b, 0, none⟩ (.slice (some ⟨(w.drewN k).heap.size, 0, none⟩) n 64)).heap.size := by simp [World.setCell]
                  rw [e]; exact heap_alloc_new _ _)
  · first
      | exact grownBy_then (grownBy_drew w k _) (Lib.grownBy_setB (World.grownBy_alloc _ _ _) 0 _) (.inl rfl)
      | exact grownBy_then (grownBy_drew w k _) (Lib.grownBy_allocR (Lib.grownBy_setB (grownBy_refl _ _) 0 _) _) (.inl rfl)

set_option maxHeartbeats 12800000 in
set_option maxRecDepth 100000 in
theorem grow_nil_big (b n : Nat) (lr : Int) (w : World) (hbk : w.heap[b]? = some (.cells #[.slice none 0 0, .int .i64 0, .int .i8 lr] 50 (0, 0))) (h64 : 64 < n) (hlim : n ≤ 140737488355328) :
    Calls Tryd.prog 97 #[.pointer (some ⟨b, 0, none⟩), .int .i64 n] w fun e w' => e = .returned (.int .i64 0) ∧ Grew w b 0 n [] w' := by
  have hIs : Lib.IsBuffer 50 5 0 b [] w := ⟨Nat.zero_le _, _, _, hbk, World.ownsRow_nil _ _ _ _, by simp [Value.ownBlock]⟩
  have hnil : ∀ W, (binOp .eql 44 (.slice none 0 0) (.slice none 0 0)).run Tryd.prog W = .ok (.bool true) W := fun W => Lib.run_eql_slice_nil_nil W _ _ Tryd.underlying44
  have mixed := Tryd.laysM252.mixed
  have HLen := hide (Any.Buffer_Len { Tryd.laysM252 with } 0 b [] w hIs)
  have hbk' := hide hbk
  have hn : 1 ≤ n := by omega
  clear hbk hIs
  go_enter Tryd.func97, Tryd.ntmps97
  go_wp2_with fail
  refine (unhide HLen).mono ?_
  rintro e W0 ⟨rfl, k, hW0⟩
  have hbk0 : W0.heap[b]? = some (.cells #[.slice none 0 0, .int .i64 0, .int .i8 lr] 50 (0, 0)) := by rw [hW0]; exact unhide hbk'
  have c0 : W0.cell? ⟨b, 0, none⟩ = some (.slice none 0 0) := by rw [Lib.cell_of_heap hbk0]; rfl
  have c1 : W0.cell? ⟨b, 1, none⟩ = some (.int .i64 0) := by rw [Lib.cell_of_heap hbk0]; rfl
  have f0 : W0.frozen? ⟨b, 0, none⟩ = false := Lib.frozen_of_heap hbk0 0
  have f1 : W0.frozen? ⟨b, 1, none⟩ = false := Lib.frozen_of_heap hbk0 1
  have hbW := Lib.lt_of_heap hbk0
  have HT := hide (Any.Buffer_tryGrow_none { Tryd.laysM252 with } b none 0 0 n W0 c0 (Nat.le_refl _) (Nat.zero_le _) (by omega))
  have HW0 := hide hW0
  have hbk0' := hide hbk0
  clear hW0 hbk0
  have hwn : IntKind.i64.wrap (n : Int) = n := by rw [IntKind.wrap_i64]; omega
  go_wp2_with fail
  refine (unhide HT).mono ?_
  rintro e w' ⟨rfl, hw⟩
  replace hw := hw.symm
  subst hw
  go_wp2_with fail
  go_region_with_o (
      go_at_call 99
      refine (Any.bytes_growSlice_nil { Tryd.laysM252 with } n _ hn hlim).mono ?_
      rintro e w2 ⟨cap2, cells, rfl, hN, hcsz, hcap2, hcm2, hbel⟩
      have hbk2 : w2.heap[b]? = some (.cells #[.slice none 0 0, .int .i64 0, .int .i8 lr] 50 (0, 0)) := (hbel.block b hbW).trans (unhide hbk0')
      have d0 : w2.cell? ⟨b, 0, none⟩ = some (.slice none 0 0) := by rw [Lib.cell_of_heap hbk2]; rfl
      have d1 : w2.cell? ⟨b, 1, none⟩ = some (.int .i64 0) := by rw [Lib.cell_of_heap hbk2]; rfl
      have e0 : w2.frozen? ⟨b, 0, none⟩ = false := Lib.frozen_of_heap hbk2 0
      have e1 : w2.frozen? ⟨b, 1, none⟩ = false := Lib.frozen_of_heap hbk2 1)
  all_goals (
    go_wp2
    go_ret
    have hsz0 : W0.heap.size = w.heap.size := by rw [unhide HW0]; rfl
    have hg2 : w.grownBy w2 (some b) := Lib.grownBy_below (w := W0.drew) (by rw [unhide HW0]; exact ⟨rfl, rfl, rfl, Nat.le_refl _, fun _ _ _ => rfl⟩) hbel
    have hfin := grow_last (w := w) (l := 0) (n := n) (bs := []) (v1 := .slice (some ⟨W0.heap.size, 0, none⟩) 0 cap2) (by show w.heap.size ≤ W0.heap.size; omega) (by show W0.heap.size ≠ b; omega) hbk2 hN hcsz (by omega) hcm2 (by simp) hg2
    rw [Nat.zero_add] at hfin
    exact ⟨rfl, hfin⟩)

set_option maxHeartbeats 12800000 in
set_option maxRecDepth 100000 in
theorem grow_row (b g l cap n : Nat) (lr : Int) (cur : Array Value) (bs : List Value) (w : World)
    (hbk : w.heap[b]? = some (.cells #[.slice (some ⟨g, 0, none⟩) l cap, .int .i64 0, .int .i8 lr] 50 (0, 0)))
    (hl : bs.length = l) (hl0 : 1 ≤ l) (hg : w.heap[g]? = some (.cells cur 5 (0, 0))) (hlc : l ≤ cap) (hcm : cap ≤ maxLen) (hcs : cur.size = cap) (htake : cur.toList.take l = bs) (hgb : g ≠ b)
    (h1 : ∀ v ∈ bs, v.oneCell' = true) (hn : 1 ≤ n) (hroom : cap - l < n) (hlim : l + n ≤ 140737488355328) :
    Calls Tryd.prog 97 #[.pointer (some ⟨b, 0, none⟩), .int .i64 n] w fun e w' => e = .returned (.int .i64 l) ∧ Grew w b l n bs w' := by
  have hIs : Lib.IsBuffer 50 5 0 b bs w := ⟨Nat.zero_le _, _, _, hbk, ⟨by rw [hl, Nat.mul_one], .inr ⟨g, cap, cur, by rw [hl], Nat.zero_le _, hg, by omega, hcm, by omega, by rw [hl, Nat.mul_one]; exact htake⟩⟩, by simp [Value.ownBlock]; exact hgb⟩
  have hnil : ∀ W, (binOp .eql 44 (.slice (some ⟨g, 0, none⟩) l cap) (.slice none 0 0)).run Tryd.prog W = .ok (.bool false) W := fun W => Lib.run_eql_slice_some_nil W _ _ _ Tryd.underlying44
  have mixed := Tryd.laysM252.mixed
  have HLen := hide (Any.Buffer_Len { Tryd.laysM252 with } 0 b bs w hIs)
  rw [hl] at HLen
  have hbk' := hide hbk
  have hg' := hide hg
  have hcs' := hide hcs
  have ht' := hide htake
  have hc2 : cap ≤ 140737488355328 := by omega
  have h1' : Hid (∀ v ∈ cur.toList.take l, v.oneCell' = true) := by rw [htake]; exact h1
  have hcm' := hcm
  unfold maxLen at hcm'
  clear hbk hIs hg hcs htake hl h1
  have hl0' : ¬ ((l : Int) = 0) := by omega
  go_enter Tryd.func97, Tryd.ntmps97
  go_wp2_with fail
  refine (unhide HLen).mono ?_
  rintro e W0 ⟨rfl, k, hW0⟩
  have hbk0 : W0.heap[b]? = some (.cells #[.slice (some ⟨g, 0, none⟩) l cap, .int .i64 0, .int .i8 lr] 50 (0, 0)) := by rw [hW0]; exact unhide hbk'
  have hg0 : Hid (W0.heap[g]? = some (.cells cur 5 (0, 0))) := by rw [hW0]; exact unhide hg'
  have c0 : W0.cell? ⟨b, 0, none⟩ = some (.slice (some ⟨g, 0, none⟩) l cap) := by rw [Lib.cell_of_heap hbk0]; rfl
  have c1 : W0.cell? ⟨b, 1, none⟩ = some (.int .i64 0) := by rw [Lib.cell_of_heap hbk0]; rfl
  have f0 : W0.frozen? ⟨b, 0, none⟩ = false := Lib.frozen_of_heap hbk0 0
  have f1 : W0.frozen? ⟨b, 1, none⟩ = false := Lib.frozen_of_heap hbk0 1
  have hbW := Lib.lt_of_heap hbk0
  have HT := hide (Any.Buffer_tryGrow_none { Tryd.laysM252 with } b _ l cap n W0 c0 hlc hcm hroom)
  have HW0 := hide hW0
  have hbk0' := hide hbk0
  clear hW0 hbk0
  have hwn : IntKind.i64.wrap (n : Int) = n := by rw [IntKind.wrap_i64]; omega
  go_wp2_with fail
  refine (unhide HT).mono ?_
  rintro e w' ⟨rfl, hw⟩
  replace hw := hw.symm
  subst hw
  go_wp2_with fail
  go_region_with_o (
      go_at_call 99
      refine (Any.bytes_growSlice_row { Tryd.laysM252 with } g l cap n cur _ ?_ (unhide hcs') hlc hn hlim hc2 (unhide h1')).mono ?_
      exact unhide hg0
      rintro e w2 ⟨cap2, cells, rfl, hN, hcsz, htk, hcap2, hcm2, hbel⟩
      have hbk2 : w2.heap[b]? = some (.cells #[.slice (some ⟨g, 0, none⟩) l cap, .int .i64 0, .int .i8 lr] 50 (0, 0)) := (hbel.block b hbW).trans (unhide hbk0')
      have d0 : w2.cell? ⟨b, 0, none⟩ = some (.slice (some ⟨g, 0, none⟩) l cap) := by rw [Lib.cell_of_heap hbk2]; rfl
      have d1 : w2.cell? ⟨b, 1, none⟩ = some (.int .i64 0) := by rw [Lib.cell_of_heap hbk2]; rfl
      have e0 : w2.frozen? ⟨b, 0, none⟩ = false := Lib.frozen_of_heap hbk2 0
      have e1 : w2.frozen? ⟨b, 1, none⟩ = false := Lib.frozen_of_heap hbk2 1)
  all_goals (
    go_wp2
    go_ret
    have hsz0 : W0.heap.size = w.heap.size := by rw [unhide HW0]; rfl
    have hg2 : w.grownBy w2 (some b) := Lib.grownBy_below (w := W0.drew) (by rw [unhide HW0]; exact ⟨rfl, rfl, rfl, Nat.le_refl _, fun _ _ _ => rfl⟩) hbel
    have hfin := grow_last (w := w) (l := l) (n := n) (bs := bs) (v1 := .slice (some ⟨W0.heap.size, 0, none⟩) l cap2) (by show w.heap.size ≤ W0.heap.size; omega) (by show W0.heap.size ≠ b; omega) hbk2 hN hcsz (by omega) hcm2 (htk.trans (unhide ht')) hg2
    exact ⟨rfl, hfin⟩)

end Go.Proofs.Qxb6614069aDoor
