import Derived.Test.Qxb6614069aDoorBuf
namespace Go.Proofs.Qxb6614069aDoor
open Go.RowKit

theorem byteV_one (l : List UInt8) : ∀ v ∈ l.map byteV, v.oneCell' = true := by
  intro u hu
  obtain ⟨b, _, rfl⟩ := List.mem_map.1 hu
  rfl

theorem size5 : (Tryd.prog.info? 5).map (·.size) = some 1 := by
  obtain ⟨i0, hi, -, hz1, -⟩ := info_parts Tryd.info5
  rw [hi]; simp [hz1]

/-- Behind the copy into the buffer's row. -/
theorem write_last {w2 : World} {b k cap : Nat} {lr : Int} {cells : Array Value} {O P : List UInt8} (hb : w2.heap[b]? = some (.cells #[.slice (some ⟨k, 0, none⟩) (O.length + P.length) cap, .int .i64 0, .int .i8 lr] 50 (0, 0)))
    (hk : w2.heap[k]? = some (.cells cells 5 (0, 0))) (hkb : k ≠ b) (hcs : cells.size = cap) (hc : O.length + P.length ≤ cap) (hm : cap ≤ maxLen) (ht : cells.toList.take O.length = O.map byteV) (hP : 1 ≤ P.length) :
    Bf (w2.setRow k (cells.toList.take O.length ++ P.map byteV ++ cells.toList.drop (O.length + P.length)).toArray) b (.slice (some ⟨k, 0, none⟩) (O.length + P.length) cap) (O ++ P) := by
  refine ⟨⟨lr, ?_⟩, ?_, ?_, fun h => absurd h (by rw [List.length_append]; omega)⟩
  · rw [setRow_other _ _ _ _ (Ne.symm hkb)]; exact hb
  · refine ⟨by simp, .inr ⟨k, cap, _, by rw [List.length_append], Nat.zero_le _, setRow_heap _ _ _ _ _ _ hk, by rw [List.length_append]; exact hc, hm, ?_, ?_⟩⟩
    · rw [ht]
      simp only [List.size_toArray, List.length_append, List.length_map, List.length_drop, Array.length_toList]
      omega
    · rw [ht, List.toList_toArray, ← List.map_append, Nat.mul_one, List.take_left' (by simp)]
  · simp only [Value.ownBlock, ne_eq, Option.some.injEq]
    exact hkb

/-- What (*bytes.Buffer).Write leaves. -/
def BwP (w : World) (b : Nat) (v : Value) (O P : List UInt8) (e : Ending) (w' : World) : Prop :=
  e = .returned (.tuple #[.int .i64 (P.length : Nat), .nilIface]) ∧ ∃ v', Bf w' b v' (O ++ P) ∧ Kept (fun k => k = b ∨ v.ownBlock = some k) w w' ∧ Went w v v'

theorem blk_add (a o j : Nat) : ((⟨a, o, none⟩ : Addr).add j).block = a := by rw [Lib.addr_add]

/-- The tail of Write: the copy into the buffer's row, wherever it lies. -/
theorem copy_in {w2 : World} {b k cap : Nat} {lr : Int} {cells : Array Value} {O P : List UInt8} (hb : w2.heap[b]? = some (.cells #[.slice (some ⟨k, 0, none⟩) (O.length + P.length) cap, .int .i64 0, .int .i8 lr] 50 (0, 0)))
    (hk : w2.heap[k]? = some (.cells cells 5 (0, 0))) (hkb : k ≠ b) (hcs : cells.size = cap) (hc : O.length + P.length ≤ cap) (hm : cap ≤ maxLen) (ht : cells.toList.take O.length = O.map byteV) (hP : 1 ≤ P.length)
    (a o c : Nat) (hsrc : ∀ j u, (P.map byteV)[j]? = some u → w2.cell? ((⟨a, o, none⟩ : Addr).add j) = some u) :
    ∃ R3, (Builtin.copy_ #[44, 44] 3 #[.slice (some ⟨k, O.length, none⟩) P.length (cap - O.length), .slice (some ⟨a, o, none⟩) P.length c]).run Tryd.prog w2 = .ok (goInt P.length) R3 ∧
      Bf R3 b (.slice (some ⟨k, 0, none⟩) (O.length + P.length) cap) (O ++ P) ∧ Kept (fun j => j = k) w2 R3 := by
  have hcp := run_copy_row (P := Tryd.prog) w2 44 44 3 5 k O.length P.length (cap - O.length) ⟨a, o, none⟩ P.length c cells 5 (P.map byteV) Tryd.underlying44 size5 hk (by rw [List.length_map]; exact (Nat.min_self _).symm) hsrc (by rw [List.length_map]; omega) (byteV_one P)
  rw [List.length_map] at hcp
  exact ⟨_, hcp, write_last hb hk hkb hcs hc hm ht hP, Kept.setRow _ _ _⟩

set_option maxHeartbeats 2000000 in
set_option maxRecDepth 100000 in
theorem bufWrite_walkA (w w1 w2 R3 : World) (b k l n cap a o c : Nat) (lr : Int) (Post : Ending → World → Prop) (c2 : w.cell? ⟨b, 2, none⟩ = some (.int .i8 lr)) (f2 : w.frozen? ⟨b, 2, none⟩ = false) (hw1 : w.setCell ⟨b, 2, none⟩ (.int .i8 0) = w1)
    (HT : Hid (Calls Tryd.prog 96 #[.pointer (some ⟨b, 0, none⟩), .int .i64 n] w1 fun e w' => e = .returned (.tuple #[.int .i64 l, .bool true]) ∧ w' = w2))
    (d0 : w2.cell? ⟨b, 0, none⟩ = some (.slice (some ⟨k, 0, none⟩) (l + n) cap)) (hn : 1 ≤ n) (_hc : l + n ≤ cap) (_hm : cap ≤ 9223372036854775807) (hne : ¬ cap = l)
    (hcp : (Builtin.copy_ #[44, 44] 3 #[.slice (some ⟨k, l, none⟩) n (cap - l), .slice (some ⟨a, o, none⟩) n c]).run Tryd.prog w2 = .ok (goInt n) R3)
    (hfin : Hid (Post (.returned (.tuple #[.int .i64 n, .nilIface])) R3)) :
    Calls Tryd.prog 94 #[.pointer (some ⟨b, 0, none⟩), .slice (some ⟨a, o, none⟩) n c] w Post := by
  go_enter Tryd.func94, Tryd.ntmps94
  go_wp2_with fail
  refine (unhide HT).mono ?_
  rintro e w' ⟨rfl, hw⟩
  replace hw := hw.symm
  subst hw
  go_wp2
  exact unhide hfin

set_option maxHeartbeats 2000000 in
set_option maxRecDepth 100000 in
theorem bufWrite_walkB (w w1 : World) (b l n a o c : Nat) (lr : Int) (Post : Ending → World → Prop) (c2 : w.cell? ⟨b, 2, none⟩ = some (.int .i8 lr)) (f2 : w.frozen? ⟨b, 2, none⟩ = false) (hw1 : w.setCell ⟨b, 2, none⟩ (.int .i8 0) = w1)
    (HT : Hid (Calls Tryd.prog 96 #[.pointer (some ⟨b, 0, none⟩), .int .i64 n] w1 fun e w' => e = .returned (.tuple #[.int .i64 0, .bool false]) ∧ w' = w1)) (hn : 1 ≤ n)
    (HG : Hid (Calls Tryd.prog 97 #[.pointer (some ⟨b, 0, none⟩), .int .i64 n] w1 fun e w' => e = .returned (.int .i64 l) ∧ ∃ k cap R3, w'.cell? ⟨b, 0, none⟩ = some (.slice (some ⟨k, 0, none⟩) (l + n) cap) ∧ l + n ≤ cap ∧ cap ≤ 9223372036854775807 ∧
      (Builtin.copy_ #[44, 44] 3 #[.slice (some ⟨k, l, none⟩) n (cap - l), .slice (some ⟨a, o, none⟩) n c]).run Tryd.prog w' = .ok (goInt n) R3 ∧ Post (.returned (.tuple #[.int .i64 n, .nilIface])) R3)) :
    Calls Tryd.prog 94 #[.pointer (some ⟨b, 0, none⟩), .slice (some ⟨a, o, none⟩) n c] w Post := by
  go_enter Tryd.func94, Tryd.ntmps94
  go_wp2_with fail
  refine (unhide HT).mono ?_
  rintro e w' ⟨rfl, hw⟩
  subst hw
  go_wp2_with fail
  refine (unhide HG).mono ?_
  rintro e w2 ⟨rfl, k, cap, R3, d0, q1, q2, hcp, hfin⟩
  have hfin' := hide hfin
  have hne : ¬ cap = l := by omega
  clear hfin HT HG
  go_wp2
  exact unhide hfin'

theorem bufWrite_room (w : World) (b g cap : Nat) (lr : Int) (cur : Array Value) (O P : List UInt8) (hb : w.heap[b]? = some (.cells #[.slice (some ⟨g, 0, none⟩) O.length cap, .int .i64 0, .int .i8 lr] 50 (0, 0)))
    (hg : w.heap[g]? = some (.cells cur 5 (0, 0))) (hgb : g ≠ b) (hcs : cur.size = cap) (hc : O.length + P.length ≤ cap) (hm : cap ≤ maxLen) (ht : cur.toList.take O.length = O.map byteV)
    (a o c : Nat) (hP : 1 ≤ P.length) (hab : a ≠ b) (hsrc : ∀ j u, (P.map byteV)[j]? = some u → w.cell? ((⟨a, o, none⟩ : Addr).add j) = some u) :
    Calls Tryd.prog 94 #[.pointer (some ⟨b, 0, none⟩), .slice (some ⟨a, o, none⟩) P.length c] w (BwP w b (.slice (some ⟨g, 0, none⟩) O.length cap) O P) := by
  have c2 : w.cell? ⟨b, 2, none⟩ = some (.int .i8 lr) := by rw [Lib.cell_of_heap hb]; rfl
  have f2 : w.frozen? ⟨b, 2, none⟩ = false := Lib.frozen_of_heap hb 2
  obtain ⟨w1, hw1⟩ : ∃ w1, w.setCell ⟨b, 2, none⟩ (.int .i8 0) = w1 := ⟨_, rfl⟩
  have hb1 : w1.heap[b]? = some (.cells #[.slice (some ⟨g, 0, none⟩) O.length cap, .int .i64 0, .int .i8 0] 50 (0, 0)) := by rw [← hw1]; exact Lib.heap_setCell_same (i := 2) hb (.int .i8 0)
  have k0 : w1.cell? ⟨b, 0, none⟩ = some (.slice (some ⟨g, 0, none⟩) O.length cap) := by rw [Lib.cell_of_heap hb1]; rfl
  have kf0 : w1.frozen? ⟨b, 0, none⟩ = false := Lib.frozen_of_heap hb1 0
  have HT := Any.Buffer_tryGrow_room { Tryd.laysM252 with } b _ O.length cap P.length w1 k0 kf0 (by omega) hm (by omega)
  obtain ⟨w2, hw2⟩ : ∃ w2, w1.setCell ⟨b, 0, none⟩ (.slice (some ⟨g, 0, none⟩) (O.length + P.length) cap) = w2 := ⟨_, rfl⟩
  rw [hw2] at HT
  have hb2 : w2.heap[b]? = some (.cells #[.slice (some ⟨g, 0, none⟩) (O.length + P.length) cap, .int .i64 0, .int .i8 0] 50 (0, 0)) := by rw [← hw2]; exact Lib.heap_setCell_same (i := 0) hb1 _
  have hK1 : Kept (fun k => k = b) w w1 := by rw [← hw1]; exact Kept.setCell w ⟨b, 2, none⟩ _
  have hK2 : Kept (fun k => k = b) w w2 := by rw [← hw2]; exact hK1.trans (Kept.setCell w1 ⟨b, 0, none⟩ _) (fun _ h _ => h)
  have hg2 := hK2.heap hg hgb
  obtain ⟨R3, hcp, hB, hK3⟩ := copy_in (P := P) hb2 hg2 hgb hcs hc hm ht hP a o c (fun j u hj => by
    rw [World.cell?_of_block (w := w) (by rw [blk_add]; exact hK2.block a (by
      have := hsrc j u hj
      exact (blk_add a o j) ▸ World.block_lt_of_cell? w _ this) hab)]
    exact hsrc j u hj)
  refine bufWrite_walkA w w1 w2 R3 b g O.length P.length cap a o c lr _ c2 f2 hw1 HT (by rw [Lib.cell_of_heap hb2]; rfl) hP hc hm (by omega) hcp ⟨rfl, _, hB, ?_, .inl rfl⟩
  exact (hK2.mono (fun _ h _ => .inl h)).trans hK3 (fun j hj _ => .inr (by simp [Value.ownBlock, hj]))

theorem bufWrite_grow (w : World) (b : Nat) (v : Value) (lr : Int) (ao : Option Addr) (cap : Nat) (O P : List UInt8) (hv : v = .slice ao O.length cap) (hb : w.heap[b]? = some (.cells #[v, .int .i64 0, .int .i8 lr] 50 (0, 0)))
    (hOc : O.length ≤ cap) (hm : cap ≤ maxLen) (hroom : cap - O.length < P.length)
    (a o c : Nat) (hab : a ≠ b) (ha : a < w.heap.size) (hsrc : ∀ j u, (P.map byteV)[j]? = some u → w.cell? ((⟨a, o, none⟩ : Addr).add j) = some u)
    (HG : ∀ w1 : World, w1.heap[b]? = some (.cells #[v, .int .i64 0, .int .i8 0] 50 (0, 0)) → Kept (fun k => k = b) w w1 → Calls Tryd.prog 97 #[.pointer (some ⟨b, 0, none⟩), .int .i64 P.length] w1 fun e w' => e = .returned (.int .i64 O.length) ∧ Grew w1 b O.length P.length (O.map byteV) w') :
    Calls Tryd.prog 94 #[.pointer (some ⟨b, 0, none⟩), .slice (some ⟨a, o, none⟩) P.length c] w (BwP w b v O P) := by
  have hP : 1 ≤ P.length := by omega
  have c2 : w.cell? ⟨b, 2, none⟩ = some (.int .i8 lr) := by rw [Lib.cell_of_heap hb]; rfl
  have f2 : w.frozen? ⟨b, 2, none⟩ = false := Lib.frozen_of_heap hb 2
  obtain ⟨w1, hw1⟩ : ∃ w1, w.setCell ⟨b, 2, none⟩ (.int .i8 0) = w1 := ⟨_, rfl⟩
  have hb1 : w1.heap[b]? = some (.cells #[v, .int .i64 0, .int .i8 0] 50 (0, 0)) := by rw [← hw1]; exact Lib.heap_setCell_same (i := 2) hb (.int .i8 0)
  have k0 : w1.cell? ⟨b, 0, none⟩ = some (.slice ao O.length cap) := by rw [Lib.cell_of_heap hb1, ← hv]; rfl
  have HT := Any.Buffer_tryGrow_none { Tryd.laysM252 with } b _ O.length cap P.length w1 k0 hOc hm hroom
  have hK1 : Kept (fun k => k = b) w w1 := by rw [← hw1]; exact Kept.setCell w ⟨b, 2, none⟩ _
  have hsz : w1.heap.size = w.heap.size := by rw [← hw1]; simp [World.setCell]
  refine bufWrite_walkB w w1 b O.length P.length a o c lr _ c2 f2 hw1 HT hP ((HG w1 hb1 hK1).mono ?_)
  rintro e w2 ⟨rfl, k, cap2, cells, lr2, q1, q2, q3, q4, q5, q6, q7, q8⟩
  have hblt := Lib.lt_of_heap hb
  have hkb : k ≠ b := by omega
  have hK2 : Kept (fun k => k = b) w w2 := hK1.trans (Kept.grown q8) (fun j hj _ => by simpa using hj.symm)
  obtain ⟨R3, hcp, hB, hK3⟩ := copy_in (P := P) q2 q3 hkb q4 q5 q6 q7 hP a o c (fun j u hj => by
    rw [World.cell?_of_block (w := w) (by rw [blk_add]; exact hK2.block a ha hab)]
    exact hsrc j u hj)
  refine ⟨rfl, k, cap2, R3, by rw [Lib.cell_of_heap q2]; rfl, q5, q6, hcp, rfl, _, hB, ?_, .inr ⟨k, rfl, by omega⟩⟩
  exact (hK2.mono (fun _ h _ => .inl h)).trans hK3 (fun j hj hlt => by omega)

/-- (*bytes.Buffer).Write. -/
theorem bufWrite_any (w : World) (b : Nat) (v : Value) (O P : List UInt8) (h : Bf w b v O) (a o c : Nat) (hP : 1 ≤ P.length) (hab : a ≠ b) (ha : a < w.heap.size)
    (hsrc : ∀ j u, (P.map byteV)[j]? = some u → w.cell? ((⟨a, o, none⟩ : Addr).add j) = some u) (hlim : O.length + P.length ≤ 1099511627776) :
    Calls Tryd.prog 94 #[.pointer (some ⟨b, 0, none⟩), .slice (some ⟨a, o, none⟩) P.length c] w (BwP w b v O P) := by
  obtain ⟨lr, hb⟩ := h.blk
  rcases h.own.2 with ⟨rfl, h0⟩ | ⟨g, cap, cur, rfl, -, hg, hOc, hm, hcs, htk⟩
  · have hO : O = [] := List.eq_nil_of_length_eq_zero h0
    subst hO
    refine bufWrite_grow w b _ lr none 0 [] P rfl hb (Nat.zero_le _) (by unfold maxLen; omega) (by simp; omega) a o c hab ha hsrc (fun w1 hb1 hk1 => ?_)
    by_cases h64 : P.length ≤ 64
    · exact grow_nil_small b P.length 0 _ hb1 hP h64
    · exact grow_nil_big b P.length 0 _ hb1 (by omega) (by omega)
  · have hgb : g ≠ b := fun e => h.ne (by rw [e]; rfl)
    rw [Nat.mul_one] at hcs htk
    by_cases hroom : O.length + P.length ≤ cap
    · exact bufWrite_room w b g cap lr cur O P hb hg hgb hcs hroom hm htk a o c hP hab hsrc
    · have hl0 : 1 ≤ O.length := by
        rcases Nat.eq_zero_or_pos O.length with e | e
        · exact absurd (h.nil e) (by simp)
        · exact e
      refine bufWrite_grow w b _ lr (some ⟨g, 0, none⟩) cap O P rfl hb hOc hm (by omega) a o c hab ha hsrc (fun w1 hb1 hk1 => ?_)
      exact grow_row b g O.length cap P.length 0 cur (O.map byteV) _ hb1 (by simp) hl0 (hk1.heap hg hgb) hOc hm hcs htk hgb (byteV_one O) hP (by omega) (by omega)

end Go.Proofs.Qxb6614069aDoor
